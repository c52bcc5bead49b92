/- The plain law of names: a column's letters and a row's digits read back as the numbers. -/
import Derived.Test.YtfbenlenihlpbaaDoorCellB
import Derived.Test.YtfbenlenihlpbaaDoorPColumnNamex1
import Derived.Test.YtfbenlenihlpbaaDoorPDigitsx1
namespace Go.Proofs.YtfbenlenihlpbaaDoor.Names
open Go.RowKit Go.Proofs.YtfbenlenihlpbaaDoorW.PrintWords Go.Proofs.YtfbenlenihlpbaaDoorW.PrintLast Go.Proofs.YtfbenlenihlpbaaDoorW.PrintMore
open Go.Proofs.YtfbenlenihlpbaaDoor.Str Go.Proofs.YtfbenlenihlpbaaDoor.CellB Go.Proofs.YtfbenlenihlpbaaDoor.PColumnName Go.Proofs.YtfbenlenihlpbaaDoor.PDigits

theorem colVal_snoc (ls : List Int) (x : Int) : colVal (ls ++ [x]) = 26 * colVal ls + (x - 64) := by
  unfold colVal
  rw [List.foldl_append]
  rfl
theorem rowVal_snoc (ls : List Int) (x : Int) : rowVal (ls ++ [x]) = 10 * rowVal ls + (x - 48) := by
  unfold rowVal
  rw [List.foldl_append]
  rfl

def top : Nat → Int
  | 0 => 0
  | m + 1 => 26 * top m + 26

theorem column_loop : ∀ (m : Nat) (n : Int) (acc : ByteArray), 0 ≤ n → n ≤ top m → n ≤ 16384 → acc.size + m ≤ 1000 →
    ∃ k ls name, spec_ColumnName.l0 k n acc = some (name, true) ∧ bytesOf name = ls ++ bytesOf acc ∧ ls.length ≤ m ∧ (1 ≤ n → 1 ≤ ls.length) ∧ (∀ x ∈ ls, 65 ≤ x ∧ x ≤ 90) ∧ colVal ls = n := by
  intro m
  induction m with
  | zero =>
    intro n acc h0 h1 h2 h3
    have : n = 0 := by simp only [top] at h1; omega
    subst this
    exact ⟨1, [], acc, by simp [spec_ColumnName.l0], rfl, by simp, by omega, by simp, rfl⟩
  | succ m ih =>
    intro n acc h0 h1 h2 h3
    by_cases hn : 0 < n
    · have e1 : wrap64 (n - 1) = n - 1 := w64 _ (by omega) (by omega)
      have e2 : Int.tmod (n - 1) 26 = (n - 1) % 26 := Int.tmod_eq_emod_of_nonneg (by omega)
      have e3 : wrap64 (65 + (n - 1) % 26) = 65 + (n - 1) % 26 := w64 _ (by omega) (by omega)
      have e4 : (65 + (n - 1) % 26) % 256 = 65 + (n - 1) % 26 := by omega
      have e5 : wrap64 (n - 1 - (n - 1) % 26) = n - 1 - (n - 1) % 26 := w64 _ (by omega) (by omega)
      have e6 : Int.tdiv (n - 1 - (n - 1) % 26) 26 = (n - 1 - (n - 1) % 26) / 26 := Int.tdiv_eq_ediv_of_nonneg (by omega)
      have e7 : (n - 1 - (n - 1) % 26) / 26 = (n - 1) / 26 := by omega
      have e8 : wrap64 ((n - 1) / 26) = (n - 1) / 26 := w64 _ (by omega) (by omega)
      have eb : bytesOf (strOfNums [65 + (n - 1) % 26]) = [65 + (n - 1) % 26] := str_bytes _ (by intro x hx; rw [List.mem_singleton] at hx; omega)
      have es : (strOfNums [65 + (n - 1) % 26]).size = 1 := by rw [← bytesOf_length, eb]; rfl
      obtain ⟨k, ls, name, g1, g2, g3, g4, g5, g6⟩ := ih ((n - 1) / 26) (strOfNums [65 + (n - 1) % 26] ++ acc) (by omega) (by simp only [top] at h1; omega) (by omega) (by rw [ByteArray.size_append, es]; omega)
      refine ⟨k + 1, ls ++ [65 + (n - 1) % 26], name, ?_, ?_, ?_, ?_, ?_, ?_⟩
      · rw [spec_ColumnName.l0, if_pos hn, Option.bind_some]
        rw [e1, e2, e3, e4, e5, e6, e7, e8, if_pos (by rw [es]; omega)]
        exact g1
      · rw [g2, bytes_append, eb, List.append_assoc]
      · rw [List.length_append]; simp; omega
      · intro _; rw [List.length_append]; simp
      · intro x hx
        rcases List.mem_append.1 hx with hx | hx
        · exact g5 x hx
        · rw [List.mem_singleton] at hx; omega
      · rw [colVal_snoc, g6]; omega
    · have : n = 0 := by omega
      subst this
      exact ⟨1, [], acc, by simp [spec_ColumnName.l0], rfl, by simp, by omega, by simp, rfl⟩

theorem column_name (n : Int) (h1 : 1 ≤ n) (h2 : n ≤ 16384) :
    ∃ k name ls, spec_ColumnName.f k n = some (name, true) ∧ bytesOf name = ls ∧ 1 ≤ ls.length ∧ ls.length ≤ 3 ∧ (∀ x ∈ ls, 65 ≤ x ∧ x ≤ 90) ∧ colVal ls = n := by
  obtain ⟨k, ls, name, g1, g2, g3, g4, g5, g6⟩ := column_loop 3 n ⟨#[]⟩ (by omega) (by simp only [top]; omega) h2 (by decide)
  refine ⟨k + 1, name, ls, ?_, by rw [g2]; exact List.append_nil _, g4 h1, g3, g5, g6⟩
  rw [spec_ColumnName.f, if_neg (by omega), spec_ColumnName.j0, decide_eq_false (by omega), if_neg (by simp)]
  exact g1

theorem digit (d : Int) (h0 : 0 ≤ d) (h1 : d ≤ 9) : bytesOf ((⟨#[48, 49, 50, 51, 52, 53, 54, 55, 56, 57, 65, 66, 67, 68, 69, 70, 71, 72, 73, 74, 75, 76, 77, 78, 79, 80, 81, 82, 83, 84, 85, 86, 87, 88, 89, 90]⟩ : ByteArray).extract d.toNat (d + 1).toNat) = [48 + d] := by
  have : d = 0 ∨ d = 1 ∨ d = 2 ∨ d = 3 ∨ d = 4 ∨ d = 5 ∨ d = 6 ∨ d = 7 ∨ d = 8 ∨ d = 9 := by omega
  rcases this with rfl | rfl | rfl | rfl | rfl | rfl | rfl | rfl | rfl | rfl <;> decide

def ten : Nat → Int
  | 0 => 1
  | m + 1 => 10 * ten m

theorem digits_loop : ∀ (m : Nat) (n : Int), 0 ≤ n → n < ten (m + 1) → n ≤ 1000000000 → m ≤ 100 →
    ∃ k t ds, spec_Digits.f k n 10 = some t ∧ bytesOf t = ds ∧ 1 ≤ ds.length ∧ ds.length ≤ m + 1 ∧ (∀ x ∈ ds, 48 ≤ x ∧ x ≤ 57) ∧ rowVal ds = n := by
  intro m
  induction m with
  | zero =>
    intro n h0 h1 h2 h3
    simp only [ten] at h1
    have e1 : Int.tmod n 10 = n := by rw [Int.tmod_eq_emod_of_nonneg h0]; omega
    have e2 : wrap64 (n + 1) = n + 1 := w64 _ (by omega) (by omega)
    refine ⟨1, _, [48 + n], ?_, digit n h0 (by omega), by simp, by simp, by intro x hx; rw [List.mem_singleton] at hx; omega, by show 10 * 0 + (48 + n - 48) = n; omega⟩
    rw [spec_Digits.f, if_neg (by decide), e1, e2, if_pos h0, if_pos (by omega), if_pos (by omega), if_pos (by omega)]
  | succ m ih =>
    intro n h0 h1 h2 h3
    have e1 : Int.tmod n 10 = n % 10 := Int.tmod_eq_emod_of_nonneg h0
    have e2 : wrap64 (n % 10 + 1) = n % 10 + 1 := w64 _ (by omega) (by omega)
    by_cases hn : n < 10
    · refine ⟨1, _, [48 + n % 10], ?_, digit (n % 10) (by omega) (by omega), by simp, by simp, by intro x hx; rw [List.mem_singleton] at hx; omega, by show 10 * 0 + (48 + n % 10 - 48) = n; omega⟩
      rw [spec_Digits.f, if_neg (by decide), e1, e2, if_pos (by omega), if_pos (by omega), if_pos (by omega), if_pos hn]
    · have e3 : Int.tdiv n 10 = n / 10 := Int.tdiv_eq_ediv_of_nonneg h0
      have e4 : wrap64 (n / 10) = n / 10 := w64 _ (by omega) (by omega)
      obtain ⟨k, t, ds, g1, g2, g3, g4, g5, g6⟩ := ih (n / 10) (by omega) (by simp only [ten] at h1 ⊢; omega) (by omega) (by omega)
      have hd := digit (n % 10) (by omega) (by omega)
      refine ⟨k + 1, t ++ (⟨#[48, 49, 50, 51, 52, 53, 54, 55, 56, 57, 65, 66, 67, 68, 69, 70, 71, 72, 73, 74, 75, 76, 77, 78, 79, 80, 81, 82, 83, 84, 85, 86, 87, 88, 89, 90]⟩ : ByteArray).extract (n % 10).toNat (n % 10 + 1).toNat, ds ++ [48 + n % 10], ?_, ?_, ?_, ?_, ?_, ?_⟩
      · have hs : t.size ≤ 200 := by rw [← bytesOf_length, g2]; omega
        have hs2 : ((⟨#[48, 49, 50, 51, 52, 53, 54, 55, 56, 57, 65, 66, 67, 68, 69, 70, 71, 72, 73, 74, 75, 76, 77, 78, 79, 80, 81, 82, 83, 84, 85, 86, 87, 88, 89, 90]⟩ : ByteArray).extract (n % 10).toNat (n % 10 + 1).toNat).size = 1 := by rw [← bytesOf_length, hd]; rfl
        rw [spec_Digits.f, if_neg (by decide), e1, e2, if_pos (by omega), if_pos (by omega), if_pos (by omega), if_neg hn, e3, e4, g1, Option.bind_some, if_pos (by rw [hs2]; omega)]
      · rw [bytes_append, g2, hd]
      · rw [List.length_append]; simp
      · rw [List.length_append]; simp; omega
      · intro x hx
        rcases List.mem_append.1 hx with hx | hx
        · exact g5 x hx
        · rw [List.mem_singleton] at hx; omega
      · rw [rowVal_snoc, g6]; omega

theorem digits (n : Int) (h1 : 1 ≤ n) (h2 : n ≤ 1048576) :
    ∃ k t ds, spec_Digits.f k n 10 = some t ∧ bytesOf t = ds ∧ 1 ≤ ds.length ∧ ds.length ≤ 7 ∧ (∀ x ∈ ds, 48 ≤ x ∧ x ≤ 57) ∧ rowVal ds = n :=
  digits_loop 6 n (by omega) (by simp only [ten]; omega) (by omega) (by decide)

/-- A cell's name: letters and digits that read back. -/
theorem cell_name (c r : Int) (hc : 1 ≤ c ∧ c ≤ 16384) (hr : 1 ≤ r ∧ r ≤ 1048576) :
    ∃ kc name kd t ls ds, spec_ColumnName.f kc c = some (name, true) ∧ spec_Digits.f kd r 10 = some t ∧ bytesOf name = ls ∧ bytesOf t = ds ∧ IsCell (name ++ t) ls ds ∧ colVal ls = c ∧ rowVal ds = r := by
  obtain ⟨kc, name, ls, a1, a2, a3, a4, a5, a6⟩ := column_name c hc.1 hc.2
  obtain ⟨kd, t, ds, b1, b2, b3, b4, b5, b6⟩ := digits r hr.1 hr.2
  exact ⟨kc, name, kd, t, ls, ds, a1, b1, a2, b2, ⟨by rw [bytes_append, a2, b2], a3, a4, a5, b3, by omega, b5, by omega, by omega, by omega⟩, a6, b6⟩
end Go.Proofs.YtfbenlenihlpbaaDoor.Names
