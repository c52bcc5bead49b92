/- FnFrequency, plain facts: the data that the law makes of its lists: at most 60 numbers within 199, and steps from 1 to 61; rows of literals. No conditions. -/
import Derived.Test.YtjefbpfpobgmaaaFsB
import Derived.Test.YtjefbpfpobgmaaaPFqx2
import Derived.Test.YtjefbpfpobgmaaaPFqx3
namespace Go.Proofs.Ytjefbpfpobgmaaa.FsE
open Go.Proofs.Ytjefbpfpobgmaaa.FsB Go.Proofs.Ytjefbpfpobgmaaa.PFq Go.RowKit Go.Proofs.YtjefbpfpobgmaaaW.PrintWords Go.Proofs.YtjefbpfpobgmaaaW.PrintLast Go.Proofs.YtjefbpfpobgmaaaW.PrintMore Go.Proofs.Ytjefbpfpobgmaaa.FrK
set_option linter.unusedVariables false
set_option linter.unusedSimpArgs false
theorem tmod_small (a : Int) (m : Nat) (hm : 0 < m) : -(m : Int) < Int.tmod a m ∧ Int.tmod a m < m := by
  have h1 : (Int.tmod a m).natAbs < m := by
    rw [Int.natAbs_tmod]
    exact Nat.mod_lt _ (by simpa using hm)
  omega
theorem w_small (n : Int) (h : -1000 ≤ n ∧ n ≤ 1000) : wrap64 n = n := by unfold wrap64; omega
theorem comb_val (s : Int) : ∃ r, laws_combSmall.f s 60 = some r ∧ 0 ≤ r ∧ r ≤ 60 := by
  obtain ⟨t, ht, h1, h2⟩ : ∃ t, t = Int.tmod s 61 ∧ -61 < t ∧ t < 61 := ⟨_, rfl, (tmod_small s 61 (by decide)).1, (tmod_small s 61 (by decide)).2⟩
  obtain ⟨u, hu, h3, h4⟩ : ∃ u, u = Int.tmod (t + 61) 61 ∧ 0 ≤ u ∧ u < 61 := ⟨_, rfl, Int.tmod_nonneg _ (by omega), (tmod_small (t + 61) 61 (by decide)).2⟩
  have hw := w_small (60 + 1) (by omega)
  have e1 := w_small (t + 60) (by omega)
  have e2 := w_small (t + 60 + 1) (by omega)
  refine ⟨u, ?_, h3, by omega⟩
  unfold laws_combSmall.f
  rw [hw, if_neg (by decide), show (60 : Int) + 1 = 61 from rfl, ← ht, e1, e2, hu, show t + 60 + 1 = t + 61 by omega]
theorem small_ev (l : List Int) : ∀ (d i : Nat) (acc : List Int), i + d = min l.length 60 → acc.length = i → (∀ x ∈ acc, -200 < x ∧ x < 200) → ∃ r : List Int, r.length ≤ 60 ∧ (∀ x ∈ r, -200 < x ∧ x < 200) ∧ E (fun k => laws_sumsSmall.l0 k l 60 200 acc (i : Int)) r := by
  intro d
  induction d with
  | zero =>
    intro i acc hi ha hb
    refine ⟨acc, by omega, hb, 1, fun k hk => ?_⟩
    obtain ⟨k, rfl⟩ : ∃ q, k = q + 1 := ⟨k - 1, by omega⟩
    show laws_sumsSmall.l0 (k + 1) l 60 200 acc (i : Int) = _
    unfold laws_sumsSmall.l0
    by_cases h1 : (i : Int) < (l.length : Int)
    · rw [if_pos h1, if_neg (by omega)]
    · rw [if_neg h1]
  | succ d ih =>
    intro i acc hi ha hb
    have h2 := tmod_small (rd l i) 200 (by decide)
    obtain ⟨r, hr1, hr2, K, hK⟩ := ih (i + 1) (acc ++ [Int.tmod (rd l i) 200]) (by omega) (by simp [ha]) (fun x hx => by
      rcases List.mem_append.1 hx with h | h
      · exact hb x h
      · rw [List.mem_singleton.1 h]; exact h2)
    refine ⟨r, hr1, hr2, K + 1, fun k hk => ?_⟩
    obtain ⟨k, rfl⟩ : ∃ q, k = q + 1 := ⟨k - 1, by omega⟩
    have e1 := hK k (by omega)
    show laws_sumsSmall.l0 (k + 1) l 60 200 acc (i : Int) = _
    unfold laws_sumsSmall.l0
    have hw : wrap64 ((i : Int) + 1) = ((i + 1 : Nat) : Int) := by unfold wrap64; omega
    rw [if_pos (by omega), if_pos (by omega), if_pos (by omega), if_neg (by decide), if_pos (by omega), hw]
    exact e1
theorem small_val (l : List Int) : ∃ (k : Nat) (r : List Int), laws_sumsSmall.f k l 60 200 = some r ∧ r.length ≤ 60 ∧ ∀ x ∈ r, -200 < x ∧ x < 200 := by
  obtain ⟨r, h1, h2, K, hK⟩ := small_ev l (min l.length 60) 0 [] (by omega) rfl (fun x hx => absurd hx (List.not_mem_nil))
  exact ⟨K, r, hK K (Nat.le_refl _), h1, h2⟩
theorem addp (g m : Nat) : (⟨g, 0, none⟩ : Addr).add m = ⟨g, m, none⟩ := by
  unfold Addr.add
  by_cases h : m = 0
  · simp [h]
  · simp [h]
/-- A row of two known columns, newly made. -/
theorem two_cols {W : World} {A1 A2 : Option Addr} {c1 c2 : Nat} {xs ys : List Int} (h1 : (kCol 48 kS).C W A1 xs.length (rws xs)) (hc1 : xs.length ≤ c1) (h2 : (kCol 48 kS).C W A2 ys.length (rws ys)) (hc2 : ys.length ≤ c2) :
    (kVS 50 48).C (W.alloc (.cells #[.int .i64 5, .int .i64 0, .int .i64 0, .string ⟨#[]⟩, .slice A1 xs.length c1, .int .i64 5, .int .i64 0, .int .i64 0, .string ⟨#[]⟩, .slice A2 ys.length c2] 48)) (some ⟨W.heap.size, 0, none⟩) 2 [xs, ys] := by
  have hb := blk_new W (.cells #[.int .i64 5, .int .i64 0, .int .i64 0, .string ⟨#[]⟩, .slice A1 xs.length c1, .int .i64 5, .int .i64 0, .int .i64 0, .string ⟨#[]⟩, .slice A2 ys.length c2] 48)
  refine ⟨rfl, by decide, fun _ => ⟨_, rfl, fun j p hj => ?_⟩⟩
  match j, hj with
  | 0, hj =>
    obtain rfl : xs = p := by simpa using hj
    refine ⟨pS ++ [.slice A1 xs.length c1], rfl, ⟨[.slice A1 xs.length c1], rfl, A1, c1, by rw [rws_len], by rw [rws_len]; exact hc1, by rw [rws_len]; exact Kd.C_alloc h1 _⟩, fun i u hu => ?_⟩
    rw [addp]
    have hi : i < 5 := (List.getElem?_eq_some_iff.1 hu).1
    show World.cell? _ ⟨W.heap.size, 0 * 5 + i, none⟩ = _
    rw [show 0 * 5 + i = i by omega]
    refine (blk_cell hb i).trans ?_
    rcases (by omega : i = 0 ∨ i = 1 ∨ i = 2 ∨ i = 3 ∨ i = 4) with h | h | h | h | h <;> subst h <;> exact hu
  | 1, hj =>
    obtain rfl : ys = p := by simpa using hj
    refine ⟨pS ++ [.slice A2 ys.length c2], rfl, ⟨[.slice A2 ys.length c2], rfl, A2, c2, by rw [rws_len], by rw [rws_len]; exact hc2, by rw [rws_len]; exact Kd.C_alloc h2 _⟩, fun i u hu => ?_⟩
    rw [addp]
    have hi : i < 5 := (List.getElem?_eq_some_iff.1 hu).1
    show World.cell? _ ⟨W.heap.size, 1 * 5 + i, none⟩ = _
    refine (blk_cell hb (1 * 5 + i)).trans ?_
    rcases (by omega : i = 0 ∨ i = 1 ∨ i = 2 ∨ i = 3 ∨ i = 4) with h | h | h | h | h <;> subst h <;> exact hu
  | j + 2, hj => simp at hj
/-- A row of known numbers, newly made. -/
theorem lit_ints (W : World) (xs : List Int) (hm : xs.length ≤ 100) : Kd.C (Kd.int .i64) (W.alloc (.cells (xs.map (Value.int .i64)).toArray 3)) (some ⟨W.heap.size, 0, none⟩) xs.length xs := by
  have hb := blk_new W (.cells (xs.map (Value.int .i64)).toArray 3)
  refine ⟨rfl, by omega, fun _ => ⟨_, rfl, fun j p hj => ⟨[.int .i64 p], rfl, rfl, fun i u hu => ?_⟩⟩⟩
  have hi : i = 0 := by have := (List.getElem?_eq_some_iff.1 hu).1; simp at this; exact this
  subst hi
  obtain rfl : Value.int .i64 p = u := by simpa using hu
  rw [addp]
  show World.cell? _ ⟨W.heap.size, j * 1 + 0, none⟩ = _
  rw [Nat.mul_one, Nat.add_zero]
  refine (blk_cell hb j).trans ?_
  rw [List.getElem?_toArray, List.getElem?_map, hj]
  rfl
end Go.Proofs.Ytjefbpfpobgmaaa.FsE
