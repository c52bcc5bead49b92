/- The plain law of FnRename: what the printed functions compute renames a sheet in a list of two ranges and back. Conditions: the sizes of the three names. -/
import Derived.Test.YtfbenlenihlpbaaDoorPRnx3
import Derived.Test.YtfbenlenihlpbaaDoorNames
import Derived.Test.YtfbenlenihlpbaaDoorStr
namespace Go.Proofs.YtfbenlenihlpbaaDoor.EvRename
open Go.RowKit Go.Proofs.YtfbenlenihlpbaaDoorW.PrintWords Go.Proofs.YtfbenlenihlpbaaDoorW.PrintLast Go.Proofs.YtfbenlenihlpbaaDoorW.PrintMore
open Go.Proofs.YtfbenlenihlpbaaDoor.Str Go.Proofs.YtfbenlenihlpbaaDoor.PRn
set_option linter.unusedVariables false
set_option linter.unusedSimpArgs false

theorem w64s {x : Int} (h : 0 ≤ x) (h2 : x ≤ 4611686018427387904) : wrap64 x = x := by unfold wrap64; omega
/-- A letter; a capital letter or digit. -/
def Let (x : Int) : Prop := (65 ≤ x ∧ x ≤ 90) ∨ (97 ≤ x ∧ x ≤ 122)
def Aln (x : Int) : Prop := (65 ≤ x ∧ x ≤ 90) ∨ (48 ≤ x ∧ x ≤ 57)
/-- A sheet's name here. -/
structure Nm (s : ByteArray) : Prop where
  all : ∀ x ∈ bytesOf s, Let x
  ne : 1 ≤ s.size
  le : s.size ≤ 20
/-- A cell's name here: capital letters and digits, a digit at least. -/
structure Cn (s : ByteArray) : Prop where
  all : ∀ x ∈ bytesOf s, Aln x
  dig : ∃ x ∈ bytesOf s, 48 ≤ x ∧ x ≤ 57
  le : s.size ≤ 13

theorem plain_one (s : ByteArray) (hs : s.size = 1) : ∃ b, Ev (fun k => laws_refPlain.f k s) b ∧ (b = true → Let (bt s 0)) := by
  have hl : (s.toList != ([] : List UInt8)) = true := by
    rw [ByteArray.toList_eq]
    have : s.data.toList.length = 1 := hs
    cases h : s.data.toList with
    | nil => rw [h] at this; cases this
    | cons a l => rfl
  have ht : Ev (fun k => laws_refPlain.l0 k s (wrap64 (0 + 1))) true := by
    refine Ev.step (f := fun _ => some true) (fun k => ?_) (Ev.now _)
    rw [laws_refPlain.l0, if_neg (by rw [w64s (by omega) (by omega)]; omega), hl]
  unfold laws_refPlain.f
  by_cases h1 : bt s 0 ≥ 97
  · by_cases h2 : bt s 0 ≤ 122
    · exact ⟨true, Ev.step (fun k => by rw [laws_refPlain.l0, if_pos (by omega), if_pos (by omega), if_pos h1, if_pos h2]) ht, fun _ => .inr ⟨h1, h2⟩⟩
    · exact ⟨false, Ev.step (f := fun _ => some false) (fun k => by rw [laws_refPlain.l0, if_pos (by omega), if_pos (by omega), if_pos h1, if_neg h2, if_pos (by omega), if_neg (by omega)]) (Ev.now _), fun h => by cases h⟩
  · by_cases h2 : bt s 0 ≥ 65
    · by_cases h3 : bt s 0 ≤ 90
      · exact ⟨true, Ev.step (fun k => by rw [laws_refPlain.l0, if_pos (by omega), if_pos (by omega), if_neg h1, if_pos h2, if_pos h3]) ht, fun _ => .inl ⟨h2, h3⟩⟩
      · exact ⟨false, Ev.step (f := fun _ => some false) (fun k => by rw [laws_refPlain.l0, if_pos (by omega), if_pos (by omega), if_neg h1, if_pos h2, if_neg h3]) (Ev.now _), fun h => by cases h⟩
    · exact ⟨false, Ev.step (f := fun _ => some false) (fun k => by rw [laws_refPlain.l0, if_pos (by omega), if_pos (by omega), if_neg h1, if_neg h2]) (Ev.now _), fun h => by cases h⟩
theorem extract_one (s : ByteArray) (i : Nat) (h : i < s.size) : (s.extract i (i + 1)).size = 1 ∧ bt (s.extract i (i + 1)) 0 = bt s (i : Int) := by
  have hz : (s.extract i (i + 1)).size = 1 := by rw [ByteArray.size_extract]; omega
  refine ⟨hz, ?_⟩
  have h2 : bytesOf (s.extract i (i + 1)) = [bt s (i : Int)] := by
    rw [bytes_extract, show i + 1 - i = 1 by omega, List.take_one, List.head?_drop, bytes_get s i h]; rfl
  exact bt_bytes _ 0 _ (by rw [h2]; rfl)
theorem out_name (l : List Int) (h : ∀ x ∈ l, Let x) (hl : l.length ≤ 20) : ∃ t, (if (l.length : Int) = 0 then some (⟨#[120]⟩ : ByteArray) else some (strOfNums l)) = some t ∧ Nm t := by
  by_cases h0 : (l.length : Int) = 0
  · exact ⟨_, if_pos h0, fun x hx => by rw [show bytesOf (⟨#[120]⟩ : ByteArray) = [120] from rfl, List.mem_singleton] at hx; rw [hx]; exact .inr (by decide), by decide, by decide⟩
  · have hb : bytesOf (strOfNums l) = l := str_bytes l (fun x hx => by have := h x hx; unfold Let at this; omega)
    have hz : (strOfNums l).size = l.length := by rw [← bytesOf_length, hb]
    exact ⟨_, if_neg h0, by rw [hb]; exact h, by omega, by omega⟩
theorem letters (a : ByteArray) (ha : a.size ≤ 2147483647) : ∃ t, Ev (fun k => laws_refLetters.f k a) t ∧ Nm t := by
  have key : ∀ (d i : Nat) (l : List Int), i ≤ a.size → a.size - i = d → (∀ x ∈ l, Let x) → l.length ≤ 20 → ∃ t, Ev (fun k => laws_refLetters.l0 k a l (i : Int)) t ∧ Nm t := by
    intro d
    induction d with
    | zero =>
      intro i l hi hd hl h20
      obtain ⟨t, ht, hn⟩ := out_name l hl h20
      refine ⟨t, ?_, hn⟩
      refine Ev.step (fun k => by rw [laws_refLetters.l0, if_neg (by omega)]) ?_
      exact Ev.step (f := fun _ => some t) (fun k => by rw [laws_refLetters.j1, if_neg (by decide)]; exact ht) (Ev.now _)
    | succ d ih =>
      intro i l hi hd hl h20
      by_cases hlt : (l.length : Int) < 20
      · obtain ⟨z1, z2⟩ := extract_one a i (by omega)
        obtain ⟨b, hb, hbl⟩ := plain_one _ z1
        have hw : wrap64 ((i : Int) + 1) = ((i + 1 : Nat) : Int) := by rw [w64s (by omega) (by omega)]; omega
        have e1 : ((i : Nat) : Int).toNat = i := by omega
        have e2 : (((i + 1 : Nat) : Int)).toNat = i + 1 := by omega
        cases b with
        | true =>
          obtain ⟨t, ht, hn⟩ := ih (i + 1) (l ++ [bt a (i : Int)]) (by omega) (by omega) (fun x hx => by
            rcases List.mem_append.1 hx with hx | hx
            · exact hl x hx
            · rw [List.mem_singleton.1 hx, ← z2]; exact hbl rfl) (by rw [List.length_append, List.length_singleton]; omega)
          refine ⟨t, ?_, hn⟩
          refine Ev.step (fun k => by rw [laws_refLetters.l0, if_pos (by omega), decide_eq_true hlt]) ?_
          refine Ev.step (fun k => by rw [laws_refLetters.j1, if_pos rfl, if_pos (by omega), hw, if_pos (by omega), if_pos (by omega), e1, e2]) ?_
          refine Ev.bind hb ?_
          refine Ev.congr (fun k => by rw [if_pos rfl, if_pos (by omega), if_pos (by omega)]) ht
        | false =>
          obtain ⟨t, ht, hn⟩ := ih (i + 1) l (by omega) (by omega) hl h20
          refine ⟨t, ?_, hn⟩
          refine Ev.step (fun k => by rw [laws_refLetters.l0, if_pos (by omega), decide_eq_true hlt]) ?_
          refine Ev.step (fun k => by rw [laws_refLetters.j1, if_pos rfl, if_pos (by omega), hw, if_pos (by omega), if_pos (by omega), e1, e2]) ?_
          refine Ev.bind hb ?_
          refine Ev.congr (fun k => by rw [if_neg (by decide)]) ht
      · obtain ⟨t, ht, hn⟩ := out_name l hl h20
        refine ⟨t, ?_, hn⟩
        refine Ev.step (fun k => by rw [laws_refLetters.l0, if_pos (by omega), decide_eq_false hlt]) ?_
        exact Ev.step (f := fun _ => some t) (fun k => by rw [laws_refLetters.j1, if_neg (by decide)]; exact ht) (Ev.now _)
  obtain ⟨t, ht, hn⟩ := key a.size 0 [] (by omega) (by omega) (fun _ h => by cases h) (by decide)
  exact ⟨t, ht, hn⟩

theorem gridIn (a n : Int) (hn : 1 ≤ n ∧ n ≤ 1000) : ∃ x, PgridIn.spec_gridIn.f a n = some x ∧ 1 ≤ x ∧ x ≤ n := by
  have h1 : -n < Int.tmod a n := by have := Int.lt_tmod_of_pos a (show 0 < n by omega); omega
  have h2 : Int.tmod a n < n := Int.tmod_lt_of_pos a (by omega)
  unfold PgridIn.spec_gridIn.f
  rw [if_neg (by omega)]
  by_cases h : Int.tmod a n < 0
  · rw [if_pos h]
    refine ⟨_, rfl, ?_⟩
    rw [w64s (x := Int.tmod a n + n) (by omega) (by omega), w64s (by omega) (by omega)]
    omega
  · rw [if_neg h]
    refine ⟨_, rfl, ?_⟩
    rw [w64s (by omega) (by omega)]
    omega
theorem area (a b c d : Int) : ∃ p q r s, Ev (fun k => spec_GridArea.f k a b c d) (p, q, r, s) ∧ (1 ≤ p ∧ p ≤ 30) ∧ (1 ≤ q ∧ q ≤ 60) ∧ (1 ≤ r ∧ r ≤ 30) ∧ (1 ≤ s ∧ s ≤ 60) := by
  obtain ⟨p, hp, p1, p2⟩ := gridIn a 30 (by omega)
  obtain ⟨q, hq, q1, q2⟩ := gridIn b 60 (by omega)
  obtain ⟨r, hr, r1, r2⟩ := gridIn c 30 (by omega)
  obtain ⟨s, hs, s1, s2⟩ := gridIn d 60 (by omega)
  have j0 : ∀ (x y z t : Int) (b : Bool), 1 ≤ x ∧ x ≤ 30 → 1 ≤ y ∧ y ≤ 60 → 1 ≤ z ∧ z ≤ 30 → 1 ≤ t ∧ t ≤ 60 → (b = true → t < 60 ∨ 2 ≤ y) → ∃ p q r s, Ev (fun k => spec_GridArea.j0 k x y z t b) (p, q, r, s) ∧ (1 ≤ p ∧ p ≤ 30) ∧ (1 ≤ q ∧ q ≤ 60) ∧ (1 ≤ r ∧ r ≤ 30) ∧ (1 ≤ s ∧ s ≤ 60) := by
    intro x y z t b hx hy hz ht hb
    cases b with
    | false => exact ⟨x, y, z, t, Ev.step (f := fun _ => some _) (fun k => by rw [spec_GridArea.j0, if_neg (by decide)]) (Ev.now _), hx, hy, hz, ht⟩
    | true =>
      by_cases h : t < 60
      · exact ⟨x, y, z, wrap64 (t + 1), Ev.step (f := fun _ => some _) (fun k => by rw [spec_GridArea.j0, if_pos rfl, if_pos h]) (Ev.now _), hx, hy, hz, by rw [w64s (by omega) (by omega)]; omega⟩
      · have := (hb rfl).resolve_left h
        exact ⟨x, wrap64 (y - 1), z, t, Ev.step (f := fun _ => some _) (fun k => by rw [spec_GridArea.j0, if_pos rfl, if_neg h]) (Ev.now _), hx, by rw [w64s (by omega) (by omega)]; omega, hz, ht⟩
  have mnx : ∀ x y n : Int, 1 ≤ x ∧ x ≤ n → 1 ≤ y ∧ y ≤ n → (1 ≤ mn x y ∧ mn x y ≤ n) ∧ (1 ≤ mx x y ∧ mx x y ≤ n) := by
    intro x y n hx hy
    unfold mn mx
    constructor <;> split <;> omega
  have b1 := mnx p r 30 ⟨p1, p2⟩ ⟨r1, r2⟩
  have b2 := mnx q s 60 ⟨q1, q2⟩ ⟨s1, s2⟩
  unfold spec_GridArea.f
  rw [hp, hq, hr, hs]
  simp only [Option.bind_some]
  by_cases h : mn p r = mx p r
  · simp only [if_pos h]
    refine j0 _ _ _ _ _ b1.1 b2.1 b1.2 b2.2 (fun hb => ?_)
    have := beq_iff_eq.1 hb
    omega
  · simp only [if_neg h]
    exact j0 _ _ _ _ _ b1.1 b2.1 b1.2 b2.2 (fun hb => by cases hb)

theorem cellName (c r : Int) (hc : 1 ≤ c ∧ c ≤ 100) (hr : 1 ≤ r ∧ r ≤ 100) : ∃ t, Ev (fun k => spec_CellName.f k c r false) (t, true) ∧ Cn t := by
  obtain ⟨kc, name, ls, a1, a2, a3, a4, a5, a6⟩ := Names.column_name c hc.1 (by omega)
  obtain ⟨kd, t, ds, b1, b2, b3, b4, b5, b6⟩ := Names.digits r hr.1 (by omega)
  have sz1 : name.size = ls.length := by rw [← bytesOf_length, a2]
  have sz2 : t.size = ds.length := by rw [← bytesOf_length, b2]
  have hA : Ev (fun k => PColumnName.spec_ColumnName.f k c) (name, true) := Ev.of (PColumnName.spec_ColumnName.mono c) a1
  have hB : Ev (fun k => PDigits.spec_Digits.f k r 10) t := Ev.of (PDigits.spec_Digits.mono r 10) b1
  refine ⟨name ++ t, ?_, ?_, ?_, ?_⟩
  · unfold spec_CellName.f
    refine Ev.bind hA ?_
    refine Ev.congr (fun k => by rw [if_pos rfl, if_neg (by omega), decide_eq_false (show ¬ r > 1048576 by omega)]) ?_
    refine Ev.step (fun k => by rw [spec_CellName.j0, if_neg (by decide), if_neg (by decide)]) ?_
    refine Ev.bind hB ?_
    exact Ev.congr (f := fun _ => some (name ++ t, true)) (fun k => if_pos (by simp only; omega)) (Ev.now _)
  · intro x hx
    rw [bytes_append, List.mem_append, a2, b2] at hx
    rcases hx with hx | hx
    · exact .inl (a5 x hx)
    · exact .inr (b5 x hx)
  · obtain ⟨x, hx⟩ := List.exists_mem_of_length_pos (show 0 < ds.length by omega)
    exact ⟨x, by rw [bytes_append, List.mem_append, b2]; exact .inr hx, b5 x hx⟩
  · rw [ByteArray.size_append]; omega
theorem areaText (c r d s : Int) (hc : 1 ≤ c ∧ c ≤ 100) (hr : 1 ≤ r ∧ r ≤ 100) (hd : 1 ≤ d ∧ d ≤ 100) (hs : 1 ≤ s ∧ s ≤ 100) :
    ∃ p q, Ev (fun k => spec_GridAreaText.f k c r d s) (p ++ ⟨#[58]⟩ ++ q) ∧ Cn p ∧ Cn q := by
  obtain ⟨p, hp, cp⟩ := cellName c r hc hr
  obtain ⟨q, hq, cq⟩ := cellName d s hd hs
  have h1 := cp.le
  have h2 := cq.le
  have h3 : (⟨#[58]⟩ : ByteArray).size = 1 := rfl
  refine ⟨p, q, ?_, cp, cq⟩
  unfold spec_GridAreaText.f
  refine Ev.bind hp ?_
  refine Ev.bind hq ?_
  exact Ev.congr (f := fun _ => some _) (fun k => by simp only; rw [if_pos (by omega), if_pos (by rw [ByteArray.size_append]; omega)]) (Ev.now _)

/-! ### the renaming -/
theorem joined_two (a b s : ByteArray) : Given.joined [a, b] s = a ++ s ++ b := by
  apply bytes_inj
  rw [bytes_append, bytes_append]
  simp [Given.joined, bytesOf, Lib.join, List.intercalate, List.intersperse]
theorem joined_one (a s : ByteArray) : Given.joined [a] s = a := by
  apply bytes_inj
  simp [Given.joined, bytesOf, Lib.join, List.intercalate, List.intersperse]
theorem join_two (a b s : ByteArray) (h : a.size + s.size + b.size ≤ 100000000) : Given.strings_Join.f [a, b] s = some (a ++ s ++ b) := by
  unfold Given.strings_Join.f
  rw [joined_two, if_pos ⟨by simp, by rw [ByteArray.size_append, ByteArray.size_append]; omega⟩]
theorem join_one (a s : ByteArray) (h : a.size ≤ 100000000) : Given.strings_Join.f [a] s = some a := by
  unfold Given.strings_Join.f
  rw [joined_one, if_pos ⟨by simp, h⟩]
theorem mem_bytes (s : ByteArray) (c : UInt8) (h : c ∈ s.data.toList) : (c.toNat : Int) ∈ bytesOf s := by
  unfold bytesOf
  exact List.mem_map.2 ⟨c, h, rfl⟩
theorem trim_suffix (s : ByteArray) (h : (39 : Int) ∉ bytesOf s) (hz : s.size ≤ 1000) : Given.strings_TrimSuffix.f s ⟨#[39]⟩ = some s := by
  unfold Given.strings_TrimSuffix.f
  rw [if_pos (by omega)]
  have : Lib.hasSuffix s.data.toList (⟨#[39]⟩ : ByteArray).data.toList = false := by
    apply Bool.eq_false_iff.2
    intro hh
    have hs : [(39 : UInt8)] <:+ s.data.toList := by simpa [Lib.hasSuffix] using hh
    exact h (mem_bytes s 39 (hs.subset (by simp)))
  unfold Lib.trimSuffix
  rw [this]
  rfl
theorem trim_prefix (s : ByteArray) (h : (39 : Int) ∉ bytesOf s) : Given.strings_TrimPrefix.f s ⟨#[39]⟩ = some s := by
  unfold Given.strings_TrimPrefix.f
  have : Lib.hasPrefix s.data.toList (⟨#[39]⟩ : ByteArray).data.toList = false := by
    apply Bool.eq_false_iff.2
    intro hh
    have hs : [(39 : UInt8)] <+: s.data.toList := by simpa [Lib.hasPrefix] using hh
    exact h (mem_bytes s 39 (hs.subset (by simp)))
  unfold Lib.trimPrefix
  rw [this]
  rfl
theorem Nm.esc {s : ByteArray} (h : Nm s) : Given.excelize_escapeSheetName.f s = some s := by
  unfold Given.excelize_escapeSheetName.f
  rw [if_pos]
  rw [List.all_eq_true]
  intro c hc
  have := h.all _ (mem_bytes s c hc)
  unfold Let at this
  unfold Given.letterB
  rw [Bool.or_eq_true, Bool.and_eq_true, Bool.and_eq_true, decide_eq_true_eq, decide_eq_true_eq, decide_eq_true_eq, decide_eq_true_eq]
  omega
/-- A part between marks: no mark in it. -/
structure Pt (s : ByteArray) : Prop where
  all : ∀ x ∈ bytesOf s, 48 ≤ x ∧ x ≠ 58
  le : s.size ≤ 20
theorem Nm.pt {s : ByteArray} (h : Nm s) : Pt s := ⟨fun x hx => by have := h.all x hx; unfold Let at this; omega, h.le⟩
theorem Cn.pt {s : ByteArray} (h : Cn s) : Pt s := ⟨fun x hx => by have := h.all x hx; unfold Aln at this; omega, by have := h.le; omega⟩
theorem Pt.no {s : ByteArray} (h : Pt s) (c : Int) (hc : c < 48 ∨ c = 58) : c ∉ bytesOf s := fun hm => by have := h.all c hm; omega
theorem Cn.ne {s t : ByteArray} (h : Cn s) (k : Nm t) : s ≠ t := by
  rintro rfl
  obtain ⟨x, hx, hd⟩ := h.dig
  have := k.all x hx
  unfold Let at this
  omega
def swap (S T P : ByteArray) : ByteArray := if P = S then T else P
theorem two (S T P : ByteArray) : (P.toList = S.toList) ↔ P = S := by
  rw [toList_eq_iff]
  exact ⟨bytes_inj, fun h => by rw [h]⟩
/-- One part. -/
theorem l2_step (S T : ByteArray) (hT : Nm T) (x7 x10 x13 : List ByteArray) (x8 x11 x21 x22 x30 x31 : Int) (j n : Nat) (P r : ByteArray) (hP : Pt P) (hj : x13[j]? = some P) (hn : j < n) (hz : n ≤ 100)
    (h : Ev (fun k => excelize_adjustRangeSheetName.l2 k S T x7 x8 x10 x11 (x13.set j (swap S T P)) x21 x22 x30 x31 (n : Int) ((j + 1 : Nat) : Int)) r) :
    Ev (fun k => excelize_adjustRangeSheetName.l2 k S T x7 x8 x10 x11 x13 x21 x22 x30 x31 (n : Int) (j : Int)) r := by
  have hlt := (List.getElem?_eq_some_iff.1 hj).1
  have e0 : ((j : Nat) : Int).toNat = j := by omega
  have e1 : rdOf ByteArray.empty x13 (j : Int) = P := by
    unfold rdOf
    rw [e0, List.getD_eq_getElem?_getD, hj]; rfl
  have e2 : wrap64 ((j : Int) + 1) = ((j + 1 : Nat) : Int) := by rw [w64s (by omega) (by omega)]; omega
  refine Ev.step (fun k => by rw [excelize_adjustRangeSheetName.l2, if_pos (by omega), if_pos (by omega), if_pos (by omega), e0, e1, e2, trim_suffix P (hP.no 39 (by omega)) (by have := hP.le; omega), Option.bind_some, trim_prefix P (hP.no 39 (by omega)), Option.bind_some, hT.esc, Option.bind_some]) ?_
  by_cases hs : P = S
  · have e3 : swap S T P = T := if_pos hs
    rw [e3] at h
    exact Ev.congr (fun k => if_pos ((two S T P).2 hs)) h
  · have e3 : swap S T P = P := if_neg hs
    rw [e3] at h
    exact Ev.congr (fun k => if_neg (fun q => hs ((two S T P).1 q))) h
theorem l2_end (S T : ByteArray) (x7 x10 x13 : List ByteArray) (x8 x21 x22 x30 : Int) (i n : Nat) (J r : ByteArray) (hJ : Given.strings_Join.f x13 ⟨#[33]⟩ = some J) (hi : i < x10.length) (hz : i ≤ 100)
    (h : Ev (fun k => excelize_adjustRangeSheetName.l1 k S T x7 x8 (x10.set i J) x21 x22 x30 ((i + 1 : Nat) : Int)) r) :
    Ev (fun k => excelize_adjustRangeSheetName.l2 k S T x7 x8 x10 (i : Int) x13 x21 x22 x30 (i : Int) (n : Int) (n : Int)) r := by
  have e0 : ((i : Nat) : Int).toNat = i := by omega
  have e2 : wrap64 ((i : Int) + 1) = ((i + 1 : Nat) : Int) := by rw [w64s (by omega) (by omega)]; omega
  exact Ev.step (fun k => by rw [excelize_adjustRangeSheetName.l2, if_neg (by omega), hJ, Option.bind_some, if_pos (by omega), if_pos (by omega), e0, e2]) h
/-- One cell's name with its sheet, and one without. -/
theorem l1_two (S T N p : ByteArray) (hS : Nm S) (hT : Nm T) (hN : Nm N) (hp : Cn p) (x7 x10 : List ByteArray) (x8 x21 x22 x30 : Int) (i : Nat) (r : ByteArray) (hx : x10[i]? = some (N ++ ⟨#[33]⟩ ++ p)) (hi : (i : Int) < x30) (hz : i ≤ 100)
    (h : Ev (fun k => excelize_adjustRangeSheetName.l1 k S T x7 x8 (x10.set i (swap S T N ++ ⟨#[33]⟩ ++ p)) x21 x22 x30 ((i + 1 : Nat) : Int)) r) :
    Ev (fun k => excelize_adjustRangeSheetName.l1 k S T x7 x8 x10 x21 x22 x30 (i : Int)) r := by
  have hlt := (List.getElem?_eq_some_iff.1 hx).1
  have s1 := hN.le
  have s2 := hp.le
  have s3 : (⟨#[33]⟩ : ByteArray).size = 1 := rfl
  have e0 : ((i : Nat) : Int).toNat = i := by omega
  have e1 : rdOf ByteArray.empty x10 (i : Int) = N ++ ⟨#[33]⟩ ++ p := by
    unfold rdOf
    rw [e0, List.getD_eq_getElem?_getD, hx]; rfl
  have hsp : Ev (fun k => PFnCols.excelize_zzSplit.f k (N ++ ⟨#[33]⟩ ++ p) ⟨#[33]⟩) [N, p] :=
    Ev.of (PFnCols.excelize_zzSplit.mono _ _) (split_two N p ⟨#[33]⟩ 33 rfl (hN.pt.no 33 (by omega)) (hp.pt.no 33 (by omega)) (by rw [ByteArray.size_append, ByteArray.size_append]; omega) 1000001 (Nat.le_refl _))
  refine Ev.step (fun k => by rw [excelize_adjustRangeSheetName.l1, if_pos hi, if_pos (by omega), if_pos (by omega), e1]) ?_
  refine Ev.bind hsp ?_
  refine l2_step S T hT x7 x10 [N, p] x8 i x21 x22 x30 i 0 2 N r hN.pt rfl (by omega) (by omega) ?_
  refine l2_step S T hT x7 x10 _ x8 i x21 x22 x30 i 1 2 p r hp.pt rfl (by omega) (by omega) ?_
  have e3 : swap S T p = p := if_neg (hp.ne hS)
  have sw : (swap S T N).size ≤ 20 := by unfold swap; split; exact hT.le; exact hN.le
  rw [e3]
  exact l2_end S T x7 x10 _ x8 x21 x22 x30 i 2 _ r (join_two _ _ _ (by omega)) hlt hz h
theorem l1_one (S T q : ByteArray) (hS : Nm S) (hT : Nm T) (hq : Cn q) (x7 x10 : List ByteArray) (x8 x21 x22 x30 : Int) (i : Nat) (r : ByteArray) (hx : x10[i]? = some q) (hi : (i : Int) < x30) (hz : i ≤ 100)
    (h : Ev (fun k => excelize_adjustRangeSheetName.l1 k S T x7 x8 (x10.set i q) x21 x22 x30 ((i + 1 : Nat) : Int)) r) :
    Ev (fun k => excelize_adjustRangeSheetName.l1 k S T x7 x8 x10 x21 x22 x30 (i : Int)) r := by
  have hlt := (List.getElem?_eq_some_iff.1 hx).1
  have s2 := hq.le
  have e0 : ((i : Nat) : Int).toNat = i := by omega
  have e1 : rdOf ByteArray.empty x10 (i : Int) = q := by
    unfold rdOf
    rw [e0, List.getD_eq_getElem?_getD, hx]; rfl
  have hsp : Ev (fun k => PFnCols.excelize_zzSplit.f k q ⟨#[33]⟩) [q] :=
    Ev.of (PFnCols.excelize_zzSplit.mono _ _) (split_one q ⟨#[33]⟩ 33 rfl (hq.pt.no 33 (by omega)) (by omega) 1000001 (Nat.le_refl _))
  refine Ev.step (fun k => by rw [excelize_adjustRangeSheetName.l1, if_pos hi, if_pos (by omega), if_pos (by omega), e1]) ?_
  refine Ev.bind hsp ?_
  refine l2_step S T hT x7 x10 [q] x8 i x21 x22 x30 i 0 1 q r hq.pt rfl (by omega) (by omega) ?_
  have e3 : swap S T q = q := if_neg (hq.ne hS)
  rw [e3]
  exact l2_end S T x7 x10 _ x8 x21 x22 x30 i 1 _ r (join_one _ _ (by omega)) hlt hz h
set_option maxHeartbeats 2000000 in
/-- One range. -/
theorem l0_step (S T N p q : ByteArray) (hS : Nm S) (hT : Nm T) (hN : Nm N) (hp : Cn p) (hq : Cn q) (x7 : List ByteArray) (n i : Nat) (X r : ByteArray) (hX : X = N ++ ⟨#[33]⟩ ++ p ++ ⟨#[58]⟩ ++ q) (hx : x7[i]? = some X) (hi : i < n) (hz : n ≤ 100)
    (h : Ev (fun k => excelize_adjustRangeSheetName.l0 k S T (x7.set i (swap S T N ++ ⟨#[33]⟩ ++ p ++ ⟨#[58]⟩ ++ q)) (n : Int) ((i + 1 : Nat) : Int)) r) :
    Ev (fun k => excelize_adjustRangeSheetName.l0 k S T x7 (n : Int) (i : Int)) r := by
  have hlt := (List.getElem?_eq_some_iff.1 hx).1
  have s1 := hN.le
  have s2 := hp.le
  have s4 := hq.le
  have s3 : (⟨#[33]⟩ : ByteArray).size = 1 := rfl
  have s5 : (⟨#[58]⟩ : ByteArray).size = 1 := rfl
  have e0 : ((i : Nat) : Int).toNat = i := by omega
  have e1 : rdOf ByteArray.empty x7 (i : Int) = N ++ ⟨#[33]⟩ ++ p ++ ⟨#[58]⟩ ++ q := by
    unfold rdOf
    rw [e0, List.getD_eq_getElem?_getD, hx, hX]; rfl
  have e2 : wrap64 ((i : Int) + 1) = ((i + 1 : Nat) : Int) := by rw [w64s (by omega) (by omega)]; omega
  have hsp : Ev (fun k => PFnCols.excelize_zzSplit.f k (N ++ ⟨#[33]⟩ ++ p ++ ⟨#[58]⟩ ++ q) ⟨#[58]⟩) [N ++ ⟨#[33]⟩ ++ p, q] :=
    Ev.of (PFnCols.excelize_zzSplit.mono _ _) (split_two (N ++ ⟨#[33]⟩ ++ p) q ⟨#[58]⟩ 58 rfl (by
      rw [bytes_append, bytes_append, show bytesOf (⟨#[33]⟩ : ByteArray) = [33] from rfl]
      simp only [List.mem_append, List.mem_singleton]
      rintro ((hm | hm) | hm)
      · exact hN.pt.no 58 (.inr rfl) hm
      · cases hm
      · exact hp.pt.no 58 (.inr rfl) hm) (hq.pt.no 58 (.inr rfl)) (by rw [ByteArray.size_append, ByteArray.size_append, ByteArray.size_append, ByteArray.size_append]; omega) 1000001 (Nat.le_refl _))
  refine Ev.step (fun k => by rw [excelize_adjustRangeSheetName.l0, if_pos (by omega), if_pos (by omega), if_pos (by omega), e1]) ?_
  refine Ev.bind hsp ?_
  refine l1_two S T N p hS hT hN hp x7 [N ++ ⟨#[33]⟩ ++ p, q] i n i 2 0 r rfl (by omega) (by omega) ?_
  refine l1_one S T q hS hT hq x7 _ i n i 2 1 r rfl (by omega) (by omega) ?_
  have sw : (swap S T N).size ≤ 20 := by unfold swap; split; exact hT.le; exact hN.le
  refine Ev.step (fun k => by rw [excelize_adjustRangeSheetName.l1, if_neg (by omega), show Given.strings_Join.f (([N ++ ⟨#[33]⟩ ++ p, q].set 0 (swap S T N ++ ⟨#[33]⟩ ++ p)).set 1 q) ⟨#[58]⟩ = some (swap S T N ++ ⟨#[33]⟩ ++ p ++ ⟨#[58]⟩ ++ q) from join_two _ _ _ (by rw [ByteArray.size_append, ByteArray.size_append]; omega), Option.bind_some, if_pos (by omega), if_pos (by omega), e0, e2]) h
/-- A list of two ranges. -/
def lst (N p q M u v : ByteArray) : ByteArray := N ++ ⟨#[33]⟩ ++ (p ++ ⟨#[58]⟩ ++ q) ++ ⟨#[44]⟩ ++ M ++ ⟨#[33]⟩ ++ (u ++ ⟨#[58]⟩ ++ v)
theorem rename (S T N M p q u v : ByteArray) (hS : Nm S) (hT : Nm T) (hN : Nm N) (hM : Nm M) (hp : Cn p) (hq : Cn q) (hu : Cn u) (hv : Cn v) :
    Ev (fun k => impl_Rename.f k (lst N p q M u v) S T) (lst (swap S T N) p q (swap S T M) u v) := by
  have s1 := hN.le
  have s2 := hM.le
  have s3 := hp.le
  have s4 := hq.le
  have s5 := hu.le
  have s6 := hv.le
  have z1 : (⟨#[33]⟩ : ByteArray).size = 1 := rfl
  have z2 : (⟨#[58]⟩ : ByteArray).size = 1 := rfl
  have z3 : (⟨#[44]⟩ : ByteArray).size = 1 := rfl
  have sw : ∀ N, Nm N → (swap S T N).size ≤ 20 := fun N hN => by unfold swap; split; exact hT.le; exact hN.le
  have w1 := sw N hN
  have w2 := sw M hM
  have flat : ∀ A B : ByteArray, lst A p q B u v = (A ++ ⟨#[33]⟩ ++ p ++ ⟨#[58]⟩ ++ q) ++ ⟨#[44]⟩ ++ (B ++ ⟨#[33]⟩ ++ u ++ ⟨#[58]⟩ ++ v) := by
    intro A B
    apply bytes_inj
    unfold lst
    simp only [bytes_append, List.append_assoc]
  have no : ∀ A a b : ByteArray, Nm A → Cn a → Cn b → (44 : Int) ∉ bytesOf (A ++ ⟨#[33]⟩ ++ a ++ ⟨#[58]⟩ ++ b) := by
    intro A a b hA ha hb
    rw [bytes_append, bytes_append, bytes_append, bytes_append, show bytesOf (⟨#[33]⟩ : ByteArray) = [33] from rfl, show bytesOf (⟨#[58]⟩ : ByteArray) = [58] from rfl]
    simp only [List.mem_append, List.mem_singleton]
    rintro ((((hm | hm) | hm) | hm) | hm)
    · exact hA.pt.no 44 (by omega) hm
    · cases hm
    · exact ha.pt.no 44 (by omega) hm
    · cases hm
    · exact hb.pt.no 44 (by omega) hm
  have hsp : Ev (fun k => PFnCols.excelize_zzSplit.f k (lst N p q M u v) ⟨#[44]⟩) [N ++ ⟨#[33]⟩ ++ p ++ ⟨#[58]⟩ ++ q, M ++ ⟨#[33]⟩ ++ u ++ ⟨#[58]⟩ ++ v] := by
    rw [flat]
    exact Ev.of (PFnCols.excelize_zzSplit.mono _ _) (split_two _ _ ⟨#[44]⟩ 44 rfl (no N p q hN hp hq) (no M u v hM hu hv) (by simp only [ByteArray.size_append]; omega) 1000001 (Nat.le_refl _))
  have main : Ev (fun k => excelize_adjustRangeSheetName.f k (lst N p q M u v) S T) (lst (swap S T N) p q (swap S T M) u v) := by
    unfold excelize_adjustRangeSheetName.f
    refine Ev.congr (fun k => by rw [hS.esc, Option.bind_some]) ?_
    refine Ev.bind hsp ?_
    refine l0_step S T N p q hS hT hN hp hq _ 2 0 _ _ rfl rfl (by omega) (by omega) ?_
    refine l0_step S T M u v hS hT hM hu hv _ 2 1 _ _ rfl rfl (by omega) (by omega) ?_
    rw [flat]
    refine Ev.step (f := fun _ => some _) (fun k => ?_) (Ev.now _)
    rw [excelize_adjustRangeSheetName.l0, if_neg (by omega), show Given.strings_Join.f (([N ++ ⟨#[33]⟩ ++ p ++ ⟨#[58]⟩ ++ q, M ++ ⟨#[33]⟩ ++ u ++ ⟨#[58]⟩ ++ v].set 0 (swap S T N ++ ⟨#[33]⟩ ++ p ++ ⟨#[58]⟩ ++ q)).set 1 (swap S T M ++ ⟨#[33]⟩ ++ u ++ ⟨#[58]⟩ ++ v)) ⟨#[44]⟩ = some _ from join_two _ _ _ (by simp only [ByteArray.size_append]; omega), Option.bind_some]
  unfold impl_Rename.f excelize_DoorRename.f
  refine Ev.bind (Ev.bind main (Ev.now _)) (Ev.now _)

theorem plain (a b c : ByteArray) (x1 x2 x3 x4 y1 y2 y3 y4 : Int) : ∃ k, laws_FnRename.f k a b c x1 x2 x3 x4 y1 y2 y3 y4 = some true := by
  have out : ∀ a b c, Ev (fun k => laws_FnRename.j0 k a b c true x1 x2 x3 x4 y1 y2 y3 y4) true := fun a b c =>
    Ev.step (f := fun _ => some true) (fun k => by rw [laws_FnRename.j0, if_pos rfl]) (Ev.now _)
  refine Ev.rounds (g := fun k => laws_FnRename.f k a b c x1 x2 x3 x4 y1 y2 y3 y4) ?_
  unfold laws_FnRename.f
  by_cases h1 : (a.size : Int) > 2147483647
  · simp only [if_pos h1]; exact out _ _ _
  simp only [if_neg h1]
  by_cases h2 : (b.size : Int) > 2147483647
  · simp only [if_pos h2]; exact out _ _ _
  simp only [if_neg h2]
  by_cases h3 : (c.size : Int) > 2147483647
  · simp only [decide_eq_true h3]; exact out _ _ _
  simp only [decide_eq_false h3]
  obtain ⟨S, eS, hS⟩ := letters a (by omega)
  obtain ⟨T, eT, hT⟩ := letters b (by omega)
  obtain ⟨O, eO, hO⟩ := letters c (by omega)
  refine Ev.step (fun k => by rw [laws_FnRename.j0, if_neg (by decide)]) ?_
  refine Ev.bind eS ?_
  refine Ev.bind eT ?_
  refine Ev.bind eO ?_
  have lives : ∀ a b c, Ev (fun k => laws_FnRename.j1 k a b c true x1 x2 x3 x4 y1 y2 y3 y4) true := fun a b c =>
    Ev.step (f := fun _ => some true) (fun k => by rw [laws_FnRename.j1, if_pos rfl]; rfl) (Ev.now _)
  by_cases q1 : S.toList = O.toList
  · simp only [if_pos q1]; exact lives _ _ _
  simp only [if_neg q1]
  by_cases q2 : T.toList = O.toList
  · simp only [if_pos q2]; exact lives _ _ _
  simp only [if_neg q2]
  by_cases q3 : S.toList = T.toList
  · simp only [beq_iff_eq.2 q3]; exact lives _ _ _
  have q3' : (S.toList == T.toList) = false := beq_eq_false_iff_ne.2 q3
  simp only [q3']
  have n1 : O ≠ S := fun h => q1 (by rw [h])
  have n2 : O ≠ T := fun h => q2 (by rw [h])
  obtain ⟨c1, r1, d1, s1, eA, b1, b2, b3, b4⟩ := area x1 x2 x3 x4
  obtain ⟨c2, r2, d2, s2, eB, b5, b6, b7, b8⟩ := area y1 y2 y3 y4
  obtain ⟨p, q, eP, hp, hq⟩ := areaText c1 r1 d1 s1 (by omega) (by omega) (by omega) (by omega)
  obtain ⟨u, v, eU, hu, hv⟩ := areaText c2 r2 d2 s2 (by omega) (by omega) (by omega) (by omega)
  refine Ev.step (fun k => by rw [laws_FnRename.j1, if_neg (by decide)]) ?_
  refine Ev.bind eA ?_
  refine Ev.bind eP ?_
  refine Ev.bind eB ?_
  refine Ev.bind eU ?_
  have t1 := hS.le
  have t2 := hT.le
  have t3 := hO.le
  have t4 := hp.le
  have t5 := hq.le
  have t6 := hu.le
  have t7 := hv.le
  have z1 : (⟨#[33]⟩ : ByteArray).size = 1 := rfl
  have z2 : (⟨#[58]⟩ : ByteArray).size = 1 := rfl
  have z3 : (⟨#[44]⟩ : ByteArray).size = 1 := rfl
  have R1 := rename S T S O p q u v hS hT hS hO hp hq hu hv
  have R2 := rename T S T O p q u v hT hS hT hO hp hq hu hv
  rw [show swap S T S = T from if_pos rfl, show swap S T O = O from if_neg n1] at R1
  rw [show swap T S T = S from if_pos rfl, show swap T S O = O from if_neg n2] at R2
  refine Ev.congr (fun k => by
    rw [if_pos (by first | omega | (simp only [ByteArray.size_append]; omega)), if_pos (by first | omega | (simp only [ByteArray.size_append]; omega)), if_pos (by first | omega | (simp only [ByteArray.size_append]; omega)), if_pos (by first | omega | (simp only [ByteArray.size_append]; omega)), if_pos (by first | omega | (simp only [ByteArray.size_append]; omega)), if_pos (by first | omega | (simp only [ByteArray.size_append]; omega)), if_pos (by first | omega | (simp only [ByteArray.size_append]; omega)), if_pos (by first | omega | (simp only [ByteArray.size_append]; omega)), if_pos (by first | omega | (simp only [ByteArray.size_append]; omega)), if_pos (by first | omega | (simp only [ByteArray.size_append]; omega)), if_pos (by first | omega | (simp only [ByteArray.size_append]; omega)), if_pos (by first | omega | (simp only [ByteArray.size_append]; omega))]) ?_
  refine Ev.bind R1 ?_
  refine Ev.congr (fun k => if_pos rfl) ?_
  refine Ev.bind R2 ?_
  exact Ev.congr (f := fun _ => some true) (fun k => (if_pos rfl).trans rfl) (Ev.now _)

theorem law (a b c : ByteArray) (x1 x2 x3 x4 y1 y2 y3 y4 : Int) (w : World) (hU : Letters.Props w) :
    Calls Tryd.prog 9 #[.string a, .string b, .string c, .agg #[.int .i64 x1, .int .i64 x2, .int .i64 x3, .int .i64 x4], .agg #[.int .i64 y1, .int .i64 y2, .int .i64 y3, .int .i64 y4]] w fun e w' => e = .returned (.bool true) ∧ Below w.heap.size w w' := by
  obtain ⟨k, h⟩ := plain a b c x1 x2 x3 x4 y1 y2 y3 y4
  exact laws_FnRename.calls k a b c x1 x2 x3 x4 y1 y2 y3 y4 true w hU h
end Go.Proofs.YtfbenlenihlpbaaDoor.EvRename
