/- The plain law of FnAdjustOperand, the parts: references as texts, how the package reads and writes them. No conditions. -/
import Derived.Test.YtfbenlenihlpbaaDoorOp
import Derived.Test.YtfbenlenihlpbaaDoorPgridNumberx1
import Derived.Test.YtfbenlenihlpbaaDoorPAo
section
namespace Go.Proofs.YtfbenlenihlpbaaDoor.EvOp
open Go.RowKit Go.Proofs.YtfbenlenihlpbaaDoorW.PrintWords Go.Proofs.YtfbenlenihlpbaaDoorW.PrintLast Go.Proofs.YtfbenlenihlpbaaDoorW.PrintMore
open Go.Proofs.YtfbenlenihlpbaaDoor.Str Go.Proofs.YtfbenlenihlpbaaDoor.POa Go.Proofs.YtfbenlenihlpbaaDoor.OpG
set_option linter.unusedVariables false
set_option linter.unusedSimpArgs false

theorem w64s {x : Int} (h : -1 ≤ x) (h2 : x ≤ 4611686018427387904) : wrap64 x = x := by unfold wrap64; omega
def colB (c : Nat) : List UInt8 := if c < 26 then [UInt8.ofNat (65 + c)] else [UInt8.ofNat (64 + c / 26), UInt8.ofNat (65 + c % 26)]
def rowB (r : Nat) : List UInt8 := if r < 10 then [UInt8.ofNat (48 + r)] else [UInt8.ofNat (48 + r / 10), UInt8.ofNat (48 + r % 10)]
def colT (c : Int) : ByteArray := ⟨(colB (c.toNat - 1)).toArray⟩
def rowT (r : Int) : ByteArray := ⟨(rowB r.toNat).toArray⟩
theorem itoa_row (r : Int) (h : 1 ≤ r ∧ r ≤ 99) : Given.strconv_Itoa.f r = some (rowT r) := by
  unfold Given.strconv_Itoa.f
  rw [if_pos (by omega)]
  unfold Given.itoa rowT rowB
  rw [Lib.decDigits]
  by_cases h1 : r.toNat < 10
  · rw [dif_pos h1, if_pos h1]
  · rw [dif_neg h1, if_neg h1, Lib.decDigits, dif_pos (by omega)]; rfl
theorem gridIn (a n : Int) (hn : 1 ≤ n ∧ n ≤ 1000) : ∃ x, PgridIn.spec_gridIn.f a n = some x ∧ 1 ≤ x ∧ x ≤ n := by
  have h1 : -n < Int.tmod a n := by have := Int.lt_tmod_of_pos a (show 0 < n by omega); omega
  have h2 : Int.tmod a n < n := Int.tmod_lt_of_pos a (by omega)
  unfold PgridIn.spec_gridIn.f
  rw [if_neg (by omega)]
  by_cases h : Int.tmod a n < 0
  · rw [if_pos h]
    refine ⟨_, rfl, ?_⟩
    rw [w64s (x := Int.tmod a n + n) (by omega) (by omega), w64s (by omega) (by omega)]
    omega
  · rw [if_neg h]
    refine ⟨_, rfl, ?_⟩
    rw [w64s (by omega) (by omega)]
    omega
theorem area (a b c d : Int) : ∃ p q r s, Ev (fun k => spec_GridArea.f k a b c d) (p, q, r, s) ∧ (1 ≤ p ∧ p ≤ 30) ∧ (1 ≤ q ∧ q ≤ 60) ∧ (1 ≤ r ∧ r ≤ 30) ∧ (1 ≤ s ∧ s ≤ 60) := by
  obtain ⟨p, hp, p1, p2⟩ := gridIn a 30 (by omega)
  obtain ⟨q, hq, q1, q2⟩ := gridIn b 60 (by omega)
  obtain ⟨r, hr, r1, r2⟩ := gridIn c 30 (by omega)
  obtain ⟨s, hs, s1, s2⟩ := gridIn d 60 (by omega)
  have j0 : ∀ (x y z t : Int) (b : Bool), 1 ≤ x ∧ x ≤ 30 → 1 ≤ y ∧ y ≤ 60 → 1 ≤ z ∧ z ≤ 30 → 1 ≤ t ∧ t ≤ 60 → (b = true → t < 60 ∨ 2 ≤ y) → ∃ p q r s, Ev (fun k => spec_GridArea.j0 k x y z t b) (p, q, r, s) ∧ (1 ≤ p ∧ p ≤ 30) ∧ (1 ≤ q ∧ q ≤ 60) ∧ (1 ≤ r ∧ r ≤ 30) ∧ (1 ≤ s ∧ s ≤ 60) := by
    intro x y z t b hx hy hz ht hb
    cases b with
    | false => exact ⟨x, y, z, t, Ev.step (f := fun _ => some _) (fun k => by rw [spec_GridArea.j0, if_neg (by decide)]) (Ev.now _), hx, hy, hz, ht⟩
    | true =>
      by_cases h : t < 60
      · exact ⟨x, y, z, wrap64 (t + 1), Ev.step (f := fun _ => some _) (fun k => by rw [spec_GridArea.j0, if_pos rfl, if_pos h]) (Ev.now _), hx, hy, hz, by rw [w64s (by omega) (by omega)]; omega⟩
      · have := (hb rfl).resolve_left h
        exact ⟨x, wrap64 (y - 1), z, t, Ev.step (f := fun _ => some _) (fun k => by rw [spec_GridArea.j0, if_pos rfl, if_neg h]) (Ev.now _), hx, by rw [w64s (by omega) (by omega)]; omega, hz, ht⟩
  have mnx : ∀ x y n : Int, 1 ≤ x ∧ x ≤ n → 1 ≤ y ∧ y ≤ n → (1 ≤ mn x y ∧ mn x y ≤ n) ∧ (1 ≤ mx x y ∧ mx x y ≤ n) := by
    intro x y n hx hy
    unfold mn mx
    constructor <;> split <;> omega
  have b1 := mnx p r 30 ⟨p1, p2⟩ ⟨r1, r2⟩
  have b2 := mnx q s 60 ⟨q1, q2⟩ ⟨s1, s2⟩
  unfold spec_GridArea.f
  rw [hp, hq, hr, hs]
  simp only [Option.bind_some]
  by_cases h : mn p r = mx p r
  · simp only [if_pos h]
    refine j0 _ _ _ _ _ b1.1 b2.1 b1.2 b2.2 (fun hb => ?_)
    have := beq_iff_eq.1 hb
    omega
  · simp only [if_neg h]
    exact j0 _ _ _ _ _ b1.1 b2.1 b1.2 b2.2 (fun hb => by cases hb)


theorem number (a n : Int) (hn : 1 ≤ n ∧ n ≤ 1000) : ∃ x, PgridNumber.laws_gridNumber.f a n = some x ∧ 1 ≤ x ∧ x ≤ n := by
  have h1 : -n < Int.tmod a n := by have := Int.lt_tmod_of_pos a (show 0 < n by omega); omega
  have h2 : Int.tmod a n < n := Int.tmod_lt_of_pos a (by omega)
  unfold PgridNumber.laws_gridNumber.f
  rw [if_neg (by omega)]
  by_cases h : Int.tmod a n < 0
  · rw [if_pos h]
    refine ⟨_, rfl, ?_⟩
    rw [w64s (x := Int.tmod a n + n) (by omega) (by omega), w64s (by omega) (by omega)]
    omega
  · rw [if_neg h]
    refine ⟨_, rfl, ?_⟩
    rw [w64s (by omega) (by omega)]
    omega

/-! ### columns and rows -/
def okCol (c : Nat) : Bool := decide (excelize_zzColumnName.f 10 ((c : Int) + 1) = some (colT ((c : Int) + 1)) ∧ PColumnName.spec_ColumnName.f 20 ((c : Int) + 1) = some (colT ((c : Int) + 1), true) ∧ GivenC.excelize_ColumnNameToNumber.f (colT ((c : Int) + 1)) = some ((c : Int) + 1, none) ∧ (1 ≤ (colT ((c : Int) + 1)).size ∧ (colT ((c : Int) + 1)).size ≤ 2) ∧ ((bytesOf (colT ((c : Int) + 1))).all fun x => decide (65 ≤ x ∧ x ≤ 90)) = true)
theorem cols_ok : ((List.range 60).all okCol) = true := by decide +kernel
theorem col_ok (c : Int) (hc : 1 ≤ c ∧ c ≤ 60) : Ev (fun k => excelize_zzColumnName.f k c) (colT c) ∧ Ev (fun k => PColumnName.spec_ColumnName.f k c) (colT c, true) ∧ GivenC.excelize_ColumnNameToNumber.f (colT c) = some (c, none) ∧ (1 ≤ (colT c).size ∧ (colT c).size ≤ 2) ∧ ∀ x ∈ bytesOf (colT c), 65 ≤ x ∧ x ≤ 90 := by
  have h := List.all_eq_true.1 cols_ok (c.toNat - 1) (List.mem_range.2 (by omega))
  unfold okCol at h
  have h := of_decide_eq_true h
  rw [show ((c.toNat - 1 : Nat) : Int) + 1 = c by omega] at h
  exact ⟨Ev.of (excelize_zzColumnName.mono _) h.1, Ev.of (PColumnName.spec_ColumnName.mono c) h.2.1, h.2.2.1, h.2.2.2.1, fun x hx => of_decide_eq_true (List.all_eq_true.1 h.2.2.2.2 x hx)⟩
def okRow (r : Nat) : Bool := decide (PDigits.spec_Digits.f 20 ((r : Int) + 1) 10 = some (rowT ((r : Int) + 1)) ∧ GivenC.strconv_Atoi.f (rowT ((r : Int) + 1)) = some ((r : Int) + 1, none) ∧ (1 ≤ (rowT ((r : Int) + 1)).size ∧ (rowT ((r : Int) + 1)).size ≤ 2) ∧ ((bytesOf (rowT ((r : Int) + 1))).all fun x => decide (48 ≤ x ∧ x ≤ 57)) = true)
theorem rows_ok : ((List.range 99).all okRow) = true := by decide +kernel
theorem row_ok (r : Int) (hr : 1 ≤ r ∧ r ≤ 99) : Ev (fun k => PDigits.spec_Digits.f k r 10) (rowT r) ∧ GivenC.strconv_Atoi.f (rowT r) = some (r, none) ∧ (1 ≤ (rowT r).size ∧ (rowT r).size ≤ 2) ∧ ∀ x ∈ bytesOf (rowT r), 48 ≤ x ∧ x ≤ 57 := by
  have h := List.all_eq_true.1 rows_ok (r.toNat - 1) (List.mem_range.2 (by omega))
  unfold okRow at h
  have h := of_decide_eq_true h
  rw [show ((r.toNat - 1 : Nat) : Int) + 1 = r by omega] at h
  exact ⟨Ev.of (PDigits.spec_Digits.mono r 10) h.1, h.2.1, h.2.2.1, fun x hx => of_decide_eq_true (List.all_eq_true.1 h.2.2.2 x hx)⟩
theorem ne_toList {s : ByteArray} (h : 1 ≤ s.size) : ¬ s.toList = ([] : List UInt8) := by
  rw [ByteArray.toList_eq]
  intro he
  have h2 : s.data.toList.length = s.size := rfl
  rw [he] at h2
  simp at h2
  omega
theorem e_toList : (⟨#[]⟩ : ByteArray).toList = ([] : List UInt8) := by rw [ByteArray.toList_eq]

/-! ### a corner, written -/
abbrev D : ByteArray := ⟨#[36]⟩
def CB (a b : Bool) (c r : Int) : List Int := (if a = true then [36] else []) ++ (bytesOf (colT c) ++ ((if b = true then [36] else []) ++ bytesOf (rowT r)))
theorem corner_ev (a b : Bool) (c r : Int) (hc : 1 ≤ c ∧ c ≤ 60) (hr : 1 ≤ r ∧ r ≤ 99) : ∃ t, Ev (fun k => spec_corner.f k c r a b) t ∧ bytesOf t = CB a b c r ∧ t.size ≤ 6 := by
  obtain ⟨_, h1, _, s1, _⟩ := col_ok c hc
  obtain ⟨h2, _, s2, _⟩ := row_ok r hr
  have sD : D.size = 1 := rfl
  have sD2 : (⟨#[36]⟩ : ByteArray).size = 1 := rfl
  have main : ∀ x : ByteArray, x.size ≤ 1 → Ev (fun k => spec_corner.j0 k c r b x) (if b = true then ((x ++ colT c) ++ D) ++ rowT r else (x ++ colT c) ++ rowT r) := by
    intro x hx
    refine Ev.step (fun k => by rw [spec_corner.j0]) ?_
    refine Ev.bind h1 ?_
    cases b with
    | true =>
      show Ev _ (((x ++ colT c) ++ D) ++ rowT r)
      refine Ev.congr (fun k => (if_pos (by show x.size + (colT c).size ≤ _; omega)).trans ((if_pos rfl).trans (if_pos (by show (x ++ colT c).size + 1 ≤ _; rw [ByteArray.size_append]; omega)))) ?_
      refine Ev.bind h2 ?_
      exact Ev.congr (f := fun _ => some _) (fun k => if_pos (by simp only [ByteArray.size_append]; omega)) (Ev.now _)
    | false =>
      show Ev _ ((x ++ colT c) ++ rowT r)
      refine Ev.congr (fun k => (if_pos (by show x.size + (colT c).size ≤ _; omega)).trans (if_neg (show ¬ (false = true) by decide))) ?_
      refine Ev.bind h2 ?_
      exact Ev.congr (f := fun _ => some _) (fun k => if_pos (by simp only [ByteArray.size_append]; omega)) (Ev.now _)
  have bD : bytesOf D = [36] := rfl
  have b0 : bytesOf (⟨#[]⟩ : ByteArray) = [] := rfl
  cases a with
  | true =>
    refine ⟨_, Ev.congr (fun k => by unfold spec_corner.f; rw [if_pos rfl]) (main D (by decide)), ?_, ?_⟩
    · unfold CB
      cases b <;> simp [bytes_append, bD]
    · cases b <;> simp only [Bool.false_eq_true, if_false, if_true, ByteArray.size_append] <;> omega
  | false =>
    refine ⟨_, Ev.congr (fun k => by unfold spec_corner.f; rw [if_neg (by decide)]) (main ⟨#[]⟩ (by decide)), ?_, ?_⟩
    · unfold CB
      cases b <;> simp [bytes_append, bD, b0]
    · have s0 : (⟨#[]⟩ : ByteArray).size = 0 := rfl
      cases b <;> simp only [Bool.false_eq_true, if_false, if_true, ByteArray.size_append] <;> omega

/-! ### how a column and a row move -/
def ix (n o x : Int) : Int := if x < n then x else x + o
def mc (rows : Bool) (n o c : Int) : Int := if rows = true then c else ix n o c
def mr (rows : Bool) (n o r : Int) : Int := if rows = true then ix n o r else r
theorem mc_le {rows : Bool} {n o c : Int} (ho : 1 ≤ o ∧ o ≤ 20) (h : 1 ≤ c ∧ c ≤ 30) : 1 ≤ mc rows n o c ∧ mc rows n o c ≤ 60 := by
  unfold mc ix
  split
  · omega
  · split <;> omega
theorem mr_le {rows : Bool} {n o r : Int} (ho : 1 ≤ o ∧ o ≤ 20) (h : 1 ≤ r ∧ r ≤ 60) : 1 ≤ mr rows n o r ∧ mr rows n o r ≤ 99 := by
  unfold mr ix
  split
  · split <;> omega
  · omega
theorem place (rows : Bool) (n o c r : Int) (ho : 1 ≤ o ∧ o ≤ 20) (hc : 1 ≤ c ∧ c ≤ 30) (hr : 1 ≤ r ∧ r ≤ 60) : spec_GridMove_Place.f rows n o c r = some (mc rows n o c, mr rows n o r) := by
  have idx : ∀ x : Int, 1 ≤ x ∧ x ≤ 60 → spec_GridMove_Index.f rows n o x = some (ix n o x) := by
    intro x hx
    unfold spec_GridMove_Index.f ix
    by_cases h : x < n
    · rw [if_pos h, if_pos h]
    · rw [if_neg h, if_neg h, w64s (by omega) (by omega)]
      unfold mx
      rw [if_pos (by omega)]
  unfold spec_GridMove_Place.f mc mr
  cases rows with
  | true => rw [if_pos rfl, idx r hr, Option.bind_some, if_pos rfl, if_pos rfl]
  | false => rw [if_neg (by decide), idx c (by omega), Option.bind_some, if_neg (by decide), if_neg (by decide)]
theorem col_none (rows : Bool) (n o : Int) (op : ByteArray) (abs : Bool) (hz : op.size ≤ 2000) : Ev (fun k => excelize_adjustFormulaColumnName.f k ⟨#[]⟩ op abs false rows n o) (⟨#[]⟩, op, abs, none) := by
  refine Ev.congr (fun k => by unfold excelize_adjustFormulaColumnName.f; rw [if_pos e_toList]) ?_
  have s0 : (⟨#[]⟩ : ByteArray).size = 0 := rfl
  refine Ev.step (f := fun _ => some _) (fun k => ?_) (Ev.now _)
  rw [excelize_adjustFormulaColumnName.j0, if_pos rfl, if_pos (by omega), show op ++ (⟨#[]⟩ : ByteArray) = op from ByteArray.append_empty]
theorem row_none (rows : Bool) (n o : Int) (op : ByteArray) (abs : Bool) (hz : op.size ≤ 2000) : Ev (fun k => excelize_adjustFormulaRowNumber.f k ⟨#[]⟩ op abs false rows n o) (⟨#[]⟩, op, abs, none) := by
  refine Ev.congr (fun k => by unfold excelize_adjustFormulaRowNumber.f; rw [if_pos e_toList]) ?_
  have s0 : (⟨#[]⟩ : ByteArray).size = 0 := rfl
  refine Ev.step (f := fun _ => some _) (fun k => ?_) (Ev.now _)
  rw [excelize_adjustFormulaRowNumber.j0, if_pos rfl, if_pos (by omega), show op ++ (⟨#[]⟩ : ByteArray) = op from ByteArray.append_empty]
theorem col_some (rows : Bool) (n o c : Int) (op : ByteArray) (abs : Bool) (hz : op.size ≤ 2000) (ho : 1 ≤ o ∧ o ≤ 20) (hc : 1 ≤ c ∧ c ≤ 30) : Ev (fun k => excelize_adjustFormulaColumnName.f k (colT c) op abs false rows n o) (⟨#[]⟩, op ++ colT (mc rows n o c), false, none) := by
  obtain ⟨_, _, h3, s1, _⟩ := col_ok c (by omega)
  have main : Ev (fun k => excelize_adjustFormulaColumnName.j0 k (colT c) op abs rows n o false) (⟨#[]⟩, op ++ colT (mc rows n o c), false, none) := by
    refine Ev.step (fun k => by rw [excelize_adjustFormulaColumnName.j0, if_neg (by decide), h3, Option.bind_some]) ?_
    refine Ev.congr (fun k => if_pos rfl) ?_
    cases rows with
    | true =>
      refine Ev.congr (fun k => if_neg (show ¬ ((true == false) = true) by decide)) ?_
      exact Ev.step (f := fun _ => some _) (fun k => by rw [excelize_adjustFormulaColumnName.j1, if_neg (by decide), if_pos (by omega)]; rfl) (Ev.now _)
    | false =>
      refine Ev.congr (fun k => if_pos rfl) ?_
      by_cases hn : c < n
      · rw [show mc false n o c = c from by unfold mc ix; rw [if_neg (by decide), if_pos hn]]
        refine Ev.congr (fun k => by show excelize_adjustFormulaColumnName.j1 k (colT c) op o c (decide (c ≥ n)) = excelize_adjustFormulaColumnName.j1 k (colT c) op o c false; rw [decide_eq_false (show ¬ c ≥ n by omega)]) ?_
        exact Ev.step (f := fun _ => some _) (fun k => by rw [excelize_adjustFormulaColumnName.j1, if_neg (by decide), if_pos (by omega)]) (Ev.now _)
      · rw [show mc false n o c = c + o from by unfold mc ix; rw [if_neg (by decide), if_neg hn]]
        obtain ⟨g1, _, _, s2, _⟩ := col_ok (c + o) (by omega)
        refine Ev.congr (fun k => by show excelize_adjustFormulaColumnName.j1 k (colT c) op o c (decide (c ≥ n)) = excelize_adjustFormulaColumnName.j1 k (colT c) op o c true; rw [decide_eq_true (show c ≥ n by omega)]) ?_
        have hN : Ev (fun k => excelize_ColumnNumberToName.f k (c + o)) (colT (c + o), none) := by
          unfold excelize_ColumnNumberToName.f
          refine Ev.congr (fun k => by rw [if_neg (by omega), if_neg (by omega)]) ?_
          exact Ev.bind g1 (Ev.now _)
        refine Ev.step (fun k => by rw [excelize_adjustFormulaColumnName.j1, if_pos rfl, w64s (x := c + o) (by omega) (by omega), if_neg (by omega)]) ?_
        refine Ev.bind hN ?_
        exact Ev.congr (f := fun _ => some _) (fun k => if_pos (by dsimp only; omega)) (Ev.now _)
  refine Ev.congr (fun k => ?_) main
  unfold excelize_adjustFormulaColumnName.f
  rw [if_neg (ne_toList s1.1)]
  cases abs with
  | true => rw [if_pos rfl]
  | false => rw [if_neg (by decide)]
theorem row_some (rows : Bool) (n o r : Int) (op : ByteArray) (abs : Bool) (hz : op.size ≤ 2000) (ho : 1 ≤ o ∧ o ≤ 20) (hr : 1 ≤ r ∧ r ≤ 60) : Ev (fun k => excelize_adjustFormulaRowNumber.f k (rowT r) op abs false rows n o) (⟨#[]⟩, op ++ rowT (mr rows n o r), false, none) := by
  obtain ⟨_, h3, s1, _⟩ := row_ok r (by omega)
  have main : Ev (fun k => excelize_adjustFormulaRowNumber.j0 k (rowT r) op abs rows n o false) (⟨#[]⟩, op ++ rowT (mr rows n o r), false, none) := by
    refine Ev.step (fun k => by rw [excelize_adjustFormulaRowNumber.j0, if_neg (by decide), h3, Option.bind_some]) ?_
    cases rows with
    | false =>
      refine Ev.congr (fun k => if_neg (show ¬ ((false == true) = true) by decide)) ?_
      exact Ev.step (f := fun _ => some _) (fun k => by rw [excelize_adjustFormulaRowNumber.j1, if_neg (by decide), if_pos (by omega)]; rfl) (Ev.now _)
    | true =>
      refine Ev.congr (fun k => if_pos rfl) ?_
      by_cases hn : r < n
      · rw [show mr true n o r = r from by unfold mr ix; rw [if_pos rfl, if_pos hn]]
        refine Ev.congr (fun k => by show excelize_adjustFormulaRowNumber.j1 k (rowT r) op o r (decide (r ≥ n)) = excelize_adjustFormulaRowNumber.j1 k (rowT r) op o r false; rw [decide_eq_false (show ¬ r ≥ n by omega)]) ?_
        exact Ev.step (f := fun _ => some _) (fun k => by rw [excelize_adjustFormulaRowNumber.j1, if_neg (by decide), if_pos (by omega)]) (Ev.now _)
      · rw [show mr true n o r = r + o from by unfold mr ix; rw [if_pos rfl, if_neg hn]]
        obtain ⟨_, _, s2, _⟩ := row_ok (r + o) (by omega)
        refine Ev.congr (fun k => by show excelize_adjustFormulaRowNumber.j1 k (rowT r) op o r (decide (r ≥ n)) = excelize_adjustFormulaRowNumber.j1 k (rowT r) op o r true; rw [decide_eq_true (show r ≥ n by omega)]) ?_
        exact Ev.step (f := fun _ => some _) (fun k => by rw [excelize_adjustFormulaRowNumber.j1, if_pos rfl, w64s (x := r + o) (by omega) (by omega), if_neg (by omega), if_neg (by omega), itoa_row (r + o) (by omega), Option.bind_some, if_pos (by omega)]) (Ev.now _)
  refine Ev.congr (fun k => ?_) main
  unfold excelize_adjustFormulaRowNumber.f
  rw [if_neg (ne_toList s1.1)]
  cases abs with
  | true => rw [if_pos rfl]
  | false => rw [if_neg (by decide)]
theorem ref_some (rows : Bool) (n o r : Int) (op : ByteArray) (abs : Bool) (hz : op.size ≤ 2000) (ho : 1 ≤ o ∧ o ≤ 20) (hr : 1 ≤ r ∧ r ≤ 60) : Ev (fun k => excelize_adjustFormulaOperandRef.f k (rowT r) ⟨#[]⟩ op abs false rows n o) (⟨#[]⟩, ⟨#[]⟩, op ++ rowT (mr rows n o r), false, none) := by
  unfold excelize_adjustFormulaOperandRef.f
  refine Ev.bind (col_none rows n o op abs hz) ?_
  refine Ev.congr (fun k => if_pos rfl) ?_
  exact Ev.bind (row_some rows n o r op abs hz ho hr) (Ev.now _)

/-! ### the machine's runs -/
theorem enc_nums (c : Int) (h : 0 ≤ c ∧ c < 128) : Utf8.encode c = strOfNums [c] := by
  have : ∀ x : Fin 128, Utf8.encode (x.val : Int) = strOfNums [(x.val : Int)] := by decide +kernel
  have h2 := this ⟨c.toNat, by omega⟩
  rwa [show ((c.toNat : Nat) : Int) = c by omega] at h2
theorem size_nums (l : List Int) : (strOfNums l).size = l.length := by
  show (strOfNums l).data.size = _
  rw [← Array.length_toList, strOfNums_data, List.length_map]
theorem nums_cons (c : Int) (l : List Int) : strOfNums [c] ++ strOfNums l = strOfNums (c :: l) := by
  have hd : ∀ a b : ByteArray, a.data.toList = b.data.toList → a = b := by
    intro a b h
    cases a; cases b
    simp only [ByteArray.mk.injEq]
    exact Array.toList_inj.1 h
  apply hd
  rw [ByteArray.data_append, Array.toList_append, strOfNums_data, strOfNums_data, strOfNums_data]; rfl
theorem nums_nil : strOfNums [] = (⟨#[]⟩ : ByteArray) := rfl
theorem run_letters (k : Nat) (rows : Bool) (n o : Int) (rest : List Int) (row op : ByteArray) (abs : Bool) (h1 : row.size ≤ 1000) (h2 : op.size ≤ 1000) : ∀ (l : List Int) (col : ByteArray), (∀ x ∈ l, 65 ≤ x ∧ x ≤ 90) → col.size + l.length ≤ 1000 →
    OpW.runF k rows n o (l ++ rest) ⟨col, row, op, abs⟩ = OpW.runF k rows n o rest ⟨col ++ strOfNums l, row, op, abs⟩
  | [], col, _, _ => by rw [nums_nil, show col ++ (⟨#[]⟩ : ByteArray) = col from ByteArray.append_empty]; rfl
  | c :: l, col, hl, hz => by
    have hc := hl c List.mem_cons_self
    rw [List.length_cons] at hz
    have hs : OpW.stepF k rows n o c ⟨col, row, op, abs⟩ = some ⟨col ++ strOfNums [c], row, op, abs⟩ := by
      unfold OpW.stepF
      rw [if_pos (show OpW.small _ from ⟨h2, by dsimp only; omega, h1⟩), if_neg (by omega), if_pos (.inl hc), enc_nums c (by omega)]
    rw [List.cons_append, OpW.runF, hs, Option.bind_some, run_letters k rows n o rest row op abs h1 h2 l _ (fun x hx => hl x (List.mem_cons_of_mem _ hx)) (by rw [ByteArray.size_append, size_nums]; simp only [List.length_singleton]; omega), ByteArray.append_assoc, nums_cons]
theorem run_digits (rows : Bool) (n o : Int) (rest : List Int) (op : ByteArray) (abs : Bool) (h2 : op.size ≤ 1000) (r : OpW.St) : ∀ (l : List Int) (row : ByteArray), (∀ x ∈ l, 48 ≤ x ∧ x ≤ 57) → row.size + l.length ≤ 1000 →
    Ev (fun k => OpW.runF k rows n o rest ⟨⟨#[]⟩, row ++ strOfNums l, op, abs⟩) r → Ev (fun k => OpW.runF k rows n o (l ++ rest) ⟨⟨#[]⟩, row, op, abs⟩) r
  | [], row, _, _, h => by rw [nums_nil, show row ++ (⟨#[]⟩ : ByteArray) = row from ByteArray.append_empty] at h; exact h
  | c :: l, row, hl, hz, h => by
    have hc := hl c List.mem_cons_self
    rw [List.length_cons] at hz
    have s0 : (⟨#[]⟩ : ByteArray).size = 0 := rfl
    refine Ev.congr (fun k => by rw [List.cons_append, OpW.runF]) ?_
    refine Ev.bind (a := ⟨⟨#[]⟩, row ++ strOfNums [c], op, abs⟩) ?_ ?_
    · unfold OpW.stepF
      refine Ev.congr (fun k => by rw [if_pos (show OpW.small _ from ⟨h2, by dsimp only; omega, by dsimp only; omega⟩), if_neg (by omega), if_neg (by omega), if_pos hc]) ?_
      refine Ev.bind (col_none rows n o op abs (by omega)) ?_
      exact Ev.congr (f := fun _ => some _) (fun k => by dsimp only; rw [if_pos rfl, enc_nums c (by omega)]) (Ev.now _)
    · refine run_digits rows n o rest op abs h2 r l _ (fun x hx => hl x (List.mem_cons_of_mem _ hx)) (by rw [ByteArray.size_append, size_nums]; simp only [List.length_singleton]; omega) ?_
      rw [ByteArray.append_assoc, nums_cons]
      exact h
/-- The first digit behind a column's letters. -/
theorem run_digit (rows : Bool) (n o c d : Int) (rest : List Int) (op : ByteArray) (abs : Bool) (h2 : op.size ≤ 900) (ho : 1 ≤ o ∧ o ≤ 20) (hc : 1 ≤ c ∧ c ≤ 30) (hd : 48 ≤ d ∧ d ≤ 57) (r : OpW.St)
    (h : Ev (fun k => OpW.runF k rows n o rest ⟨⟨#[]⟩, strOfNums [d], op ++ colT (mc rows n o c), false⟩) r) : Ev (fun k => OpW.runF k rows n o (d :: rest) ⟨colT c, ⟨#[]⟩, op, abs⟩) r := by
  have s0 : (⟨#[]⟩ : ByteArray).size = 0 := rfl
  obtain ⟨_, _, _, s1, _⟩ := col_ok c (by omega)
  refine Ev.congr (fun k => by rw [OpW.runF]) ?_
  refine Ev.bind (a := ⟨⟨#[]⟩, strOfNums [d], op ++ colT (mc rows n o c), false⟩) ?_ h
  unfold OpW.stepF
  refine Ev.congr (fun k => by rw [if_pos (show OpW.small _ from ⟨by dsimp only; omega, by dsimp only; omega, by dsimp only; omega⟩), if_neg (by omega), if_neg (by omega), if_pos hd]) ?_
  refine Ev.bind (col_some rows n o c op abs (by omega) ho hc) ?_
  exact Ev.congr (f := fun _ => some _) (fun k => by dsimp only; rw [if_pos rfl, enc_nums d (by omega), show (⟨#[]⟩ : ByteArray) ++ strOfNums [d] = strOfNums [d] from ByteArray.empty_append]) (Ev.now _)
/-- A dollar ahead of a column. -/
theorem run_dollar0 (rows : Bool) (n o : Int) (rest : List Int) (op : ByteArray) (abs : Bool) (h2 : op.size ≤ 900) (r : OpW.St)
    (h : Ev (fun k => OpW.runF k rows n o rest ⟨⟨#[]⟩, ⟨#[]⟩, op ++ strOfNums [36], true⟩) r) : Ev (fun k => OpW.runF k rows n o (36 :: rest) ⟨⟨#[]⟩, ⟨#[]⟩, op, abs⟩) r := by
  have s0 : (⟨#[]⟩ : ByteArray).size = 0 := rfl
  refine Ev.congr (fun k => by rw [OpW.runF]) ?_
  refine Ev.bind (a := ⟨⟨#[]⟩, ⟨#[]⟩, op ++ strOfNums [36], true⟩) ?_ h
  unfold OpW.stepF
  refine Ev.congr (fun k => by rw [if_pos (show OpW.small _ from ⟨by dsimp only; omega, by dsimp only; omega, by dsimp only; omega⟩), if_pos rfl]) ?_
  refine Ev.bind (col_none rows n o op abs (by omega)) ?_
  exact Ev.congr (f := fun _ => some _) (fun k => by dsimp only; rw [if_pos ⟨rfl, by omega⟩, enc_nums 36 (by omega)]) (Ev.now _)
/-- A dollar behind a column. -/
theorem run_dollar1 (rows : Bool) (n o c : Int) (rest : List Int) (op : ByteArray) (abs : Bool) (h2 : op.size ≤ 900) (ho : 1 ≤ o ∧ o ≤ 20) (hc : 1 ≤ c ∧ c ≤ 30) (r : OpW.St)
    (h : Ev (fun k => OpW.runF k rows n o rest ⟨⟨#[]⟩, ⟨#[]⟩, (op ++ colT (mc rows n o c)) ++ strOfNums [36], true⟩) r) : Ev (fun k => OpW.runF k rows n o (36 :: rest) ⟨colT c, ⟨#[]⟩, op, abs⟩) r := by
  have s0 : (⟨#[]⟩ : ByteArray).size = 0 := rfl
  obtain ⟨_, _, _, s1, _⟩ := col_ok c (by omega)
  obtain ⟨_, _, _, s2, _⟩ := col_ok (mc rows n o c) (mc_le ho hc)
  refine Ev.congr (fun k => by rw [OpW.runF]) ?_
  refine Ev.bind (a := ⟨⟨#[]⟩, ⟨#[]⟩, (op ++ colT (mc rows n o c)) ++ strOfNums [36], true⟩) ?_ h
  unfold OpW.stepF
  refine Ev.congr (fun k => by rw [if_pos (show OpW.small _ from ⟨by dsimp only; omega, by dsimp only; omega, by dsimp only; omega⟩), if_pos rfl]) ?_
  refine Ev.bind (col_some rows n o c op abs (by omega) ho hc) ?_
  exact Ev.congr (f := fun _ => some _) (fun k => by dsimp only; rw [if_pos ⟨rfl, by rw [ByteArray.size_append]; omega⟩, enc_nums 36 (by omega)]) (Ev.now _)
/-- A colon behind a row. -/
theorem run_colon (rows : Bool) (n o r0 : Int) (rest : List Int) (op : ByteArray) (abs : Bool) (h2 : op.size ≤ 900) (ho : 1 ≤ o ∧ o ≤ 20) (hr : 1 ≤ r0 ∧ r0 ≤ 60) (r : OpW.St)
    (h : Ev (fun k => OpW.runF k rows n o rest ⟨⟨#[]⟩, ⟨#[]⟩, (op ++ rowT (mr rows n o r0)) ++ strOfNums [58], false⟩) r) : Ev (fun k => OpW.runF k rows n o (58 :: rest) ⟨⟨#[]⟩, rowT r0, op, abs⟩) r := by
  have s0 : (⟨#[]⟩ : ByteArray).size = 0 := rfl
  obtain ⟨_, _, s1, _⟩ := row_ok r0 (by omega)
  obtain ⟨_, _, s2, _⟩ := row_ok (mr rows n o r0) (mr_le ho hr)
  refine Ev.congr (fun k => by rw [OpW.runF]) ?_
  refine Ev.bind (a := ⟨⟨#[]⟩, ⟨#[]⟩, (op ++ rowT (mr rows n o r0)) ++ strOfNums [58], false⟩) ?_ h
  unfold OpW.stepF
  refine Ev.congr (fun k => by rw [if_pos (show OpW.small _ from ⟨by dsimp only; omega, by dsimp only; omega, by dsimp only; omega⟩), if_neg (by omega), if_neg (by omega), if_neg (by omega), if_pos rfl]) ?_
  refine Ev.bind (ref_some rows n o r0 op abs (by omega) ho hr) ?_
  exact Ev.congr (f := fun _ => some _) (fun k => by dsimp only; rw [if_pos ⟨rfl, by rw [ByteArray.size_append]; omega⟩, enc_nums 58 (by omega)]) (Ev.now _)
theorem strOf_bytes (s : ByteArray) : strOfNums (bytesOf s) = s := bytes_str s
/-- A corner is read: what is written is the moved one but for its row. -/
theorem run_corner (rows : Bool) (n o : Int) (a b : Bool) (c r : Int) (op : ByteArray) (abs : Bool) (h2 : op.size ≤ 800) (ho : 1 ≤ o ∧ o ≤ 20) (hc : 1 ≤ c ∧ c ≤ 30) (hr : 1 ≤ r ∧ r ≤ 60) :
    ∃ (op2 : ByteArray) (abs2 : Bool), bytesOf op2 = bytesOf op ++ ((if a = true then [36] else []) ++ (bytesOf (colT (mc rows n o c)) ++ (if b = true then [36] else []))) ∧ op2.size ≤ op.size + 4 ∧
      ∀ (rest : List Int) (x : OpW.St), Ev (fun k => OpW.runF k rows n o rest ⟨⟨#[]⟩, rowT r, op2, abs2⟩) x → Ev (fun k => OpW.runF k rows n o (CB a b c r ++ rest) ⟨⟨#[]⟩, ⟨#[]⟩, op, abs⟩) x := by
  have s0 : (⟨#[]⟩ : ByteArray).size = 0 := rfl
  obtain ⟨_, _, _, s1, u1⟩ := col_ok c (by omega)
  obtain ⟨_, _, _, s2, _⟩ := col_ok (mc rows n o c) (mc_le ho hc)
  obtain ⟨_, _, s3, u3⟩ := row_ok r (by omega)
  have b36 : bytesOf (strOfNums [36]) = [36] := rfl
  have n36 : (strOfNums [36]).size = 1 := rfl
  have lr := bytesOf_length (rowT r)
  have second : ∀ (op1 : ByteArray) (abs1 : Bool), bytesOf op1 = bytesOf op ++ (if a = true then [36] else []) → op1.size ≤ op.size + 1 → ∃ (op2 : ByteArray) (abs2 : Bool), bytesOf op2 = bytesOf op ++ ((if a = true then [36] else []) ++ (bytesOf (colT (mc rows n o c)) ++ (if b = true then [36] else []))) ∧ op2.size ≤ op.size + 4 ∧
      ∀ (rest : List Int) (x : OpW.St), Ev (fun k => OpW.runF k rows n o rest ⟨⟨#[]⟩, rowT r, op2, abs2⟩) x → Ev (fun k => OpW.runF k rows n o (bytesOf (colT c) ++ ((if b = true then [36] else []) ++ bytesOf (rowT r)) ++ rest) ⟨⟨#[]⟩, ⟨#[]⟩, op1, abs1⟩) x := by
    intro op1 abs1 hb1 hz1
    have start : ∀ (rest : List Int) (x : OpW.St), Ev (fun k => OpW.runF k rows n o ((if b = true then [36] else []) ++ bytesOf (rowT r) ++ rest) ⟨colT c, ⟨#[]⟩, op1, abs1⟩) x → Ev (fun k => OpW.runF k rows n o (bytesOf (colT c) ++ ((if b = true then [36] else []) ++ bytesOf (rowT r)) ++ rest) ⟨⟨#[]⟩, ⟨#[]⟩, op1, abs1⟩) x := fun rest x h =>
      Ev.congr (fun k => by rw [List.append_assoc, run_letters k rows n o _ ⟨#[]⟩ op1 abs1 (by omega) (by omega) (bytesOf (colT c)) ⟨#[]⟩ u1 (by rw [bytesOf_length]; omega), show (⟨#[]⟩ : ByteArray) ++ strOfNums (bytesOf (colT c)) = colT c from by rw [strOf_bytes]; exact ByteArray.empty_append]) h
    cases b with
    | true =>
      refine ⟨(op1 ++ colT (mc rows n o c)) ++ strOfNums [36], true, ?_, ?_, fun rest x h => start rest x ?_⟩
      · rw [bytes_append, bytes_append, hb1, b36, if_pos (show true = true from rfl)]
        simp only [List.append_assoc]
      · simp only [ByteArray.size_append]; omega
      · rw [if_pos rfl, List.append_assoc, List.singleton_append]
        refine run_dollar1 rows n o c _ op1 abs1 (by omega) ho hc x ?_
        refine run_digits rows n o rest _ true (by simp only [ByteArray.size_append]; omega) x (bytesOf (rowT r)) ⟨#[]⟩ u3 (by omega) ?_
        rw [strOf_bytes, show (⟨#[]⟩ : ByteArray) ++ rowT r = rowT r from ByteArray.empty_append]
        exact h
    | false =>
      refine ⟨op1 ++ colT (mc rows n o c), false, ?_, ?_, fun rest x h => start rest x ?_⟩
      · rw [bytes_append, hb1, if_neg (show ¬ (false = true) by decide), List.append_nil]
        simp only [List.append_assoc]
      · simp only [ByteArray.size_append]; omega
      · rw [if_neg (show ¬ (false = true) by decide), List.nil_append]
        obtain ⟨d, l, hl⟩ : ∃ d l, bytesOf (rowT r) = d :: l := by
          match hq : bytesOf (rowT r) with
          | [] => rw [hq] at lr; simp at lr; omega
          | d :: l => exact ⟨d, l, rfl⟩
        have hd := u3 d (by rw [hl]; exact List.mem_cons_self)
        rw [hl, List.cons_append]
        refine run_digit rows n o c d _ op1 abs1 (by omega) ho hc hd x ?_
        refine run_digits rows n o rest _ false (by rw [ByteArray.size_append]; omega) x l _ (fun y hy => u3 y (by rw [hl]; exact List.mem_cons_of_mem _ hy)) (by rw [size_nums]; have := congrArg List.length hl; rw [lr] at this; simp only [List.length_cons, List.length_singleton, List.length_nil] at this ⊢; omega) ?_
        rw [nums_cons, ← hl, strOf_bytes]
        exact h
  unfold CB
  cases a with
  | true =>
    obtain ⟨op2, abs2, h1, h3, h4⟩ := second (op ++ strOfNums [36]) true (by rw [bytes_append, b36, if_pos rfl]) (by rw [ByteArray.size_append]; omega)
    refine ⟨op2, abs2, h1, h3, fun rest x h => ?_⟩
    rw [if_pos rfl, List.append_assoc, List.singleton_append]
    exact run_dollar0 rows n o _ op abs (by omega) x (h4 rest x h)
  | false =>
    obtain ⟨op2, abs2, h1, h3, h4⟩ := second op abs (by rw [if_neg (by decide), List.append_nil]) (by omega)
    refine ⟨op2, abs2, h1, h3, fun rest x h => ?_⟩
    rw [if_neg (by decide), List.nil_append]
    exact h4 rest x h

/-! ### the package's function at a reference -/
/-- What the reference's own text becomes, whatever stands written already. -/
def Goes (rows : Bool) (n o : Int) (B B2 : List Int) : Prop := ∀ (op x : ByteArray), op.size ≤ 100 → bytesOf x = B → ∃ res, Ev (fun k => go k rows n o x op) (res, true) ∧ bytesOf res = bytesOf op ++ B2
theorem goes_cell (rows : Bool) (n o : Int) (a b : Bool) (c r : Int) (ho : 1 ≤ o ∧ o ≤ 20) (hc : 1 ≤ c ∧ c ≤ 30) (hr : 1 ≤ r ∧ r ≤ 60) : Goes rows n o (CB a b c r) (CB a b (mc rows n o c) (mr rows n o r)) := by
  intro op x hz hx
  obtain ⟨op2, abs2, h1, h2, h3⟩ := run_corner rows n o a b c r op false (by omega) ho hc hr
  refine ⟨op2 ++ rowT (mr rows n o r), ?_, ?_⟩
  · unfold go
    rw [hx]
    have h4 := h3 [] ⟨⟨#[]⟩, rowT r, op2, abs2⟩ (Ev.now _)
    rw [List.append_nil] at h4
    refine Ev.bind h4 ?_
    refine Ev.bind (ref_some rows n o r op2 abs2 (by omega) ho hr) ?_
    exact Ev.congr (f := fun _ => some _) (fun k => if_pos rfl) (Ev.now _)
  · rw [bytes_append, h1]
    unfold CB
    simp only [List.append_assoc]
theorem goes_area (rows : Bool) (n o : Int) (a b e f : Bool) (c r d s : Int) (ho : 1 ≤ o ∧ o ≤ 20) (hc : 1 ≤ c ∧ c ≤ 30) (hr : 1 ≤ r ∧ r ≤ 60) (hd : 1 ≤ d ∧ d ≤ 30) (hs : 1 ≤ s ∧ s ≤ 60) : Goes rows n o (CB a b c r ++ 58 :: CB e f d s) (CB a b (mc rows n o c) (mr rows n o r) ++ 58 :: CB e f (mc rows n o d) (mr rows n o s)) := by
  intro op x hz hx
  obtain ⟨op2, abs2, h1, h2, h3⟩ := run_corner rows n o a b c r op false (by omega) ho hc hr
  obtain ⟨_, _, z1, _⟩ := row_ok (mr rows n o r) (mr_le ho hr)
  have n58 : (strOfNums [58]).size = 1 := rfl
  have b58 : bytesOf (strOfNums [58]) = [58] := rfl
  obtain ⟨op4, abs4, g1, g2, g3⟩ := run_corner rows n o e f d s ((op2 ++ rowT (mr rows n o r)) ++ strOfNums [58]) false (by simp only [ByteArray.size_append]; omega) ho hd hs
  have hz4 : op4.size ≤ 2000 := by simp only [ByteArray.size_append] at g2; omega
  refine ⟨op4 ++ rowT (mr rows n o s), ?_, ?_⟩
  · unfold go
    rw [hx]
    have h4 := g3 [] ⟨⟨#[]⟩, rowT s, op4, abs4⟩ (Ev.now _)
    rw [List.append_nil] at h4
    refine Ev.bind (h3 _ _ (run_colon rows n o r _ op2 abs2 (by omega) ho hr _ h4)) ?_
    refine Ev.bind (ref_some rows n o s op4 abs4 hz4 ho hs) ?_
    exact Ev.congr (f := fun _ => some _) (fun k => if_pos rfl) (Ev.now _)
  · rw [bytes_append, g1, bytes_append, bytes_append, h1, b58]
    unfold CB
    simp only [List.append_assoc, List.singleton_append, List.cons_append, List.nil_append]
theorem CB_no (a b : Bool) (c r : Int) (hc : 1 ≤ c ∧ c ≤ 60) (hr : 1 ≤ r ∧ r ≤ 99) : ∀ x ∈ CB a b c r, x ≠ 33 := by
  intro x hx
  obtain ⟨_, _, _, _, u1⟩ := col_ok c hc
  obtain ⟨_, _, _, u3⟩ := row_ok r hr
  unfold CB at hx
  rcases List.mem_append.1 hx with hx | hx
  · split at hx
    · rw [List.mem_singleton.1 hx]; decide
    · cases hx
  · rcases List.mem_append.1 hx with hx | hx
    · have := u1 x hx; omega
    · rcases List.mem_append.1 hx with hx | hx
      · split at hx
        · rw [List.mem_singleton.1 hx]; decide
        · cases hx
      · have := u3 x hx; omega
theorem split1 (t : ByteArray) (hz : t.size ≤ 1000) (hn : (33 : Int) ∉ bytesOf t) : Ev (fun k => PFnCols.excelize_zzSplit.f k t ⟨#[33]⟩) [t] := by
  refine ⟨1000002, fun k hk => ?_⟩
  obtain ⟨j, rfl⟩ : ∃ j, k = j + 1 := ⟨k - 1, by omega⟩
  exact split_one t ⟨#[33]⟩ 33 rfl hn (by omega) j (by omega)
theorem split2 (s t : ByteArray) (hs : s.size ≤ 1000) (hz : t.size ≤ 1000) (hn : (33 : Int) ∉ bytesOf s) (hm : (33 : Int) ∉ bytesOf t) : Ev (fun k => PFnCols.excelize_zzSplit.f k ((s ++ OpG.mark) ++ t) ⟨#[33]⟩) [s, t] := by
  refine ⟨1000003, fun k hk => ?_⟩
  obtain ⟨j, rfl⟩ : ∃ j, k = j + 2 := ⟨k - 2, by omega⟩
  have : (⟨#[33]⟩ : ByteArray).size = 1 := rfl
  exact split_two s t ⟨#[33]⟩ 33 rfl hn hm (by simp only [ByteArray.size_append]; omega) j (by omega)
theorem pre_none (t : ByteArray) : pre ⟨#[]⟩ t = t := if_pos rfl
theorem pre_1 (t : ByteArray) : pre sh1 t = ((sh1 ++ OpG.mark) ++ t) := if_neg (by decide)
theorem pre_2 (t : ByteArray) : pre sh2 t = ((sh2 ++ OpG.mark) ++ t) := if_neg (by decide)
/-- Which references move. -/
def Moves (SH OW : ByteArray) : Prop := SH = sh1 ∨ (SH = ⟨#[]⟩ ∧ OW = sh1)
instance (SH OW : ByteArray) : Decidable (Moves SH OW) := inferInstanceAs (Decidable (_ ∨ _ ∧ _))
theorem impl_ev (rows : Bool) (n o : Int) (B B2 : List Int) (SH OW t t2 : ByteArray) (hSH : SH = ⟨#[]⟩ ∨ SH = sh1 ∨ SH = sh2) (hOW : OW = sh1 ∨ OW = sh2) (hG : Goes rows n o B B2) (ht : bytesOf t = B) (ht2 : bytesOf t2 = B2) (hz : t.size ≤ 100) (hn : (33 : Int) ∉ B) :
    Ev (fun k => impl_AdjustOperand.f k sh1 OW (pre SH t) false rows n o) (if Moves SH OW then pre SH t2 else pre SH t, true) := by
  have sm : OpG.mark.size = 1 := rfl
  have s1 : sh1.size = 6 := rfl
  have s2 : sh2.size = 6 := rfl
  have s0 : (⟨#[]⟩ : ByteArray).size = 0 := rfl
  have hn' : (33 : Int) ∉ bytesOf t := by rw [ht]; exact hn
  rcases hSH with rfl | rfl | rfl
  · rw [pre_none, pre_none]
    unfold impl_AdjustOperand.f
    refine Ev.congr (fun k => if_pos ⟨rfl, rfl, by omega⟩) ?_
    refine Ev.bind (split1 t (by omega) hn') ?_
    rcases hOW with rfl | rfl
    · obtain ⟨res, h1, h2⟩ := hG ⟨#[]⟩ t (by omega) ht
      have hr : res = t2 := bytes_inj (by rw [h2, ht2]; rfl)
      rw [if_pos (show Moves _ _ from .inr ⟨rfl, rfl⟩), ← hr]
      refine Ev.congr (fun k => ?_) h1
      show (if t = t then (if sh1 = sh1 then go k rows n o t ⟨#[]⟩ else if sh1 = sh2 then some ((⟨#[]⟩ : ByteArray) ++ t, true) else none) else none) = _
      rw [if_pos rfl, if_pos rfl]
    · rw [if_neg (show ¬ Moves _ _ from fun h => by rcases h with h | h; exact absurd h (by decide); exact absurd h.2 (by decide))]
      refine Ev.congr (f := fun _ => some (t, true)) (fun k => ?_) (Ev.now _)
      show (if t = t then (if sh2 = sh1 then go k rows n o t ⟨#[]⟩ else if sh2 = sh2 then some ((⟨#[]⟩ : ByteArray) ++ t, true) else none) else none) = _
      rw [if_pos rfl, if_neg (show ¬ sh2 = sh1 by decide), if_pos rfl, show (⟨#[]⟩ : ByteArray) ++ t = t from ByteArray.empty_append]
  · rw [pre_1, pre_1, if_pos (show Moves _ _ from .inl rfl)]
    unfold impl_AdjustOperand.f
    refine Ev.congr (fun k => if_pos ⟨rfl, rfl, by simp only [ByteArray.size_append]; omega⟩) ?_
    refine Ev.bind (split2 sh1 t (by omega) (by omega) (by decide) hn') ?_
    obtain ⟨res, h1, h2⟩ := hG (sh1 ++ OpG.mark) t (by rw [ByteArray.size_append]; omega) ht
    have hr : res = ((sh1 ++ OpG.mark) ++ t2) := bytes_inj (h2.trans (by rw [← ht2]; exact (bytes_append _ _).symm))
    rw [← hr]
    refine Ev.congr (fun k => ?_) h1
    show (if t.size ≤ 1000 then (if sh1 = sh1 then go k rows n o t (sh1 ++ OpG.mark) else if sh1 = sh2 then some ((sh2 ++ OpG.mark) ++ t, true) else none) else none) = _
    rw [if_pos (by omega), if_pos rfl]
  · rw [pre_2, if_neg (show ¬ Moves _ _ from fun h => by rcases h with h | h; exact absurd h (by decide); exact absurd h.1 (by decide))]
    unfold impl_AdjustOperand.f
    refine Ev.congr (fun k => if_pos ⟨rfl, rfl, by simp only [ByteArray.size_append]; omega⟩) ?_
    refine Ev.bind (split2 sh2 t (by omega) (by omega) (by decide) hn') ?_
    refine Ev.congr (f := fun _ => some (((sh2 ++ OpG.mark) ++ t), true)) (fun k => ?_) (Ev.now _)
    show (if t.size ≤ 1000 then (if sh2 = sh1 then go k rows n o t (sh1 ++ OpG.mark) else if sh2 = sh2 then some ((sh2 ++ OpG.mark) ++ t, true) else none) else none) = _
    rw [if_pos (by omega), if_neg (show ¬ sh2 = sh1 by decide), if_pos rfl]
end Go.Proofs.YtfbenlenihlpbaaDoor.EvOp
end

section
namespace Go.Proofs.YtfbenlenihlpbaaDoor.EvOperand
open Go.RowKit Go.Proofs.YtfbenlenihlpbaaDoorW.PrintWords Go.Proofs.YtfbenlenihlpbaaDoorW.PrintLast Go.Proofs.YtfbenlenihlpbaaDoorW.PrintMore
open Go.Proofs.YtfbenlenihlpbaaDoor.Str Go.Proofs.YtfbenlenihlpbaaDoor.POa Go.Proofs.YtfbenlenihlpbaaDoor.OpG Go.Proofs.YtfbenlenihlpbaaDoor.EvOp
set_option linter.unusedVariables false
set_option linter.unusedSimpArgs false

abbrev nil : Unit := ()
theorem fit_cell (SH : ByteArray) (h : SH = ⟨#[]⟩ ∨ SH = sh1 ∨ SH = sh2) : Fit cellT ⟨#[]⟩ false SH 0 := ⟨.inl rfl, rfl, rfl, h, rfl⟩
theorem fit_area (SH : ByteArray) (h : SH = ⟨#[]⟩ ∨ SH = sh1 ∨ SH = sh2) : Fit areaT ⟨#[]⟩ false SH 0 := ⟨.inr rfl, rfl, rfl, h, rfl⟩
theorem print_cell (SH : ByteArray) (h : SH = ⟨#[]⟩ ∨ SH = sh1 ∨ SH = sh2) (c r x6 x7 : Int) (b0 b1 x10 x11 : Bool) (hc : 1 ≤ c ∧ c ≤ 60) (hr : 1 ≤ r ∧ r ≤ 99) :
    ∃ t, Ev (fun k => spec_Print.f k cellT ⟨#[]⟩ false SH c r x6 x7 b0 b1 x10 x11 0 nil) (pre SH t) ∧ bytesOf t = CB b0 b1 c r ∧ t.size ≤ 6 := by
  obtain ⟨t, h1, h2, h3⟩ := corner_ev b0 b1 c r hc hr
  refine ⟨t, ?_, h2, h3⟩
  unfold spec_Print.f
  refine Ev.congr (fun k => (if_pos (fit_cell SH h)).trans (if_pos rfl)) ?_
  refine Ev.bind h1 ?_
  exact Ev.congr (f := fun _ => some _) (fun k => if_pos (by omega)) (Ev.now _)
theorem print_area (SH : ByteArray) (h : SH = ⟨#[]⟩ ∨ SH = sh1 ∨ SH = sh2) (c r d s : Int) (b0 b1 b2 b3 : Bool) (hc : 1 ≤ c ∧ c ≤ 60) (hr : 1 ≤ r ∧ r ≤ 99) (hd : 1 ≤ d ∧ d ≤ 60) (hs : 1 ≤ s ∧ s ≤ 99) :
    ∃ t, Ev (fun k => spec_Print.f k areaT ⟨#[]⟩ false SH c r d s b0 b1 b2 b3 0 nil) (pre SH t) ∧ bytesOf t = CB b0 b1 c r ++ 58 :: CB b2 b3 d s ∧ t.size ≤ 13 := by
  obtain ⟨t, h1, h2, h3⟩ := corner_ev b0 b1 c r hc hr
  obtain ⟨u, g1, g2, g3⟩ := corner_ev b2 b3 d s hd hs
  have z58 : (⟨#[58]⟩ : ByteArray).size = 1 := rfl
  have zc : colon.size = 1 := rfl
  refine ⟨(t ++ colon) ++ u, ?_, ?_, ?_⟩
  · unfold spec_Print.f
    refine Ev.congr (fun k => (if_pos (fit_area SH h)).trans (if_neg (show ¬ areaT = cellT by decide))) ?_
    refine Ev.bind h1 ?_
    refine Ev.bind g1 ?_
    exact Ev.congr (f := fun _ => some _) (fun k => if_pos ⟨by omega, by omega⟩) (Ev.now _)
  · rw [bytes_append, bytes_append, h2, g2, show bytesOf colon = [58] from rfl, List.append_assoc, List.singleton_append]
  · rw [ByteArray.size_append, ByteArray.size_append]; omega
theorem expr_cell (SH OW : ByteArray) (h : SH = ⟨#[]⟩ ∨ SH = sh1 ∨ SH = sh2) (hOW : OW = sh1 ∨ OW = sh2) (rows : Bool) (n o c r x6 x7 : Int) (b0 b1 x10 x11 : Bool) (ho : 1 ≤ o ∧ o ≤ 20) (hc : 1 ≤ c ∧ c ≤ 30) (hr : 1 ≤ r ∧ r ≤ 60) :
    spec_GridMove_Expr.f rows n o cellT ⟨#[]⟩ false SH c r x6 x7 b0 b1 x10 x11 0 nil OW sh1 = some (cellT, ⟨#[]⟩, false, SH, if Moves SH OW then mc rows n o c else c, if Moves SH OW then mr rows n o r else r, x6, x7, b0, b1, x10, x11, 0, nil) := by
  unfold spec_GridMove_Expr.f
  rw [if_pos ⟨fit_cell SH h, rfl, hOW⟩]
  by_cases hM : Moves SH OW
  · rw [if_pos hM, if_pos hM]
    exact (if_pos hM).trans ((if_pos rfl).trans (by rw [place rows n o c r ho hc hr]; rfl))
  · rw [if_neg hM, if_neg hM]
    exact if_neg hM
theorem expr_area (SH OW : ByteArray) (h : SH = ⟨#[]⟩ ∨ SH = sh1 ∨ SH = sh2) (hOW : OW = sh1 ∨ OW = sh2) (rows : Bool) (n o c r d s : Int) (b0 b1 b2 b3 : Bool) (ho : 1 ≤ o ∧ o ≤ 20) (hc : 1 ≤ c ∧ c ≤ 30) (hr : 1 ≤ r ∧ r ≤ 60) (hd : 1 ≤ d ∧ d ≤ 30) (hs : 1 ≤ s ∧ s ≤ 60) :
    spec_GridMove_Expr.f rows n o areaT ⟨#[]⟩ false SH c r d s b0 b1 b2 b3 0 nil OW sh1 = some (areaT, ⟨#[]⟩, false, SH, if Moves SH OW then mc rows n o c else c, if Moves SH OW then mr rows n o r else r, if Moves SH OW then mc rows n o d else d, if Moves SH OW then mr rows n o s else s, b0, b1, b2, b3, 0, nil) := by
  unfold spec_GridMove_Expr.f
  rw [if_pos ⟨fit_area SH h, rfl, hOW⟩]
  by_cases hM : Moves SH OW
  · rw [if_pos hM, if_pos hM, if_pos hM, if_pos hM]
    exact (if_pos hM).trans ((if_neg (show ¬ areaT = cellT by decide)).trans (by rw [place rows n o c r ho hc hr, place rows n o d s ho hd hs]; rfl))
  · rw [if_neg hM, if_neg hM, if_neg hM, if_neg hM]
    exact if_neg hM
/-- All that the law asks of a reference. -/
structure Sees (op SH OW : ByteArray) (rows : Bool) (n o c r d s : Int) (b0 b1 b2 b3 : Bool) : Prop where
  out : ∃ (c2 r2 d2 s2 : Int) (T T2 : ByteArray), spec_GridMove_Expr.f rows n o op ⟨#[]⟩ false SH c r d s b0 b1 b2 b3 0 nil OW sh1 = some (op, ⟨#[]⟩, false, SH, c2, r2, d2, s2, b0, b1, b2, b3, 0, nil) ∧
    Ev (fun k => spec_Print.f k op ⟨#[]⟩ false SH c r d s b0 b1 b2 b3 0 nil) T ∧ Ev (fun k => impl_AdjustOperand.f k sh1 OW T false rows n o) (T2, true) ∧ Ev (fun k => spec_Print.f k op ⟨#[]⟩ false SH c2 r2 d2 s2 b0 b1 b2 b3 0 nil) T2
theorem sees_cell (SH OW : ByteArray) (h : SH = ⟨#[]⟩ ∨ SH = sh1 ∨ SH = sh2) (hOW : OW = sh1 ∨ OW = sh2) (rows : Bool) (n o c r x6 x7 : Int) (b0 b1 x10 x11 : Bool) (ho : 1 ≤ o ∧ o ≤ 20) (hc : 1 ≤ c ∧ c ≤ 30) (hr : 1 ≤ r ∧ r ≤ 60) : Sees cellT SH OW rows n o c r x6 x7 b0 b1 x10 x11 := by
  have m1 := mc_le (rows := rows) (n := n) ho hc
  have m2 := mr_le (rows := rows) (n := n) ho hr
  obtain ⟨t, p1, p2, p3⟩ := print_cell SH h c r x6 x7 b0 b1 x10 x11 (by omega) (by omega)
  obtain ⟨t2, q1, q2, q3⟩ := print_cell SH h (mc rows n o c) (mr rows n o r) x6 x7 b0 b1 x10 x11 m1 m2
  have hI := impl_ev rows n o _ _ SH OW t t2 h hOW (goes_cell rows n o b0 b1 c r ho hc hr) p2 q2 (by omega) (fun hx => CB_no b0 b1 c r (by omega) (by omega) 33 hx rfl)
  refine ⟨_, _, _, _, _, _, expr_cell SH OW h hOW rows n o c r x6 x7 b0 b1 x10 x11 ho hc hr, p1, hI, ?_⟩
  by_cases hM : Moves SH OW
  · simp only [if_pos hM]; exact q1
  · simp only [if_neg hM]; exact p1
theorem sees_area (SH OW : ByteArray) (h : SH = ⟨#[]⟩ ∨ SH = sh1 ∨ SH = sh2) (hOW : OW = sh1 ∨ OW = sh2) (rows : Bool) (n o c r d s : Int) (b0 b1 b2 b3 : Bool) (ho : 1 ≤ o ∧ o ≤ 20) (hc : 1 ≤ c ∧ c ≤ 30) (hr : 1 ≤ r ∧ r ≤ 60) (hd : 1 ≤ d ∧ d ≤ 30) (hs : 1 ≤ s ∧ s ≤ 60) : Sees areaT SH OW rows n o c r d s b0 b1 b2 b3 := by
  have m1 := mc_le (rows := rows) (n := n) ho hc
  have m2 := mr_le (rows := rows) (n := n) ho hr
  have m3 := mc_le (rows := rows) (n := n) ho hd
  have m4 := mr_le (rows := rows) (n := n) ho hs
  obtain ⟨t, p1, p2, p3⟩ := print_area SH h c r d s b0 b1 b2 b3 (by omega) (by omega) (by omega) (by omega)
  obtain ⟨t2, q1, q2, q3⟩ := print_area SH h (mc rows n o c) (mr rows n o r) (mc rows n o d) (mr rows n o s) b0 b1 b2 b3 m1 m2 m3 m4
  have hI := impl_ev rows n o _ _ SH OW t t2 h hOW (goes_area rows n o b0 b1 b2 b3 c r d s ho hc hr hd hs) p2 q2 (by omega) (fun hx => by
    rcases List.mem_append.1 hx with hx | hx
    · exact CB_no b0 b1 c r (by omega) (by omega) 33 hx rfl
    · rcases List.mem_cons.1 hx with hx | hx
      · cases hx
      · exact CB_no b2 b3 d s (by omega) (by omega) 33 hx rfl)
  refine ⟨_, _, _, _, _, _, expr_area SH OW h hOW rows n o c r d s b0 b1 b2 b3 ho hc hr hd hs, p1, hI, ?_⟩
  by_cases hM : Moves SH OW
  · simp only [if_pos hM]; exact q1
  · simp only [if_neg hM]; exact p1

open Go.Proofs.YtfbenlenihlpbaaDoor.PAo in
theorem plain (a0 a1 a2 a3 : Int) (single : Bool) (dd own named : Int) (rows : Bool) (num n : Int) : ∃ k, laws_FnAdjustOperand.f k a0 a1 a2 a3 single dd own named rows num n = some true := by
  obtain ⟨c, r, d, s, hA, bc, br, bd, bs⟩ := area a0 a1 a2 a3
  obtain ⟨g3, e3, g31, g32⟩ := number named 3 (by omega)
  obtain ⟨g2, e2, g21, g22⟩ := number own 2 (by omega)
  obtain ⟨N, eN, _, _⟩ := number num 70 (by omega)
  obtain ⟨O, eO, o1, o2⟩ := number n 20 (by omega)
  have w3 : wrap64 (g3 - 1) = g3 - 1 := w64s (by omega) (by omega)
  have w2 : wrap64 (g2 - 1) = g2 - 1 := w64s (by omega) (by omega)
  obtain ⟨SH, hS, hSH⟩ : ∃ SH, rdOf ByteArray.empty [sh1, sh2, (⟨#[]⟩ : ByteArray)] (g3 - 1) = SH ∧ (SH = ⟨#[]⟩ ∨ SH = sh1 ∨ SH = sh2) := by
    have : g3 = 1 ∨ g3 = 2 ∨ g3 = 3 := by omega
    rcases this with rfl | rfl | rfl
    · exact ⟨sh1, rfl, .inr (.inl rfl)⟩
    · exact ⟨sh2, rfl, .inr (.inr rfl)⟩
    · exact ⟨⟨#[]⟩, rfl, .inl rfl⟩
  obtain ⟨OW, hW, hOW⟩ : ∃ OW, rdOf ByteArray.empty [sh1, sh2, (⟨#[]⟩ : ByteArray)] (g2 - 1) = OW ∧ (OW = sh1 ∨ OW = sh2) := by
    have : g2 = 1 ∨ g2 = 2 := by omega
    rcases this with rfl | rfl
    · exact ⟨sh1, rfl, .inl rfl⟩
    · exact ⟨sh2, rfl, .inr rfl⟩
  refine Ev.rounds (g := fun k => laws_FnAdjustOperand.f k a0 a1 a2 a3 single dd own named rows num n) ?_
  unfold laws_FnAdjustOperand.f
  refine Ev.congr (fun k => by rw [Option.bind_some, e3, Option.bind_some, w3, if_pos (by omega), if_pos (show g3 - 1 < (([sh1, sh2, (⟨#[]⟩ : ByteArray)].length : Nat) : Int) by simp; omega), hS]) ?_
  cases single with
  | true =>
    refine Ev.bind (a := (cellT, ⟨#[]⟩, false, SH, c, r, 0, 0, (bits BinOp.and IntKind.i64 dd 1 == 1), (bits BinOp.and IntKind.i64 (dd / 2) 1 == 1), false, false, 0, nil)) (Ev.bind hA (Ev.congr (f := fun _ => some _) (fun k => if_pos rfl) (Ev.now _))) ?_
    dsimp only
    obtain ⟨c2, r2, d2, s2, T, T2, hX, hP, hI, hQ⟩ := (sees_cell SH OW hSH hOW rows N O c r 0 0 (bits BinOp.and IntKind.i64 dd 1 == 1) (bits BinOp.and IntKind.i64 (dd / 2) 1 == 1) false false ⟨o1, o2⟩ bc br).out
    refine Ev.congr (fun k => by rw [e2, Option.bind_some, w2, if_pos (by omega), if_pos (show g2 - 1 < (([sh1, sh2, (⟨#[]⟩ : ByteArray)].length : Nat) : Int) by simp; omega), eN, Option.bind_some, eO, Option.bind_some, hW, hX, Option.bind_some]) ?_
    refine Ev.bind hP ?_
    refine Ev.bind hI ?_
    refine Ev.congr (fun k => if_pos rfl) ?_
    refine Ev.bind hQ ?_
    exact Ev.congr (f := fun _ => some true) (fun k => (if_pos rfl).trans rfl) (Ev.now _)
  | false =>
    refine Ev.bind (a := (areaT, ⟨#[]⟩, false, SH, c, r, d, s, (bits BinOp.and IntKind.i64 dd 1 == 1), (bits BinOp.and IntKind.i64 (dd / 2) 1 == 1), (bits BinOp.and IntKind.i64 (dd / 4) 1 == 1), (bits BinOp.and IntKind.i64 (dd / 8) 1 == 1), 0, nil)) (Ev.bind hA (Ev.congr (f := fun _ => some _) (fun k => if_neg (by decide)) (Ev.now _))) ?_
    dsimp only
    obtain ⟨c2, r2, d2, s2, T, T2, hX, hP, hI, hQ⟩ := (sees_area SH OW hSH hOW rows N O c r d s (bits BinOp.and IntKind.i64 dd 1 == 1) (bits BinOp.and IntKind.i64 (dd / 2) 1 == 1) (bits BinOp.and IntKind.i64 (dd / 4) 1 == 1) (bits BinOp.and IntKind.i64 (dd / 8) 1 == 1) ⟨o1, o2⟩ bc br bd bs).out
    refine Ev.congr (fun k => by rw [e2, Option.bind_some, w2, if_pos (by omega), if_pos (show g2 - 1 < (([sh1, sh2, (⟨#[]⟩ : ByteArray)].length : Nat) : Int) by simp; omega), eN, Option.bind_some, eO, Option.bind_some, hW, hX, Option.bind_some]) ?_
    refine Ev.bind hP ?_
    refine Ev.bind hI ?_
    refine Ev.congr (fun k => if_pos rfl) ?_
    refine Ev.bind hQ ?_
    exact Ev.congr (f := fun _ => some true) (fun k => (if_pos rfl).trans rfl) (Ev.now _)
theorem law (a0 a1 a2 a3 : Int) (single : Bool) (dd own named : Int) (rows : Bool) (num n : Int) (w : World) (hU : Alnum.Props w) :
    Calls Tryd.prog 8 #[.agg #[.int .i64 a0, .int .i64 a1, .int .i64 a2, .int .i64 a3], .bool single, .int .i64 dd, .int .i64 own, .int .i64 named, .bool rows, .int .i64 num, .int .i64 n] w fun e w' => e = .returned (.bool true) ∧ Below w.heap.size w w' := by
  obtain ⟨k, h⟩ := plain a0 a1 a2 a3 single dd own named rows num n
  exact PAo.laws_FnAdjustOperand.calls k a0 a1 a2 a3 single dd own named rows num n true w hU h
end Go.Proofs.YtfbenlenihlpbaaDoor.EvOperand
end
