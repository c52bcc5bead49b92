/- Plain facts of cells' names within 60 columns and 99 rows: how they are written and how the reference reads them. No conditions. -/
import Derived.Test.YtfbenlenihlpbaaDoorPRox3
import Derived.Test.YtfbenlenihlpbaaDoorGiven
import Derived.Test.YtfbenlenihlpbaaDoorStr
namespace Go.Proofs.YtfbenlenihlpbaaDoor.CellWide
open Go.RowKit Go.Proofs.YtfbenlenihlpbaaDoorW.PrintWords Go.Proofs.YtfbenlenihlpbaaDoorW.PrintLast Go.Proofs.YtfbenlenihlpbaaDoorW.PrintMore
open Go.Proofs.YtfbenlenihlpbaaDoor.Str
set_option linter.unusedVariables false
set_option linter.unusedSimpArgs false

theorem w64s {x : Int} (h : -1 ≤ x) (h2 : x ≤ 4611686018427387904) : wrap64 x = x := by unfold wrap64; omega
def colB (c : Nat) : List UInt8 := if c < 26 then [UInt8.ofNat (65 + c)] else [UInt8.ofNat (64 + c / 26), UInt8.ofNat (65 + c % 26)]
def rowB (r : Nat) : List UInt8 := if r < 10 then [UInt8.ofNat (48 + r)] else [UInt8.ofNat (48 + r / 10), UInt8.ofNat (48 + r % 10)]
/-- The name of a column, and of a cell: columns and rows from 1 on. -/
def colT (c : Int) : ByteArray := ⟨(colB (c.toNat - 1)).toArray⟩
def rowT (r : Int) : ByteArray := ⟨(rowB r.toNat).toArray⟩
def txt (c r : Int) : ByteArray := colT c ++ rowT r
theorem itoa_row (r : Int) (h : 1 ≤ r ∧ r ≤ 99) : Given.strconv_Itoa.f r = some (rowT r) := by
  unfold Given.strconv_Itoa.f
  rw [if_pos (by omega)]
  unfold Given.itoa rowT rowB
  rw [Lib.decDigits]
  by_cases h1 : r.toNat < 10
  · rw [dif_pos h1, if_pos h1]
  · rw [dif_neg h1, if_neg h1, Lib.decDigits, dif_pos (by omega)]; rfl
def okCell (c r : Nat) : Bool := decide (PRo.spec_Cell.f 40 (txt ((c : Int) + 1) ((r : Int) + 1)) = some ((c : Int) + 1, (r : Int) + 1, true, true))
theorem cells_ok1 : ((List.range 30).all fun c => (List.range 99).all fun r => okCell c r) = true := by decide +kernel
theorem cells_ok2 : ((List.range 30).all fun c => (List.range 99).all fun r => okCell (c + 30) r) = true := by decide +kernel
theorem cells_ok (c r : Nat) (hc : c < 60) (hr : r < 99) : okCell c r = true := by
  rcases Nat.lt_or_ge c 30 with h | h
  · exact List.all_eq_true.1 (List.all_eq_true.1 cells_ok1 c (List.mem_range.2 h)) r (List.mem_range.2 hr)
  · have := List.all_eq_true.1 (List.all_eq_true.1 cells_ok2 (c - 30) (List.mem_range.2 (by omega))) r (List.mem_range.2 hr)
    rwa [show c - 30 + 30 = c by omega] at this
theorem cell_read (c r : Int) (hc : 1 ≤ c ∧ c ≤ 60) (hr : 1 ≤ r ∧ r ≤ 99) : Ev (fun k => PRo.spec_Cell.f k (txt c r)) (c, r, true, true) := by
  have h := cells_ok (c.toNat - 1) (r.toNat - 1) (by omega) (by omega)
  unfold okCell at h
  have h := of_decide_eq_true h
  rw [show ((c.toNat - 1 : Nat) : Int) + 1 = c by omega, show ((r.toNat - 1 : Nat) : Int) + 1 = r by omega] at h
  exact Ev.of (PRo.spec_Cell.mono _) h
def okBytes (c r : Nat) : Bool := (bytesOf (txt ((c : Int) + 1) ((r : Int) + 1))).all (fun x => decide (48 ≤ x) && (decide (x ≤ 90) && decide (x ≠ 58))) && (decide (1 ≤ (txt ((c : Int) + 1) ((r : Int) + 1)).size) && decide ((txt ((c : Int) + 1) ((r : Int) + 1)).size ≤ 4))
theorem bytes_ok1 : ((List.range 30).all fun c => (List.range 99).all fun r => okBytes c r) = true := by decide +kernel
theorem bytes_ok2 : ((List.range 30).all fun c => (List.range 99).all fun r => okBytes (c + 30) r) = true := by decide +kernel
theorem bytes_ok (c r : Nat) (hc : c < 60) (hr : r < 99) : okBytes c r = true := by
  rcases Nat.lt_or_ge c 30 with h | h
  · exact List.all_eq_true.1 (List.all_eq_true.1 bytes_ok1 c (List.mem_range.2 h)) r (List.mem_range.2 hr)
  · have := List.all_eq_true.1 (List.all_eq_true.1 bytes_ok2 (c - 30) (List.mem_range.2 (by omega))) r (List.mem_range.2 hr)
    rwa [show c - 30 + 30 = c by omega] at this
theorem txt_bytes (c r : Int) (hc : 1 ≤ c ∧ c ≤ 60) (hr : 1 ≤ r ∧ r ≤ 99) : (∀ x ∈ bytesOf (txt c r), 48 ≤ x ∧ x ≤ 90 ∧ x ≠ 58) ∧ 1 ≤ (txt c r).size ∧ (txt c r).size ≤ 4 := by
  have h := bytes_ok (c.toNat - 1) (r.toNat - 1) (by omega) (by omega)
  unfold okBytes at h
  rw [show ((c.toNat - 1 : Nat) : Int) + 1 = c by omega, show ((r.toNat - 1 : Nat) : Int) + 1 = r by omega] at h
  rw [Bool.and_eq_true, Bool.and_eq_true, decide_eq_true_eq, decide_eq_true_eq] at h
  refine ⟨fun x hx => ?_, h.2⟩
  have := List.all_eq_true.1 h.1 x hx
  rw [Bool.and_eq_true, Bool.and_eq_true, decide_eq_true_eq, decide_eq_true_eq, decide_eq_true_eq] at this
  exact this
theorem not_colon (s : ByteArray) (h : ∀ x ∈ bytesOf s, 48 ≤ x ∧ x ≤ 90 ∧ x ≠ 58) (i : Nat) (hi : i < s.size) : bt s (i : Int) ≠ 58 := (h _ (List.mem_of_getElem? (bytes_get s i hi))).2.2
theorem bt_left (p q : ByteArray) (i : Nat) (hi : i < p.size) : bt (p ++ q) (i : Int) = bt p (i : Int) :=
  bt_bytes _ i _ (by rw [bytes_append, List.getElem?_append_left (by rw [bytesOf_length]; exact hi)]; exact bytes_get p i hi)
theorem bt_right (p q : ByteArray) (i : Nat) (hi : i < q.size) : bt (p ++ q) ((p.size + i : Nat) : Int) = bt q (i : Int) :=
  bt_bytes _ _ _ (by rw [bytes_append, List.getElem?_append_right (by rw [bytesOf_length]; omega), bytesOf_length, Nat.add_sub_cancel_left]; exact bytes_get q i hi)
theorem extract_left (p q : ByteArray) : (p ++ q).extract 0 p.size = p := by
  apply bytes_inj
  rw [bytes_extract, bytes_append, List.drop_zero, Nat.sub_zero, List.take_left' (bytesOf_length p)]
theorem extract_right (p q : ByteArray) (n : Nat) (hn : n = p.size) (m : Nat) (hm : m = (p ++ q).size) : (p ++ q).extract n m = q := by
  subst hn hm
  apply bytes_inj
  rw [bytes_extract, bytes_append, List.drop_left' (bytesOf_length p), List.take_of_length_le (by rw [bytesOf_length, ByteArray.size_append]; omega)]
/-- The place of the first colon is sought. -/
theorem one_skip (t : ByteArray) (cut : Int) (r : Int × Int × Int × Int × Bool) (hz : t.size ≤ 1000) : ∀ (d i : Nat) (e : Nat), e - i = d → i ≤ e → e ≤ t.size → (∀ j, i ≤ j → j < e → bt t (j : Int) ≠ 58 ∨ cut ≠ (t.size : Int)) →
    Ev (fun k => PRo.spec_gridReadOne.l0 k t cut (e : Int)) r → Ev (fun k => PRo.spec_gridReadOne.l0 k t cut (i : Int)) r := by
  intro d
  induction d with
  | zero =>
    intro i e hd hi he hn h
    obtain rfl : i = e := by omega
    exact h
  | succ d ih =>
    intro i e hd hi he hn h
    have hw : wrap64 ((i : Int) + 1) = ((i + 1 : Nat) : Int) := by rw [w64s (by omega) (by omega)]; omega
    have h' := ih (i + 1) e (by omega) (by omega) he (fun j a b => hn j (by omega) b) h
    rcases hn i (Nat.le_refl _) (by omega) with h1 | h1
    · exact Ev.step (fun k => by rw [PRo.spec_gridReadOne.l0, if_pos (by omega), if_pos (by omega), if_neg h1, hw]) h'
    · by_cases h2 : bt t (i : Int) = 58
      · exact Ev.step (fun k => by rw [PRo.spec_gridReadOne.l0, if_pos (by omega), if_pos (by omega), if_pos h2, if_neg h1, hw]) h'
      · exact Ev.step (fun k => by rw [PRo.spec_gridReadOne.l0, if_pos (by omega), if_pos (by omega), if_neg h2, hw]) h'
/-- A name as an area. -/
theorem read_one (p : ByteArray) (c r : Int) (hb : ∀ x ∈ bytesOf p, 48 ≤ x ∧ x ≤ 90 ∧ x ≠ 58) (hz : p.size ≤ 13) (hC : Ev (fun k => PRo.spec_Cell.f k p) (c, r, true, true)) : Ev (fun k => PRo.spec_gridReadOne.f k p) (c, r, c, r, true) := by
  unfold PRo.spec_gridReadOne.f
  refine one_skip p _ _ (by omega) p.size 0 p.size (by omega) (by omega) (Nat.le_refl _) (fun j _ hj => .inl (not_colon _ hb j hj)) ?_
  refine Ev.step (fun k => by rw [PRo.spec_gridReadOne.l0, if_neg (by omega), if_pos (by omega), if_pos (Int.le_refl _), show (p.size : Int).toNat = p.size by omega, ByteArray.extract_zero_size]) ?_
  refine Ev.bind hC ?_
  exact Ev.congr (f := fun _ => some _) (fun k => by rw [if_pos rfl, if_pos rfl]) (Ev.now _)
/-- Two names as an area. -/
theorem read_two (p q : ByteArray) (c r d s : Int) (hb : ∀ x ∈ bytesOf p, 48 ≤ x ∧ x ≤ 90 ∧ x ≠ 58) (z1 : p.size ≤ 13) (z2 : q.size ≤ 13) (hC : Ev (fun k => PRo.spec_Cell.f k p) (c, r, true, true)) (hD : Ev (fun k => PRo.spec_Cell.f k q) (d, s, true, true)) :
    Ev (fun k => PRo.spec_gridReadOne.f k (p ++ ⟨#[58]⟩ ++ q)) (c, r, d, s, true) := by
  have z3 : (⟨#[58]⟩ : ByteArray).size = 1 := rfl
  obtain ⟨t, ht⟩ : ∃ t, t = p ++ (⟨#[58]⟩ : ByteArray) ++ q := ⟨_, rfl⟩
  have hz : t.size = p.size + 1 + q.size := by rw [ht, ByteArray.size_append, ByteArray.size_append]; omega
  have hz2 : (p ++ (⟨#[58]⟩ : ByteArray)).size = p.size + 1 := by rw [ByteArray.size_append]; omega
  have eq1 : t = p ++ ((⟨#[58]⟩ : ByteArray) ++ q) := by
    rw [ht]
    apply bytes_inj
    simp only [bytes_append, List.append_assoc]
  have hcol : bt t (p.size : Int) = 58 := by
    have := bt_right p ((⟨#[58]⟩ : ByteArray) ++ q) 0 (by rw [ByteArray.size_append]; omega)
    rw [← eq1, Nat.add_zero] at this
    rw [this]
    exact bt_left (⟨#[58]⟩ : ByteArray) q 0 (by decide)
  have e1 : t.extract 0 p.size = p := by rw [eq1]; exact extract_left _ _
  have e2 : t.extract (p.size + 1) t.size = q := by
    have := extract_right (p ++ ⟨#[58]⟩) q (p.size + 1) hz2.symm t.size (by rw [ht])
    rwa [← ht] at this
  have hno : ∀ j, j < p.size → bt t (j : Int) ≠ 58 := fun j hj => by rw [eq1, bt_left _ _ j hj]; exact not_colon _ hb j hj
  rw [← ht]
  clear ht eq1 hb
  have hw : wrap64 ((p.size : Int) + 1) = ((p.size + 1 : Nat) : Int) := by rw [w64s (by omega) (by omega)]; omega
  unfold PRo.spec_gridReadOne.f
  refine one_skip t _ _ (by omega) p.size 0 p.size (by omega) (by omega) (by omega) (fun j _ hj => .inl (hno j hj)) ?_
  refine Ev.step (fun k => by rw [PRo.spec_gridReadOne.l0, if_pos (by omega), if_pos (by omega), if_pos hcol, if_pos rfl, hw]) ?_
  refine one_skip t _ _ (by omega) _ (p.size + 1) t.size rfl (by omega) (Nat.le_refl _) (fun j _ _ => .inr (by omega)) ?_
  refine Ev.step (fun k => by rw [PRo.spec_gridReadOne.l0, if_neg (by omega), if_pos (by omega), if_pos (by omega), show (p.size : Int).toNat = p.size by omega, e1]) ?_
  refine Ev.bind hC ?_
  refine Ev.congr (fun k => by rw [if_neg (by omega), hw, if_pos (by omega), if_pos (by omega), show ((p.size + 1 : Nat) : Int).toNat = p.size + 1 by omega, e2]) ?_
  refine Ev.bind hD ?_
  exact Ev.congr (f := fun _ => some _) (fun k => by rw [if_pos rfl, if_pos rfl, if_pos rfl]) (Ev.now _)
/-- A range of two cells. -/
def rng (c r d s : Int) : ByteArray := txt c r ++ ⟨#[58]⟩ ++ txt d s
theorem read_cell (c r : Int) (hc : 1 ≤ c ∧ c ≤ 60) (hr : 1 ≤ r ∧ r ≤ 99) : Ev (fun k => PRo.spec_gridReadOne.f k (txt c r)) (c, r, c, r, true) := by
  have h := txt_bytes c r hc hr
  exact read_one _ c r h.1 (Nat.le_trans h.2.2 (by decide)) (cell_read c r hc hr)
theorem read_range (c r d s : Int) (hc : 1 ≤ c ∧ c ≤ 60) (hr : 1 ≤ r ∧ r ≤ 99) (hd : 1 ≤ d ∧ d ≤ 60) (hs : 1 ≤ s ∧ s ≤ 99) : Ev (fun k => PRo.spec_gridReadOne.f k (rng c r d s)) (c, r, d, s, true) := by
  have h := txt_bytes c r hc hr
  have h2 := txt_bytes d s hd hs
  exact read_two _ _ c r d s h.1 (Nat.le_trans h.2.2 (by decide)) (Nat.le_trans h2.2.2 (by decide)) (cell_read c r hc hr) (cell_read d s hd hs)
end Go.Proofs.YtfbenlenihlpbaaDoor.CellWide
