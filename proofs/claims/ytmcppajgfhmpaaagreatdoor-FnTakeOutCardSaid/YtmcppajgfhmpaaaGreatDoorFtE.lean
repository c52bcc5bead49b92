/- FnTakeOut, plain facts: how cells and areas are written, split and squashed. No conditions. -/
import Derived.Test.YtmcppajgfhmpaaaGreatDoorFtQ
import Derived.Test.YtmcppajgfhmpaaaGreatDoorPToA
import Derived.Test.YtmcppajgfhmpaaaGreatDoorPToB
import Derived.Test.YtmcppajgfhmpaaaGreatDoorPTox18
import Derived.Test.YtmcppajgfhmpaaaGreatDoorGivenT
import Derived.Lib.Fields
namespace Go.Proofs.YtmcppajgfhmpaaaGreatDoor.FtE
open Go.RowKit Go.Proofs.YtmcppajgfhmpaaaGreatDoorW.PrintWords Go.Proofs.YtmcppajgfhmpaaaGreatDoorW.PrintLast Go.Proofs.YtmcppajgfhmpaaaGreatDoorW.PrintMore
open Go.Proofs.YtmcppajgfhmpaaaGreatDoor.Str Go.Proofs.YtmcppajgfhmpaaaGreatDoor.CellB Go.Proofs.YtmcppajgfhmpaaaGreatDoor.PrangeRefToCoordinates Go.Proofs.YtmcppajgfhmpaaaGreatDoor.FtA Go.Proofs.YtmcppajgfhmpaaaGreatDoor.FtB Go.Proofs.YtmcppajgfhmpaaaGreatDoor.FtQ
set_option linter.unusedVariables false
set_option linter.unusedSimpArgs false
theorem w64s {x : Int} (h : -1 ≤ x) (h2 : x ≤ 4611686018427387904) : wrap64 x = x := by unfold wrap64; omega
def colB (c : Nat) : List UInt8 := if c < 26 then [UInt8.ofNat (65 + c)] else [UInt8.ofNat (64 + c / 26), UInt8.ofNat (65 + c % 26)]
def rowB (r : Nat) : List UInt8 := if r < 10 then [UInt8.ofNat (48 + r)] else [UInt8.ofNat (48 + r / 10), UInt8.ofNat (48 + r % 10)]
/-- The name of a column, and of a cell: columns and rows from 1 on. -/
def colT (c : Int) : ByteArray := ⟨(colB (c.toNat - 1)).toArray⟩
def rowT (r : Int) : ByteArray := ⟨(rowB r.toNat).toArray⟩
def txt (c r : Int) : ByteArray := colT c ++ rowT r
theorem itoa_row (r : Int) (h : 1 ≤ r ∧ r ≤ 60) : GivenT.strconv_Itoa.f r = some (rowT r) := by
  unfold GivenT.strconv_Itoa.f
  rw [if_pos (by omega)]
  unfold GivenT.itoa rowT rowB
  rw [Lib.decDigits]
  by_cases h1 : r.toNat < 10
  · rw [dif_pos h1, if_pos h1]
  · rw [dif_neg h1, if_neg h1, Lib.decDigits, dif_pos (by omega)]; rfl
def okBytes (c r : Nat) : Bool := (bytesOf (txt ((c : Int) + 1) ((r : Int) + 1))).all (fun x => decide (48 ≤ x) && (decide (x ≤ 90) && decide (x ≠ 58))) && (decide (1 ≤ (txt ((c : Int) + 1) ((r : Int) + 1)).size) && decide ((txt ((c : Int) + 1) ((r : Int) + 1)).size ≤ 4))
theorem bytes_ok : ((List.range 30).all fun c => (List.range 60).all fun r => okBytes c r) = true := by decide +kernel
theorem txt_bytes (c r : Int) (hc : 1 ≤ c ∧ c ≤ 30) (hr : 1 ≤ r ∧ r ≤ 60) : (∀ x ∈ bytesOf (txt c r), 48 ≤ x ∧ x ≤ 90 ∧ x ≠ 58) ∧ 1 ≤ (txt c r).size ∧ (txt c r).size ≤ 4 := by
  have h := List.all_eq_true.1 (List.all_eq_true.1 bytes_ok (c.toNat - 1) (List.mem_range.2 (by omega))) (r.toNat - 1) (List.mem_range.2 (by omega))
  unfold okBytes at h
  rw [show ((c.toNat - 1 : Nat) : Int) + 1 = c by omega, show ((r.toNat - 1 : Nat) : Int) + 1 = r by omega] at h
  rw [Bool.and_eq_true, Bool.and_eq_true, decide_eq_true_eq, decide_eq_true_eq] at h
  refine ⟨fun x hx => ?_, h.2⟩
  have := List.all_eq_true.1 h.1 x hx
  rw [Bool.and_eq_true, Bool.and_eq_true, decide_eq_true_eq, decide_eq_true_eq, decide_eq_true_eq] at this
  exact this
theorem not_colon (s : ByteArray) (h : ∀ x ∈ bytesOf s, 48 ≤ x ∧ x ≤ 90 ∧ x ≠ 58) (i : Nat) (hi : i < s.size) : bt s (i : Int) ≠ 58 := (h _ (List.mem_of_getElem? (bytes_get s i hi))).2.2
theorem bt_left (p q : ByteArray) (i : Nat) (hi : i < p.size) : bt (p ++ q) (i : Int) = bt p (i : Int) :=
  bt_bytes _ i _ (by rw [bytes_append, List.getElem?_append_left (by rw [bytesOf_length]; exact hi)]; exact bytes_get p i hi)
theorem bt_right (p q : ByteArray) (i : Nat) (hi : i < q.size) : bt (p ++ q) ((p.size + i : Nat) : Int) = bt q (i : Int) :=
  bt_bytes _ _ _ (by rw [bytes_append, List.getElem?_append_right (by rw [bytesOf_length]; omega), bytesOf_length, Nat.add_sub_cancel_left]; exact bytes_get q i hi)
theorem extract_left (p q : ByteArray) : (p ++ q).extract 0 p.size = p := by
  apply bytes_inj
  rw [bytes_extract, bytes_append, List.drop_zero, Nat.sub_zero, List.take_left' (bytesOf_length p)]
theorem extract_right (p q : ByteArray) (n : Nat) (hn : n = p.size) (m : Nat) (hm : m = (p ++ q).size) : (p ++ q).extract n m = q := by
  subst hn hm
  apply bytes_inj
  rw [bytes_extract, bytes_append, List.drop_left' (bytesOf_length p), List.take_of_length_le (by rw [bytesOf_length, ByteArray.size_append]; omega)]
def rng (c r d s : Int) : ByteArray := txt c r ++ ⟨#[58]⟩ ++ txt d s
/-- An area's corners lie within the limits. -/
structure In (a : Ar) : Prop where
  x0 : 1 ≤ a.c0 ∧ a.c0 ≤ 30
  y0 : 1 ≤ a.r0 ∧ a.r0 ≤ 60
  x1 : 1 ≤ a.c1 ∧ a.c1 ≤ 30
  y1 : 1 ≤ a.r1 ∧ a.r1 ≤ 60
def tx (a : Ar) : ByteArray := rng a.c0 a.r0 a.c1 a.r1
def okC (c : Nat) : Bool := decide (1 ≤ (bytesOf (colT ((c : Int) + 1))).length ∧ (bytesOf (colT ((c : Int) + 1))).length ≤ 3 ∧ ((bytesOf (colT ((c : Int) + 1))).all fun x => decide (65 ≤ x ∧ x ≤ 90)) = true ∧ colVal (bytesOf (colT ((c : Int) + 1))) = (c : Int) + 1)
theorem okC_all : (List.range 30).all okC = true := by decide +kernel
def okR (r : Nat) : Bool := decide (1 ≤ (bytesOf (rowT ((r : Int) + 1))).length ∧ (bytesOf (rowT ((r : Int) + 1))).length ≤ 10 ∧ ((bytesOf (rowT ((r : Int) + 1))).all fun x => decide (48 ≤ x ∧ x ≤ 57)) = true ∧ rowVal (bytesOf (rowT ((r : Int) + 1))) = (r : Int) + 1)
theorem okR_all : (List.range 60).all okR = true := by decide +kernel
theorem cell_name (c r : Int) (hc : 1 ≤ c ∧ c ≤ 30) (hr : 1 ≤ r ∧ r ≤ 60) : IsCell (txt c r) (bytesOf (colT c)) (bytesOf (rowT r)) ∧ colVal (bytesOf (colT c)) = c ∧ rowVal (bytesOf (rowT r)) = r := by
  have h1 := List.all_eq_true.1 okC_all (c.toNat - 1) (List.mem_range.2 (by omega))
  have h2 := List.all_eq_true.1 okR_all (r.toNat - 1) (List.mem_range.2 (by omega))
  unfold okC at h1
  unfold okR at h2
  rw [show ((c.toNat - 1 : Nat) : Int) + 1 = c by omega] at h1
  rw [show ((r.toNat - 1 : Nat) : Int) + 1 = r by omega] at h2
  obtain ⟨a1, a2, a3, a4⟩ := of_decide_eq_true h1
  obtain ⟨b1, b2, b3, b4⟩ := of_decide_eq_true h2
  exact ⟨⟨bytes_append _ _, a1, a2, fun x hx => of_decide_eq_true (List.all_eq_true.1 a3 x hx), b1, b2, fun x hx => of_decide_eq_true (List.all_eq_true.1 b3 x hx), by omega, by omega, by omega⟩, a4, b4⟩
def tailC (l : List ByteArray) : List Int := (l.map fun y => 58 :: bytesOf y).flatten
theorem split_c : ∀ (r : List ByteArray) (x s : ByteArray) (acc : List ByteArray) (k : Nat), bytesOf s = bytesOf x ++ tailC r → (58 : Int) ∉ bytesOf x → (∀ y ∈ r, (58 : Int) ∉ bytesOf y) → s.size ≤ 1000000 → acc.length + r.length ≤ 1000 → s.size + r.length + 2 ≤ k →
    excelize_zzSplit.l0 k s ⟨#[58]⟩ acc = some (acc ++ x :: r)
  | [], x, s, acc, k, hs, hx, _, hz, hl, hk => by
    obtain ⟨k, rfl⟩ : ∃ m, k = m + 1 := ⟨k - 1, by omega⟩
    have e : s = x := bytes_inj (by rw [hs]; simp [tailC])
    subst e
    have i := index_none s ⟨#[58]⟩ 58 rfl (by omega) k (by omega) (not_mem_bt hx)
    simp only [excelize_zzSplit.l0]
    rw [i, Option.bind_some, if_pos (by decide), if_pos (by simp at hl; omega)]
  | y :: r, x, s, acc, k, hs, hx, hy, hz, hl, hk => by
    obtain ⟨k, rfl⟩ : ∃ m, k = m + 1 := ⟨k - 1, by omega⟩
    have hs2 : bytesOf s = bytesOf x ++ 58 :: (bytesOf y ++ tailC r) := by rw [hs]; simp [tailC]
    have hlen : s.size = x.size + 1 + (bytesOf y ++ tailC r).length := by
      have := congrArg List.length hs2
      rw [bytesOf_length, List.length_append, List.length_cons, bytesOf_length] at this
      omega
    have hat : bt s ((x.size : Nat) : Int) = 58 := bt_bytes _ _ _ (by
      rw [hs2, List.getElem?_append_right (by rw [bytesOf_length]; omega), bytesOf_length, Nat.sub_self]; rfl)
    have hbef : ∀ j : Nat, j < x.size → bt s (j : Int) ≠ 58 := by
      intro j hj
      have : bt s (j : Int) = bt x (j : Int) := bt_bytes _ _ _ (by
        rw [hs2, List.getElem?_append_left (by rw [bytesOf_length]; omega)]
        exact bytes_get x j hj)
      rw [this]
      exact not_mem_bt hx j hj
    have i1 := index_at s ⟨#[58]⟩ 58 rfl (by omega) k x.size (by omega) hbef (by omega) hat
    have x1 : s.extract 0 x.size = x := bytes_inj (by
      rw [bytes_extract, hs2, List.drop_zero, Nat.sub_zero, List.take_left' (bytesOf_length x)])
    have x2 : bytesOf (s.extract (x.size + 1) s.size) = bytesOf y ++ tailC r := by
      rw [bytes_extract, hs2, ← List.drop_drop, List.drop_left' (bytesOf_length x), List.drop_succ_cons, List.drop_zero]
      exact List.take_of_length_le (by omega)
    have x3 : (s.extract (x.size + 1) s.size).size = s.size - (x.size + 1) := by rw [ByteArray.size_extract]; omega
    have ih := split_c r y (s.extract (x.size + 1) s.size) (acc ++ [x]) k x2 (hy y List.mem_cons_self) (fun z hz => hy z (List.mem_cons_of_mem _ hz)) (by omega) (by simp at hl ⊢; omega) (by simp at hk ⊢; omega)
    have hsz : (⟨#[58]⟩ : ByteArray).size = 1 := rfl
    simp only [excelize_zzSplit.l0]
    rw [i1, Option.bind_some, if_neg (by omega), if_pos (by omega), if_pos (by omega), if_pos (by simp at hl; omega)]
    rw [hsz, w64 _ (by omega) (by omega), if_pos (by omega), if_pos (by omega), Int.toNat_natCast, show ((x.size : Int) + ((1 : Nat) : Int)).toNat = x.size + 1 from by omega, x1, ih]
    simp
def okCol (c : Nat) : Bool := decide (PTo.excelize_zzColumnName.f 10 ((c : Int) + 1) = some (colT ((c : Int) + 1)))
theorem cols_ok : ((List.range 30).all okCol) = true := by decide +kernel
theorem col_name (c : Int) (hc : 1 ≤ c ∧ c ≤ 30) : Ev (fun k => PTo.excelize_zzColumnName.f k c) (colT c) := by
  have h := List.all_eq_true.1 cols_ok (c.toNat - 1) (List.mem_range.2 (by omega))
  unfold okCol at h
  have h := of_decide_eq_true h
  rw [show ((c.toNat - 1 : Nat) : Int) + 1 = c by omega] at h
  exact Ev.of (PTo.excelize_zzColumnName.mono _) h
theorem small (c r : Int) : (colT c).size ≤ 2 ∧ (rowT r).size ≤ 2 := by
  unfold colT rowT colB rowB
  constructor <;> split <;> (simp [ByteArray.size])
theorem cell_text (c r : Int) (hc : 1 ≤ c ∧ c ≤ 30) (hr : 1 ≤ r ∧ r ≤ 60) : Ev (fun k => PTo.excelize_CoordinatesToCellName.f k c r []) (txt c r, none) := by
  have hs := small c r
  have hN : Ev (fun k => PTo.excelize_ColumnNumberToName.f k c) (colT c, none) := by
    unfold PTo.excelize_ColumnNumberToName.f
    refine Ev.congr (fun k => by rw [if_neg (by omega), if_neg (by omega)]) ?_
    exact Ev.bind (col_name c hc) (Ev.now _)
  unfold PTo.excelize_CoordinatesToCellName.f
  refine Ev.congr (fun k => by rw [if_neg (by omega), decide_eq_false (show ¬ r < 1 by omega)]) ?_
  refine Ev.step (fun k => by rw [PTo.excelize_CoordinatesToCellName.j0, if_neg (by decide), if_neg (by omega)]) ?_
  refine Ev.bind hN ?_
  refine Ev.congr (fun k => if_pos rfl) ?_
  refine Ev.step (f := fun _ => some (txt c r, none)) (fun k => ?_) (Ev.now _)
  dsimp only
  rw [PTo.excelize_CoordinatesToCellName.l0, if_neg (by simp), itoa_row r hr, Option.bind_some, if_pos (by omega)]
  rfl
theorem nn : (none : Option Int).isNone = true := rfl
theorem range_text (c a d b : Int) (hc : 1 ≤ c ∧ c ≤ 30) (ha : 1 ≤ a ∧ a ≤ 60) (hd : 1 ≤ d ∧ d ≤ 30) (hb : 1 ≤ b ∧ b ≤ 60) : Ev (fun k => PTo.excelize_coordinatesToRangeRef.f k [c, a, d, b] []) (rng c a d b, none) := by
  have h1 := (txt_bytes c a hc ha).2.2
  have h2 := (txt_bytes d b hd hb).2.2
  have h3 : (⟨#[58]⟩ : ByteArray).size = 1 := rfl
  unfold PTo.excelize_coordinatesToRangeRef.f
  refine Ev.congr (fun k => by rw [if_pos (by rfl), if_pos (by simp), if_pos (by simp), show rd [c, a, d, b] 0 = c from rfl, show rd [c, a, d, b] 1 = a from rfl, show rd [c, a, d, b] 2 = d from rfl, show rd [c, a, d, b] 3 = b from rfl]) ?_
  refine Ev.bind (cell_text c a hc ha) ?_
  refine Ev.congr (fun k => ((if_pos nn).trans (if_pos (by simp))).trans (if_pos (by simp))) ?_
  refine Ev.bind (cell_text d b hd hb) ?_
  exact Ev.congr (f := fun _ => some (rng c a d b, none)) (fun k => by dsimp only; rw [if_pos nn, if_pos (by omega), if_pos (by rw [ByteArray.size_append]; omega)]; try rfl) (Ev.now _)

/-- A run of rows, its first one and its length; how it is written; the runs of increasing rows. -/
def txr (c : Int) (p : Int × Nat) : ByteArray := if p.2 = 1 then txt c p.1 else rng c p.1 c (p.1 + p.2 - 1)
def runs : Int → Nat → List Int → List (Int × Nat)
  | a, m, [] => [(a, m)]
  | a, m, x :: xs => if x - (a + m - 1) > 1 then (a, m) :: runs x 1 xs else runs a (m + 1) xs
def seqI (a : Int) (n : Nat) : List Int := (List.range n).map fun j : Nat => a + (j : Int)
def flatR (R : List (Int × Nat)) : List Int := (R.map fun p => seqI p.1 p.2).flatten
def OkR : Int → List (Int × Nat) → Prop
  | _, [] => True
  | last, p :: R => last + 1 < p.1 ∧ 1 ≤ p.2 ∧ p.1 + p.2 - 1 ≤ 60 ∧ OkR (p.1 + p.2 - 1) R
theorem seqI_succ (a : Int) (n : Nat) : seqI a (n + 1) = seqI a n ++ [a + (n : Int)] := by
  unfold seqI
  rw [List.range_succ, List.map_append]; rfl
theorem seqI_get (a : Int) (n j : Nat) (h : j < n) : (seqI a n)[j]? = some (a + (j : Int)) := by
  unfold seqI
  rw [List.getElem?_map, List.getElem?_range h]; rfl
theorem seqI_length (a : Int) (n : Nat) : (seqI a n).length = n := by unfold seqI; simp
theorem runs_flat : ∀ (rest : List Int) (a : Int) (m : Nat), (∀ x ∈ rest, a + m - 1 < x) → rest.Pairwise (· < ·) → flatR (runs a m rest) = seqI a m ++ rest
  | [], a, m, _, _ => by simp [runs, flatR]
  | x :: xs, a, m, h, hp => by
    have h1 := h x List.mem_cons_self
    have hp' := List.pairwise_cons.1 hp
    unfold runs
    by_cases hg : x - (a + m - 1) > 1
    · rw [if_pos hg]
      have ih := runs_flat xs x 1 (fun y hy => by have := hp'.1 y hy; omega) hp'.2
      have e : flatR ((a, m) :: runs x 1 xs) = seqI a m ++ flatR (runs x 1 xs) := by simp [flatR]
      rw [e, ih]
      have : seqI x 1 = [x] := by unfold seqI; simp
      rw [this]; rfl
    · rw [if_neg hg]
      have ih := runs_flat xs a (m + 1) (fun y hy => by have := hp'.1 y hy; omega) hp'.2
      rw [ih, seqI_succ, List.append_assoc, show a + (m : Int) = x by omega]; rfl
theorem runs_ok : ∀ (rest : List Int) (a : Int) (m : Nat) (last : Int), last + 1 < a → 1 ≤ m → a + m - 1 ≤ 60 → (∀ x ∈ rest, a + m - 1 < x ∧ x ≤ 60) → rest.Pairwise (· < ·) → OkR last (runs a m rest)
  | [], a, m, last, h1, h2, h3, _, _ => ⟨h1, h2, h3, trivial⟩
  | x :: xs, a, m, last, h1, h2, h3, h, hp => by
    have hx := h x List.mem_cons_self
    have hp' := List.pairwise_cons.1 hp
    unfold runs
    by_cases hg : x - (a + m - 1) > 1
    · rw [if_pos hg]
      exact ⟨h1, h2, h3, runs_ok xs x 1 (a + m - 1) (by omega) (by omega) (by omega) (fun y hy => by have := hp'.1 y hy; have := (h y (List.mem_cons_of_mem _ hy)).2; omega) hp'.2⟩
    · rw [if_neg hg]
      exact runs_ok xs a (m + 1) last h1 (by omega) (by omega) (fun y hy => by have := hp'.1 y hy; have := (h y (List.mem_cons_of_mem _ hy)).2; omega) hp'.2

/-! ### the squashing -/
theorem cell_at (c : Int) (rows : List Int) (i : Nat) (x : Int) (h : rows[i]? = some x) : PTo.rd_L3 (prs c rows) (i : Int) = [c, x] := by
  unfold PTo.rd_L3 prs
  rw [show ((i : Nat) : Int).toNat = i by omega, List.getD_eq_getElem?_getD, List.getElem?_map, h]; rfl
theorem sq_loop (c : Int) (hc : 1 ≤ c ∧ c ≤ 30) (rows : List Int) (hR : rows.length ≤ 1000) : ∀ (rest : List Int) (refs : List ByteArray) (a : Int) (m l : Nat), rows.drop (l + m) = rest → 1 ≤ m → l + m ≤ rows.length →
    rows[l]? = some a → rows[l + m - 1]? = some (a + m - 1) → 1 ≤ a → a + m - 1 ≤ 60 → (∀ x ∈ rest, a + m - 1 < x ∧ x ≤ 60) → rest.Pairwise (· < ·) → refs.length + rest.length ≤ 10000 →
    Ev (fun k => PTo.excelize_squashSqref.l0 k (prs c rows) refs (l : Int) ((l + m - 1 : Nat) : Int) ((l + m : Nat) : Int)) (refs ++ (runs a m rest).map (txr c)) := by
  intro rest
  induction rest with
  | nil =>
    intro refs a m l hd hm hl hA hB h1 h2 h hp hz
    have hlen : rows.length ≤ l + m := List.drop_eq_nil_iff.1 hd
    have e6 := cell_at c rows l a hA
    have e7 := cell_at c rows (l + m - 1) _ hB
    have hcl := prs_len c rows
    refine Ev.step (fun k => by rw [PTo.excelize_squashSqref.l0, if_neg (by omega), if_pos (by omega), if_pos (by omega), if_pos (by omega), if_pos (by omega), e6, e7, if_pos (by simp), if_pos (by simp), if_pos (by simp), show ([c, a] : List Int) ++ [c, a + (m : Int) - 1] = [c, a, c, a + (m : Int) - 1] from rfl]) ?_
    refine Ev.bind (range_text c a c (a + m - 1) hc (by omega) hc (by omega)) ?_
    by_cases hm1 : m = 1
    · subst hm1
      refine Ev.congr (fun k => by rw [if_pos (by omega), if_pos (by simp), show rd [c, a] 0 = c from rfl, show rd [c, a] 1 = a from rfl]) ?_
      refine Ev.bind (cell_text c a hc (by omega)) ?_
      exact Ev.congr (f := fun _ => some _) (fun k => by rw [if_pos (by simp only [List.length_nil] at hz; omega)]; rfl) (Ev.now _)
    · have ht : txr c (a, m) = rng c a c (a + m - 1) := if_neg hm1
      exact Ev.congr (f := fun _ => some _) (fun k => by rw [if_neg (by omega), if_pos (by simp only [List.length_nil] at hz; omega), ← ht]; rfl) (Ev.now _)
  | cons x xs ih =>
    intro refs a m l hd hm hl hA hB h1 h2 h hp hz
    have hlt : l + m < rows.length := by
      rcases Nat.lt_or_ge (l + m) rows.length with hh | hh
      · exact hh
      · rw [List.drop_eq_nil_of_le hh] at hd; cases hd
    have hx := h x List.mem_cons_self
    have hp' := List.pairwise_cons.1 hp
    have hX : rows[l + m]? = some x := by
      have : (rows.drop (l + m))[0]? = some x := by rw [hd]; rfl
      rwa [List.getElem?_drop, Nat.add_zero] at this
    have hd' : rows.drop (l + m + 1) = xs := by
      rw [← List.drop_drop, hd]; rfl
    have e6 := cell_at c rows l a hA
    have e7 := cell_at c rows (l + m - 1) _ hB
    have e8 := cell_at c rows (l + m) x hX
    have hcl := prs_len c rows
    have hw : wrap64 (((l + m : Nat) : Int) + 1) = ((l + m + 1 : Nat) : Int) := by rw [w64s (by omega) (by omega)]; omega
    have hw2 : wrap64 (x - (a + (m : Int) - 1)) = x - (a + (m : Int) - 1) := w64s (by omega) (by omega)
    simp only [List.length_cons] at hz
    refine Ev.step (fun k => by rw [PTo.excelize_squashSqref.l0, if_pos (by omega), if_pos (by omega), e8, e7, if_pos (by simp), if_pos (by omega), if_pos (by omega), if_pos (by simp), show rd [c, x] 0 = c from rfl, show rd [c, a + (m : Int) - 1] 0 = c from rfl, if_pos rfl, if_pos (by simp), if_pos (by simp), show rd [c, x] 1 = x from rfl, show rd [c, a + (m : Int) - 1] 1 = a + (m : Int) - 1 from rfl, hw2]) ?_
    by_cases hg : x - (a + m - 1) > 1
    · have er : runs a m (x :: xs) = (a, m) :: runs x 1 xs := by rw [runs, if_pos hg]
      have ih' := ih (refs ++ [txr c (a, m)]) x 1 (l + m) hd' (Nat.le_refl _) (by omega) hX (by rw [Nat.add_sub_cancel, hX]; congr 1; omega) (by omega) (by omega) (fun y hy => by have := hp'.1 y hy; have := (h y (List.mem_cons_of_mem _ hy)).2; omega) hp'.2 (by rw [List.length_append, List.length_singleton]; omega)
      rw [er, List.map_cons]
      rw [List.append_assoc, List.singleton_append, Nat.add_sub_cancel] at ih'
      refine Ev.step (fun k => by rw [PTo.excelize_squashSqref.j1, decide_eq_true hg, if_pos rfl, if_pos (by omega), if_pos (by omega), if_pos (by omega), if_pos (by omega), e6, e7, if_pos (by simp), if_pos (by simp), if_pos (by simp), show ([c, a] : List Int) ++ [c, a + (m : Int) - 1] = [c, a, c, a + (m : Int) - 1] from rfl]) ?_
      refine Ev.bind (range_text c a c (a + m - 1) hc (by omega) hc (by omega)) ?_
      by_cases hm1 : m = 1
      · subst hm1
        refine Ev.congr (fun k => by rw [if_pos (by omega), if_pos (by simp), show rd [c, a] 0 = c from rfl, show rd [c, a] 1 = a from rfl]) ?_
        refine Ev.bind (cell_text c a hc (by omega)) ?_
        exact Ev.congr (fun k => by rw [if_pos (by omega), hw]; rfl) ih'
      · have ht : txr c (a, m) = rng c a c (a + m - 1) := if_neg hm1
        rw [ht] at ih'
        rw [ht]
        exact Ev.congr (fun k => by rw [if_neg (by omega), if_pos (by omega), hw]) ih'
    · have er : runs a m (x :: xs) = runs a (m + 1) xs := by rw [runs, if_neg hg]
      have hxe : x = a + (m : Int) := by omega
      have ih' := ih refs a (m + 1) l hd' (by omega) (by omega) hA (by rw [show l + (m + 1) - 1 = l + m by omega, hX]; congr 1; omega) h1 (by omega) (fun y hy => by have := hp'.1 y hy; have := (h y (List.mem_cons_of_mem _ hy)).2; omega) hp'.2 (by omega)
      rw [er]
      have hw3 : wrap64 (((l + m - 1 : Nat) : Int) + 1) = ((l + (m + 1) - 1 : Nat) : Int) := by rw [w64s (by omega) (by omega)]; omega
      exact Ev.step (fun k => by rw [PTo.excelize_squashSqref.j1, decide_eq_false hg, if_neg (by decide), hw, hw3]; rfl) ih'
def sqT (c : Int) : List Int → List ByteArray
  | [] => []
  | a :: rest => (runs a 1 rest).map (txr c)
theorem squash (c : Int) (hc : 1 ≤ c ∧ c ≤ 30) (rows : List Int) (hR : rows.length ≤ 100) (hb : ∀ x ∈ rows, 1 ≤ x ∧ x ≤ 60) (hp : rows.Pairwise (· < ·)) : Ev (fun k => PTo.excelize_squashSqref.f k (prs c rows)) (sqT c rows) := by
  have hcl := prs_len c rows
  unfold PTo.excelize_squashSqref.f
  match rows, hR, hb, hp, hcl with
  | [], _, _, _, hcl => exact Ev.congr (f := fun _ => some _) (fun k => by rw [if_neg (by simp [prs]), if_pos (by simp [prs])]; rfl) (Ev.now _)
  | [a], _, hb, _, hcl =>
    have ha := hb a List.mem_cons_self
    have e6 := cell_at c [a] 0 a rfl
    refine Ev.congr (fun k => by rw [if_pos (by simp [prs]), if_pos (by simp [prs]), show PTo.rd_L3 (prs c [a]) 0 = [c, a] from e6, if_pos (by simp), if_pos (by simp), show rd [c, a] 0 = c from rfl, show rd [c, a] 1 = a from rfl]) ?_
    refine Ev.bind (cell_text c a hc (by omega)) ?_
    exact Ev.now _
  | a :: b :: rest, hR, hb, hp, hcl =>
    have ha := hb a List.mem_cons_self
    have hp' := List.pairwise_cons.1 hp
    simp only [List.length_cons] at hR hcl
    have h := sq_loop c hc (a :: b :: rest) (by simp only [List.length_cons]; omega) (b :: rest) [] a 1 0 rfl (Nat.le_refl _) (by simp) rfl (by simp) (by omega) (by omega) (fun y hy => by have := hp'.1 y hy; have := hb y (List.mem_cons_of_mem _ hy); omega) hp'.2 (by simp only [List.length_cons, List.length_nil]; omega)
    exact Ev.congr (fun k => by rw [if_neg (by omega), if_neg (by omega)]; rfl) h
theorem gridIn (a n : Int) (hn : 1 ≤ n ∧ n ≤ 1000) : ∃ x, PTo.spec_gridIn.f a n = some x ∧ 1 ≤ x ∧ x ≤ n := by
  have h1 : -n < Int.tmod a n := by have := Int.lt_tmod_of_pos a (show 0 < n by omega); omega
  have h2 : Int.tmod a n < n := Int.tmod_lt_of_pos a (by omega)
  unfold PTo.spec_gridIn.f
  rw [if_neg (by omega)]
  by_cases h : Int.tmod a n < 0
  · rw [if_pos h]
    refine ⟨_, rfl, ?_⟩
    rw [w64s (x := Int.tmod a n + n) (by omega) (by omega), w64s (by omega) (by omega)]
    omega
  · rw [if_neg h]
    refine ⟨_, rfl, ?_⟩
    rw [w64s (by omega) (by omega)]
    omega

theorem area (a b c d : Int) : ∃ x : Ar, Ev (fun k => PTo.spec_GridArea.f k a b c d) (x.c0, x.r0, x.c1, x.r1) ∧ x.Ok := by
  obtain ⟨p, hp, p1, p2⟩ := gridIn a 30 (by omega)
  obtain ⟨q, hq, q1, q2⟩ := gridIn b 60 (by omega)
  obtain ⟨r, hr, r1, r2⟩ := gridIn c 30 (by omega)
  obtain ⟨s, hs, s1, s2⟩ := gridIn d 60 (by omega)
  have j0 : ∀ (x y z t : Int) (b : Bool), 1 ≤ x → x ≤ z → z ≤ 30 → 1 ≤ y → y ≤ t → t ≤ 60 → (b = true → t < 60 ∨ 2 ≤ y) → ∃ u : Ar, Ev (fun k => PTo.spec_GridArea.j0 k x y z t b) (u.c0, u.r0, u.c1, u.r1) ∧ u.Ok := by
    intro x y z t b h1 h2 h3 h4 h5 h6 hb
    cases b with
    | false => exact ⟨⟨x, y, z, t⟩, Ev.step (f := fun _ => some _) (fun k => by rw [PTo.spec_GridArea.j0, if_neg (by decide)]) (Ev.now _), ⟨h1, h2, h3, h4, h5, h6⟩⟩
    | true =>
      by_cases h : t < 60
      · refine ⟨⟨x, y, z, wrap64 (t + 1)⟩, Ev.step (f := fun _ => some _) (fun k => by rw [PTo.spec_GridArea.j0, if_pos rfl, if_pos h]) (Ev.now _), ?_⟩
        rw [w64s (by omega) (by omega)]
        exact ⟨h1, h2, h3, h4, by show y ≤ t + 1; omega, by show t + 1 ≤ 60; omega⟩
      · have := (hb rfl).resolve_left h
        refine ⟨⟨x, wrap64 (y - 1), z, t⟩, Ev.step (f := fun _ => some _) (fun k => by rw [PTo.spec_GridArea.j0, if_pos rfl, if_neg h]) (Ev.now _), ?_⟩
        rw [w64s (by omega) (by omega)]
        exact ⟨h1, h2, h3, by show 1 ≤ y - 1; omega, by show y - 1 ≤ t; omega, h6⟩
  have mnx : ∀ x y n : Int, 1 ≤ x ∧ x ≤ n → 1 ≤ y ∧ y ≤ n → 1 ≤ mn x y ∧ mn x y ≤ mx x y ∧ mx x y ≤ n := by
    intro x y n hx hy
    unfold mn mx
    split <;> split <;> omega
  have b1 := mnx p r 30 ⟨p1, p2⟩ ⟨r1, r2⟩
  have b2 := mnx q s 60 ⟨q1, q2⟩ ⟨s1, s2⟩
  unfold PTo.spec_GridArea.f
  rw [hp, hq, hr, hs]
  simp only [Option.bind_some]
  by_cases h : mn p r = mx p r
  · simp only [if_pos h]
    refine j0 _ _ _ _ _ b1.1 b1.2.1 b1.2.2 b2.1 b2.2.1 b2.2.2 (fun hb => ?_)
    have := beq_iff_eq.1 hb
    omega
  · simp only [if_neg h]
    exact j0 _ _ _ _ _ b1.1 b1.2.1 b1.2.2 b2.1 b2.2.1 b2.2.2 (fun hb => by cases hb)
theorem w64n (x : Nat) (h : x ≤ 1000000000) : wrap64 ((x : Int) + 1) = ((x + 1 : Nat) : Int) := by rw [w64s (by omega) (by omega)]; omega
def okCol2 (c : Nat) : Bool := decide (PTo.spec_ColumnName.f 20 ((c : Int) + 1) = some (colT ((c : Int) + 1), true))
theorem cols2_ok : ((List.range 30).all okCol2) = true := by decide +kernel
def okRow2 (r : Nat) : Bool := decide (PTo.spec_Digits.f 20 ((r : Int) + 1) 10 = some (rowT ((r : Int) + 1)))
theorem rows2_ok : ((List.range 60).all okRow2) = true := by decide +kernel
theorem col2 (c : Int) (hc : 1 ≤ c ∧ c ≤ 30) : Ev (fun k => PTo.spec_ColumnName.f k c) (colT c, true) := by
  have h := List.all_eq_true.1 cols2_ok (c.toNat - 1) (List.mem_range.2 (by omega))
  unfold okCol2 at h
  have h := of_decide_eq_true h
  rw [show ((c.toNat - 1 : Nat) : Int) + 1 = c by omega] at h
  exact Ev.of (PTo.spec_ColumnName.mono c) h
theorem row2 (r : Int) (hr : 1 ≤ r ∧ r ≤ 60) : Ev (fun k => PTo.spec_Digits.f k r 10) (rowT r) := by
  have h := List.all_eq_true.1 rows2_ok (r.toNat - 1) (List.mem_range.2 (by omega))
  unfold okRow2 at h
  have h := of_decide_eq_true h
  rw [show ((r.toNat - 1 : Nat) : Int) + 1 = r by omega] at h
  exact Ev.of (PTo.spec_Digits.mono r 10) h
theorem cellName (c r : Int) (hc : 1 ≤ c ∧ c ≤ 30) (hr : 1 ≤ r ∧ r ≤ 60) : Ev (fun k => PTo.spec_CellName.f k c r false) (txt c r, true) := by
  have hs := small c r
  unfold PTo.spec_CellName.f
  refine Ev.bind (col2 c hc) ?_
  refine Ev.congr (fun k => by rw [if_pos rfl, if_neg (by omega), decide_eq_false (show ¬ r > 1048576 by omega)]) ?_
  refine Ev.step (fun k => by rw [PTo.spec_CellName.j0, if_neg (by decide), if_neg (by decide)]) ?_
  refine Ev.bind (row2 r hr) ?_
  exact Ev.congr (f := fun _ => some (txt c r, true)) (fun k => if_pos (by simp only; omega)) (Ev.now _)
theorem areaText (a : Ar) (h : In a) : Ev (fun k => PTo.spec_GridAreaText.f k a.c0 a.r0 a.c1 a.r1) (tx a) := by
  have h1 := (txt_bytes _ _ h.1 h.2).2
  have h2 := (txt_bytes _ _ h.3 h.4).2
  have h3 : (⟨#[58]⟩ : ByteArray).size = 1 := rfl
  unfold PTo.spec_GridAreaText.f
  refine Ev.bind (cellName _ _ h.1 h.2) ?_
  refine Ev.bind (cellName _ _ h.3 h.4) ?_
  exact Ev.congr (f := fun _ => some _) (fun k => by simp only; rw [if_pos (by omega), if_pos (by rw [ByteArray.size_append]; omega)]; rfl) (Ev.now _)

/-! ### pieces -/
theorem split_one (s : ByteArray) (h : (58 : Int) ∉ bytesOf s) (hz : s.size ≤ 100) : excelize_zzSplit.f 200 s ⟨#[58]⟩ = some [s] := by
  unfold excelize_zzSplit.f
  have h5 := split_c [] s s [] 200 (by simp [tailC]) h (by simp) (by omega) (by simp) (by simp; omega)
  rw [List.nil_append] at h5
  exact h5
theorem split_two (s t : ByteArray) (h : (58 : Int) ∉ bytesOf s) (h2 : (58 : Int) ∉ bytesOf t) (hz : s.size ≤ 100) (hz2 : t.size ≤ 100) : excelize_zzSplit.f 400 (s ++ ⟨#[58]⟩ ++ t) ⟨#[58]⟩ = some [s, t] := by
  have h3 : (⟨#[58]⟩ : ByteArray).size = 1 := rfl
  have hs : (s ++ ⟨#[58]⟩ ++ t).size ≤ 201 := by rw [ByteArray.size_append, ByteArray.size_append]; omega
  unfold excelize_zzSplit.f
  have hb : bytesOf (s ++ ⟨#[58]⟩ ++ t) = bytesOf s ++ tailC [t] := by
    rw [bytes_append, bytes_append, show bytesOf (⟨#[58]⟩ : ByteArray) = [58] from rfl]
    simp [tailC]
  have h5 := split_c [t] s (s ++ ⟨#[58]⟩ ++ t) [] 400 hb h (by simpa using h2) (by omega) (by simp) (by simp; omega)
  rw [List.nil_append] at h5
  exact h5
theorem txt_no (c r : Int) (hc : 1 ≤ c ∧ c ≤ 30) (hr : 1 ≤ r ∧ r ≤ 60) : (58 : Int) ∉ bytesOf (txt c r) := fun h => ((txt_bytes c r hc hr).1 58 h).2.2 rfl
theorem piece_one (c r : Int) (hc : 1 ≤ c ∧ c ≤ 30) (hr : 1 ≤ r ∧ r ≤ 60) : Piece (txt c r) ⟨c, r, c, r⟩ := by
  obtain ⟨h1, h2, h3⟩ := cell_name c r hc hr
  have hb := (txt_bytes c r hc hr).2
  exact ⟨⟨hc.1, Int.le_refl _, hc.2, hr.1, Int.le_refl _, hr.2⟩, .inl ⟨rfl, rfl, _, _, _, h1, h2, h3, split_one _ (txt_no c r hc hr) (by omega)⟩⟩
theorem piece_two (a : Ar) (h : a.Ok) : Piece (tx a) a := by
  have i0 : 1 ≤ a.c0 ∧ a.c0 ≤ 30 := ⟨h.h0, Int.le_trans h.h1 h.h2⟩
  have i1 : 1 ≤ a.r0 ∧ a.r0 ≤ 60 := ⟨h.h3, Int.le_trans h.h4 h.h5⟩
  have i2 : 1 ≤ a.c1 ∧ a.c1 ≤ 30 := ⟨Int.le_trans h.h0 h.h1, h.h2⟩
  have i3 : 1 ≤ a.r1 ∧ a.r1 ≤ 60 := ⟨Int.le_trans h.h3 h.h4, h.h5⟩
  obtain ⟨h1, h2, h3⟩ := cell_name _ _ i0 i1
  obtain ⟨g1, g2, g3⟩ := cell_name _ _ i2 i3
  have hb := txt_bytes _ _ i0 i1
  have gb := txt_bytes _ _ i2 i3
  have hz : (tx a).size ≤ 9 := by
    unfold tx rng
    rw [ByteArray.size_append, ByteArray.size_append, show (⟨#[58]⟩ : ByteArray).size = 1 from rfl]
    omega
  have hby : bytesOf (tx a) = bytesOf (txt a.c0 a.r0) ++ 58 :: bytesOf (txt a.c1 a.r1) := by
    unfold tx rng
    rw [bytes_append, bytes_append, show bytesOf (⟨#[58]⟩ : ByteArray) = [58] from rfl, List.append_assoc, List.singleton_append]
  have hst : (bytesOf (tx a)).filter (fun x => x != 36) = bytesOf (txt a.c0 a.r0) ++ 58 :: bytesOf (txt a.c1 a.r1) := by
    rw [← hby, List.filter_eq_self]
    intro x hx
    rw [hby, List.mem_append, List.mem_cons] at hx
    have h36 : x ≠ 36 := by
      rcases hx with hx | hx | hx
      · have := hb.1 x hx; omega
      · omega
      · have := gb.1 x hx; omega
    simpa using h36
  exact ⟨h, .inr ⟨_, _, _, _, _, _, _, h1, g1, by omega, hst, h2, h3, g2, g3, split_two _ _ (txt_no _ _ i0 i1) (txt_no _ _ i2 i3) (by omega) (by omega)⟩⟩
/-! ### words with blanks between -/
/-- A word: some bytes, none of them white space. -/
structure Word (p : ByteArray) : Prop where
  pos : 1 ≤ p.size
  top : p.size ≤ 9
  no : ∀ x ∈ bytesOf p, 48 ≤ x ∧ x ≤ 90
theorem word_one (c r : Int) (hc : 1 ≤ c ∧ c ≤ 30) (hr : 1 ≤ r ∧ r ≤ 60) : Word (txt c r) := by
  have hb := txt_bytes c r hc hr
  exact ⟨hb.2.1, by omega, fun x hx => ⟨(hb.1 x hx).1, (hb.1 x hx).2.1⟩⟩
theorem word_two (a : Ar) (h : In a) : Word (tx a) := by
  have hb := txt_bytes _ _ h.x0 h.y0
  have gb := txt_bytes _ _ h.x1 h.y1
  have e : bytesOf (tx a) = bytesOf (txt a.c0 a.r0) ++ 58 :: bytesOf (txt a.c1 a.r1) := by
    unfold tx rng
    rw [bytes_append, bytes_append, show bytesOf (⟨#[58]⟩ : ByteArray) = [58] from rfl, List.append_assoc, List.singleton_append]
  have hz : (tx a).size = (txt a.c0 a.r0).size + 1 + (txt a.c1 a.r1).size := by
    unfold tx rng
    rw [ByteArray.size_append, ByteArray.size_append, show (⟨#[58]⟩ : ByteArray).size = 1 from rfl]
  refine ⟨by omega, by omega, fun x hx => ?_⟩
  rw [e, List.mem_append, List.mem_cons] at hx
  rcases hx with hx | hx | hx
  · exact ⟨(hb.1 x hx).1, (hb.1 x hx).2.1⟩
  · omega
  · exact ⟨(gb.1 x hx).1, (gb.1 x hx).2.1⟩
def words (ps : List ByteArray) : ByteArray := GivenT.joined ps ⟨#[32]⟩
theorem words_nil : words [] = ⟨#[]⟩ := rfl
theorem toList_append (a b : ByteArray) : (a ++ b).data.toList = a.data.toList ++ b.data.toList := by
  rw [ByteArray.data_append, Array.toList_append]
theorem ba_ext {a b : ByteArray} (h : a.data.toList = b.data.toList) : a = b := by
  cases a; cases b
  congr 1
  exact Array.toList_inj.1 h
theorem words_list (ps : List ByteArray) : (words ps).data.toList = Lib.join (ps.map (·.data.toList)) [32] := by simp [words, GivenT.joined]
theorem tail_snoc (xs : List (List UInt8)) (y : List UInt8) : Lib.joinTail [32] (xs ++ [y]) = Lib.joinTail [32] xs ++ 32 :: y := by simp [Lib.joinTail]
theorem words_one (p : ByteArray) : words [p] = p := by
  apply ba_ext
  rw [words_list]
  exact Lib.join_one _ _
theorem words_snoc (ps : List ByteArray) (p : ByteArray) (h : ps ≠ []) : words (ps ++ [p]) = words ps ++ ⟨#[32]⟩ ++ p := by
  apply ba_ext
  rw [toList_append, toList_append, words_list, words_list]
  match ps, h with
  | x :: r, _ =>
    rw [List.cons_append, List.map_cons, List.map_cons, Lib.join_cons, Lib.join_cons, List.map_append, List.map_cons, List.map_nil, tail_snoc]
    simp
theorem tail_len : ∀ (ps : List ByteArray), (∀ p ∈ ps, p.size ≤ 9) → (Lib.joinTail [32] (ps.map (·.data.toList))).length ≤ 10 * ps.length
  | [], _ => by simp [Lib.joinTail]
  | p :: ps, h => by
    have h1 := h p List.mem_cons_self
    have h2 := tail_len ps (fun q hq => h q (List.mem_cons_of_mem _ hq))
    have e : Lib.joinTail [32] ((p :: ps).map (·.data.toList)) = 32 :: (p.data.toList ++ Lib.joinTail [32] (ps.map (·.data.toList))) := by simp [Lib.joinTail]
    have h3 : p.data.toList.length = p.size := Array.length_toList
    rw [e, List.length_cons, List.length_append, List.length_cons]
    omega
theorem words_size (ps : List ByteArray) (h : ∀ p ∈ ps, p.size ≤ 9) : (words ps).size ≤ 10 * ps.length := by
  have e : (words ps).size = (words ps).data.toList.length := Array.length_toList.symm
  rw [e, words_list]
  match ps, h with
  | [], _ => simp [Lib.join_nil]
  | p :: ps, h =>
    have h1 := h p List.mem_cons_self
    have h2 := tail_len ps (fun q hq => h q (List.mem_cons_of_mem _ hq))
    have h3 : p.data.toList.length = p.size := Array.length_toList
    rw [List.map_cons, Lib.join_cons, List.length_append, List.length_cons]
    omega
theorem byte_of {p : ByteArray} (h : Word p) : ∀ b ∈ p.data.toList, 48 ≤ b.toNat ∧ b.toNat ≤ 90 := by
  intro b hb
  have h1 : ((b.toNat : Nat) : Int) ∈ bytesOf p := List.mem_map.2 ⟨b, hb, rfl⟩
  have := h.no _ h1
  omega
theorem not_sp {b : UInt8} (h : 48 ≤ b.toNat ∧ b.toNat ≤ 90) : Lib.isSp b = false := by
  cases e : Lib.isSp b with
  | false => rfl
  | true =>
    exfalso
    simp only [Lib.isSp, Bool.or_eq_true, beq_iff_eq] at e
    rcases e with ((((rfl | rfl) | rfl) | rfl) | rfl) | rfl <;> exact absurd h (by decide)
theorem go_word : ∀ (p cur l : List UInt8), (∀ b ∈ p, Lib.isSp b = false) → Lib.fieldsGo cur (p ++ l) = Lib.fieldsGo (cur ++ p) l
  | [], cur, l, _ => by simp
  | b :: p, cur, l, h => by
    rw [List.cons_append, Lib.fieldsGo_more _ _ _ (h b List.mem_cons_self), go_word p (cur ++ [b]) l (fun x hx => h x (List.mem_cons_of_mem _ hx))]
    simp
theorem go_tail : ∀ (ps : List ByteArray) (cur : List UInt8), cur ≠ [] → (∀ p ∈ ps, Word p) → Lib.fieldsGo cur (Lib.joinTail [32] (ps.map (·.data.toList))) = cur :: ps.map (·.data.toList)
  | [], cur, h, _ => by
    cases cur with
    | nil => exact absurd rfl h
    | cons x l => simp [Lib.joinTail, Lib.fieldsGo]
  | p :: ps, cur, h, hw => by
    have hp := hw p List.mem_cons_self
    have e : Lib.joinTail [32] ((p :: ps).map (·.data.toList)) = 32 :: (p.data.toList ++ Lib.joinTail [32] (ps.map (·.data.toList))) := by simp [Lib.joinTail]
    have hne : p.data.toList ≠ [] := fun e => by
      have h1 := hp.pos
      have h3 : p.data.toList.length = p.size := Array.length_toList
      rw [e] at h3
      simp at h3
      omega
    rw [e, Lib.fieldsGo_end cur 32 _ (by decide) h, go_word _ _ _ (fun b hb => not_sp (byte_of hp b hb)), List.nil_append, go_tail ps _ hne (fun q hq => hw q (List.mem_cons_of_mem _ hq))]
    rfl
theorem fields_words (ps : List ByteArray) (h : ∀ p ∈ ps, Word p) : Lib.fields (words ps).data.toList = ps.map (·.data.toList) := by
  rw [words_list]
  match ps, h with
  | [], _ => rfl
  | p :: ps, h =>
    have hp := h p List.mem_cons_self
    have hne : p.data.toList ≠ [] := fun e => by
      have h1 := hp.pos
      have h3 : p.data.toList.length = p.size := Array.length_toList
      rw [e] at h3
      simp at h3
      omega
    rw [List.map_cons, Lib.join_cons]
    unfold Lib.fields
    rw [go_word _ _ _ (fun b hb => not_sp (byte_of hp b hb)), List.nil_append, go_tail ps _ hne (fun q hq => h q (List.mem_cons_of_mem _ hq))]
theorem words_ascii (ps : List ByteArray) (h : ∀ p ∈ ps, Word p) : ∀ b ∈ (words ps).data.toList, b.toNat < 128 := by
  rw [words_list]
  have ht : ∀ (ps : List ByteArray), (∀ p ∈ ps, Word p) → ∀ b ∈ Lib.joinTail [32] (ps.map (·.data.toList)), b.toNat < 128 := by
    intro ps h b hb
    simp only [Lib.joinTail, List.mem_flatten, List.mem_map] at hb
    obtain ⟨l, ⟨x, ⟨p, hp, rfl⟩, rfl⟩, hb⟩ := hb
    rcases List.mem_append.1 hb with hb | hb
    · rw [List.mem_singleton] at hb
      subst hb
      decide
    · have := byte_of (h p hp) b hb
      omega
  match ps, h with
  | [], _ => intro b hb; cases hb
  | p :: ps, h =>
    rw [List.map_cons, Lib.join_cons]
    intro b hb
    rcases List.mem_append.1 hb with hb | hb
    · have := byte_of (h p List.mem_cons_self) b hb
      omega
    · exact ht ps (fun q hq => h q (List.mem_cons_of_mem _ hq)) b hb
theorem words_ne (ps : List ByteArray) (h : ∀ p ∈ ps, Word p) (hn : ps ≠ []) : words ps ≠ ⟨#[]⟩ := by
  intro e
  have h1 := fields_words ps h
  rw [e] at h1
  have h2 : ps.map (·.data.toList) = [] := h1.symm
  exact hn (List.map_eq_nil_iff.1 h2)
/-- The texts of areas, with blanks between, as the reference writes them. -/
def toS (a : Ar) : PTo.S34 := ⟨a.c0, a.r0, a.c1, a.r1⟩
theorem rd_S (l : List Ar) (i : Nat) (a : Ar) (h : l[i]? = some a) : PTo.rd_T34 (l.map toS) (i : Int) = toS a := by
  unfold PTo.rd_T34
  rw [List.getD_eq_getElem?_getD, Int.toNat_natCast, List.getElem?_map, h]; rfl
theorem areasText (l : List Ar) (h : ∀ a ∈ l, In a) (hl : l.length ≤ 10) : Ev (fun k => PTo.spec_GridAreasText.f k (l.map toS)) (words (l.map tx)) := by
  have hsz : ∀ i, (words ((l.take i).map tx)).size ≤ 10 * i := fun i => by
    have := words_size ((l.take i).map tx) (fun p hp => by
      obtain ⟨a, ha, rfl⟩ := List.mem_map.1 hp
      exact (word_two a (h a (List.mem_of_mem_take ha))).top)
    rw [List.length_map, List.length_take] at this
    omega
  have key : ∀ (d i : Nat), l.length - i = d → i ≤ l.length → Ev (fun k => PTo.spec_GridAreasText.l0 k (l.map toS) (words ((l.take i).map tx)) (i : Int)) (words (l.map tx)) := by
    intro d
    induction d with
    | zero =>
      intro i hd hi
      obtain rfl : i = l.length := by omega
      rw [List.take_length]
      exact Ev.step (f := fun _ => some _) (fun k => by rw [PTo.spec_GridAreasText.l0, if_neg (by rw [List.length_map]; omega)]) (Ev.now _)
    | succ d ih =>
      intro i hd hi
      have hlt : i < l.length := by omega
      obtain ⟨b, hb⟩ : ∃ b, l[i]? = some b := ⟨l[i], List.getElem?_eq_getElem hlt⟩
      have hbo := h b (List.mem_of_getElem? hb)
      have hbs := word_two b hbo
      have hbs1 := hbs.top
      have hts := hsz i
      have e1 := rd_S l i b hb
      have e2 : l.take (i + 1) = l.take i ++ [b] := by rw [List.take_add_one, hb]; rfl
      have h3 : (⟨#[32]⟩ : ByteArray).size = 1 := rfl
      have h' := ih (i + 1) (by omega) (by omega)
      rw [e2, List.map_append, List.map_cons, List.map_nil] at h'
      have hat := areaText b hbo
      rcases Nat.eq_zero_or_pos i with rfl | hp
      · refine Ev.step (fun k => by rw [PTo.spec_GridAreasText.l0, if_pos (by rw [List.length_map]; omega), if_neg (by omega), if_pos (by omega), e1]) ?_
        refine Ev.bind hat ?_
        refine Ev.congr (fun k => by rw [if_pos (by omega), w64n _ (by omega)]) ?_
        rw [List.take_zero, List.map_nil, List.nil_append, words_one] at h'
        have e3 : words ((l.take 0).map tx) ++ tx b = tx b := by
          apply bytes_inj
          rw [bytes_append]
          rfl
        rw [e3]
        exact h'
      · have hne : (l.take i).map tx ≠ [] := fun e => by
          have := congrArg List.length e
          rw [List.length_map, List.length_take, List.length_nil] at this
          omega
        rw [words_snoc _ _ hne] at h'
        refine Ev.step (fun k => by rw [PTo.spec_GridAreasText.l0, if_pos (by rw [List.length_map]; omega), if_pos (by omega), if_pos (by omega), if_pos (by omega), e1]) ?_
        refine Ev.bind hat ?_
        exact Ev.congr (fun k => by rw [if_pos (by rw [ByteArray.size_append]; omega), w64n _ (by omega)]) h'
  unfold PTo.spec_GridAreasText.f
  exact key l.length 0 (by omega) (by omega)
/-! ### squashed columns as pieces -/
def sqA (c : Int) : List Int → List Ar
  | [] => []
  | a :: rest => (runs a 1 rest).map fun p => ⟨c, p.1, c, p.1 + p.2 - 1⟩
theorem mem_seqI (a : Int) (n : Nat) (x : Int) : x ∈ seqI a n ↔ a ≤ x ∧ x < a + n := by
  unfold seqI
  rw [List.mem_map]
  constructor
  · rintro ⟨j, hj, rfl⟩
    rw [List.mem_range] at hj
    omega
  · rintro ⟨h1, h2⟩
    exact ⟨(x - a).toNat, List.mem_range.2 (by omega), by omega⟩
theorem ok_all : ∀ (R : List (Int × Nat)) (last : Int), 0 ≤ last → OkR last R → ∀ p ∈ R, 1 ≤ p.1 ∧ 1 ≤ p.2 ∧ p.1 + p.2 - 1 ≤ 60
  | [], _, _, _ => fun p hp => by cases hp
  | q :: R, last, h0, h => by
    obtain ⟨h1, h2, h3, h4⟩ := h
    intro p hp
    rcases List.mem_cons.1 hp with rfl | hp
    · exact ⟨by omega, h2, h3⟩
    · exact ok_all R _ (by omega) h4 p hp
theorem runs_len : ∀ (rest : List Int) (a : Int) (m : Nat), (runs a m rest).length ≤ rest.length + 1
  | [], _, _ => by simp [runs]
  | x :: xs, a, m => by
    unfold runs
    split
    · have := runs_len xs x 1
      simp only [List.length_cons]
      omega
    · have := runs_len xs a (m + 1)
      simp only [List.length_cons]
      omega
theorem runs_all (rows : List Int) (hb : ∀ x ∈ rows, 1 ≤ x ∧ x ≤ 60) (hp : rows.Pairwise (· < ·)) : ∀ (a : Int) (rest : List Int), rows = a :: rest → ∀ p ∈ runs a 1 rest, 1 ≤ p.1 ∧ 1 ≤ p.2 ∧ p.1 + p.2 - 1 ≤ 60 := by
  rintro a rest rfl
  have ha := hb a List.mem_cons_self
  have hp' := List.pairwise_cons.1 hp
  have h := runs_ok rest a 1 (a - 2) (by omega) (Nat.le_refl _) (by omega) (fun x hx => by have := hp'.1 x hx; have := hb x (List.mem_cons_of_mem _ hx); omega) hp'.2
  cases e : runs a 1 rest with
  | nil => intro p hp; cases hp
  | cons q R =>
    rw [e] at h
    obtain ⟨h1, h2, h3, h4⟩ := h
    have hq : 1 ≤ q.1 := by omega
    intro p hp
    rcases List.mem_cons.1 hp with rfl | hp
    · exact ⟨hq, h2, h3⟩
    · exact ok_all R _ (by omega) h4 p hp
theorem sq_mem (c : Int) (rows : List Int) (hb : ∀ x ∈ rows, 1 ≤ x ∧ x ≤ 60) (hp : rows.Pairwise (· < ·)) (r : Int) : r ∈ rows ↔ ∃ a ∈ sqA c rows, a.r0 ≤ r ∧ r ≤ a.r1 := by
  match rows, hb, hp with
  | [], _, _ => simp [sqA]
  | a :: rest, hb, hp =>
    have hp' := List.pairwise_cons.1 hp
    have h := runs_flat rest a 1 (fun x hx => by have := hp'.1 x hx; omega) hp'.2
    have h1 : seqI a 1 = [a] := by unfold seqI; simp
    rw [h1, List.singleton_append] at h
    have hm : r ∈ a :: rest ↔ r ∈ flatR (runs a 1 rest) := by rw [h]
    rw [hm]
    unfold flatR sqA
    rw [List.mem_flatten]
    constructor
    · rintro ⟨l, hl, hr⟩
      obtain ⟨p, hp, rfl⟩ := List.mem_map.1 hl
      have := (mem_seqI _ _ _).1 hr
      exact ⟨(⟨c, p.1, c, p.1 + p.2 - 1⟩ : Ar), List.mem_map.2 ⟨p, hp, rfl⟩, this.1, by show r ≤ p.1 + p.2 - 1; omega⟩
    · rintro ⟨b, hb, h1, h2⟩
      obtain ⟨p, hp, rfl⟩ := List.mem_map.1 hb
      exact ⟨_, List.mem_map.2 ⟨p, hp, rfl⟩, (mem_seqI _ _ _).2 ⟨h1, by have h3 : r ≤ p.1 + p.2 - 1 := h2; omega⟩⟩
theorem sq_pieces (c : Int) (hc : 1 ≤ c ∧ c ≤ 30) (rows : List Int) (hb : ∀ x ∈ rows, 1 ≤ x ∧ x ≤ 60) (hp : rows.Pairwise (· < ·)) : (sqT c rows).length = (sqA c rows).length ∧ (∀ (i : Nat) p a, (sqT c rows)[i]? = some p → (sqA c rows)[i]? = some a → Piece p a) ∧ (∀ p ∈ sqT c rows, Word p) ∧ (∀ a ∈ sqA c rows, a.c0 = c ∧ a.c1 = c) ∧ (sqT c rows).length ≤ rows.length := by
  match rows, hb, hp with
  | [], _, _ => exact ⟨rfl, fun i p a h _ => (by simp [sqT] at h), fun p h => (List.not_mem_nil h).elim, fun a h => (List.not_mem_nil h).elim, Nat.le_refl _⟩
  | x :: rest, hb, hp =>
    have hall := runs_all (x :: rest) hb hp x rest rfl
    refine ⟨by simp [sqT, sqA], fun i p a h1 h2 => ?_, fun p h => ?_, fun a h => ?_, ?_⟩
    · unfold sqT at h1
      unfold sqA at h2
      rw [List.getElem?_map] at h1 h2
      cases e : (runs x 1 rest)[i]? with
      | none => rw [e] at h1; cases h1
      | some q =>
        rw [e] at h1 h2
        have hq := hall q (List.mem_of_getElem? e)
        cases h1
        cases h2
        unfold txr
        by_cases h : q.2 = 1
        · rw [if_pos h]
          have : q.1 + (q.2 : Int) - 1 = q.1 := by omega
          show Piece (txt c q.1) ⟨c, q.1, c, q.1 + (q.2 : Int) - 1⟩
          rw [this]
          exact piece_one c q.1 hc (by omega)
        · rw [if_neg h]
          exact piece_two ⟨c, q.1, c, q.1 + q.2 - 1⟩ ⟨hc.1, Int.le_refl _, hc.2, hq.1, by show q.1 ≤ q.1 + q.2 - 1; omega, hq.2.2⟩
    · unfold sqT at h
      obtain ⟨q, hq, rfl⟩ := List.mem_map.1 h
      have hq := hall q hq
      unfold txr
      by_cases h : q.2 = 1
      · rw [if_pos h]
        exact word_one c q.1 hc (by omega)
      · rw [if_neg h]
        exact word_two ⟨c, q.1, c, q.1 + q.2 - 1⟩ ⟨hc, ⟨hq.1, by show q.1 ≤ 60; omega⟩, hc, ⟨by show 1 ≤ q.1 + q.2 - 1; omega, hq.2.2⟩⟩
    · unfold sqA at h
      obtain ⟨q, hq, rfl⟩ := List.mem_map.1 h
      exact ⟨rfl, rfl⟩
    · unfold sqT
      rw [List.length_map, List.length_cons]
      exact runs_len rest x 1
end Go.Proofs.YtmcppajgfhmpaaaGreatDoor.FtE
