/- The plain law of FnSquash: what the printed functions compute writes the rows of a column as areas that have exactly these rows, each as long as possible. Conditions: none but the length of the list. -/
import Derived.Test.YtfbenlenihlpbaaDoorPSqx5
import Derived.Test.YtfbenlenihlpbaaDoorCellText
namespace Go.Proofs.YtfbenlenihlpbaaDoor.EvSquash
open Go.RowKit Go.Proofs.YtfbenlenihlpbaaDoorW.PrintWords Go.Proofs.YtfbenlenihlpbaaDoorW.PrintLast Go.Proofs.YtfbenlenihlpbaaDoorW.PrintMore
open Go.Proofs.YtfbenlenihlpbaaDoor.Str Go.Proofs.YtfbenlenihlpbaaDoor.PSq Go.Proofs.YtfbenlenihlpbaaDoor.CellText
set_option linter.unusedVariables false
set_option linter.unusedSimpArgs false

def okCol (c : Nat) : Bool := decide (excelize_zzColumnName.f 10 ((c : Int) + 1) = some (colT ((c : Int) + 1)))
theorem cols_ok : ((List.range 30).all okCol) = true := by decide +kernel
theorem col_name (c : Int) (hc : 1 ≤ c ∧ c ≤ 30) : Ev (fun k => excelize_zzColumnName.f k c) (colT c) := by
  have h := List.all_eq_true.1 cols_ok (c.toNat - 1) (List.mem_range.2 (by omega))
  unfold okCol at h
  have h := of_decide_eq_true h
  rw [show ((c.toNat - 1 : Nat) : Int) + 1 = c by omega] at h
  exact Ev.of (excelize_zzColumnName.mono _) h
theorem small (c r : Int) : (colT c).size ≤ 2 ∧ (rowT r).size ≤ 2 := by
  unfold colT rowT colB rowB
  constructor <;> split <;> (simp [ByteArray.size])
theorem cell_text (c r : Int) (hc : 1 ≤ c ∧ c ≤ 30) (hr : 1 ≤ r ∧ r ≤ 99) : Ev (fun k => excelize_CoordinatesToCellName.f k c r []) (txt c r, none) := by
  have hs := small c r
  have hN : Ev (fun k => excelize_ColumnNumberToName.f k c) (colT c, none) := by
    unfold excelize_ColumnNumberToName.f
    refine Ev.congr (fun k => by rw [if_neg (by omega), if_neg (by omega)]) ?_
    exact Ev.bind (col_name c hc) (Ev.now _)
  unfold excelize_CoordinatesToCellName.f
  refine Ev.congr (fun k => by rw [if_neg (by omega), decide_eq_false (show ¬ r < 1 by omega)]) ?_
  refine Ev.step (fun k => by rw [excelize_CoordinatesToCellName.j0, if_neg (by decide), if_neg (by omega)]) ?_
  refine Ev.bind hN ?_
  refine Ev.congr (fun k => if_pos rfl) ?_
  refine Ev.step (f := fun _ => some (txt c r, none)) (fun k => ?_) (Ev.now _)
  dsimp only
  rw [excelize_CoordinatesToCellName.l0, if_neg (by simp), itoa_row r hr, Option.bind_some, if_pos (by omega)]
  rfl
theorem nn : (none : Option Int).isNone = true := rfl
theorem range_text (c a d b : Int) (hc : 1 ≤ c ∧ c ≤ 30) (ha : 1 ≤ a ∧ a ≤ 99) (hd : 1 ≤ d ∧ d ≤ 30) (hb : 1 ≤ b ∧ b ≤ 99) : Ev (fun k => excelize_coordinatesToRangeRef.f k [c, a, d, b] []) (rng c a d b, none) := by
  have h1 := (txt_bytes c a hc ha).2.2
  have h2 := (txt_bytes d b hd hb).2.2
  have h3 : (⟨#[58]⟩ : ByteArray).size = 1 := rfl
  unfold excelize_coordinatesToRangeRef.f
  refine Ev.congr (fun k => by rw [if_pos (by rfl), if_pos (by simp), if_pos (by simp), show rd [c, a, d, b] 0 = c from rfl, show rd [c, a, d, b] 1 = a from rfl, show rd [c, a, d, b] 2 = d from rfl, show rd [c, a, d, b] 3 = b from rfl]) ?_
  refine Ev.bind (cell_text c a hc ha) ?_
  refine Ev.congr (fun k => ((if_pos nn).trans (if_pos (by simp))).trans (if_pos (by simp))) ?_
  refine Ev.bind (cell_text d b hd hb) ?_
  exact Ev.congr (f := fun _ => some (rng c a d b, none)) (fun k => by dsimp only; rw [if_pos nn, if_pos (by omega), if_pos (by rw [ByteArray.size_append]; omega)]; try rfl) (Ev.now _)

/-- A run of rows, its first one and its length; how it is written; the runs of increasing rows. -/
def tx (c : Int) (p : Int × Nat) : ByteArray := if p.2 = 1 then txt c p.1 else rng c p.1 c (p.1 + p.2 - 1)
def runs : Int → Nat → List Int → List (Int × Nat)
  | a, m, [] => [(a, m)]
  | a, m, x :: xs => if x - (a + m - 1) > 1 then (a, m) :: runs x 1 xs else runs a (m + 1) xs
def seqI (a : Int) (n : Nat) : List Int := (List.range n).map fun j : Nat => a + (j : Int)
def flat (R : List (Int × Nat)) : List Int := (R.map fun p => seqI p.1 p.2).flatten
def Ok : Int → List (Int × Nat) → Prop
  | _, [] => True
  | last, p :: R => last + 1 < p.1 ∧ 1 ≤ p.2 ∧ p.1 + p.2 - 1 ≤ 99 ∧ Ok (p.1 + p.2 - 1) R
theorem seqI_succ (a : Int) (n : Nat) : seqI a (n + 1) = seqI a n ++ [a + (n : Int)] := by
  unfold seqI
  rw [List.range_succ, List.map_append]; rfl
theorem seqI_get (a : Int) (n j : Nat) (h : j < n) : (seqI a n)[j]? = some (a + (j : Int)) := by
  unfold seqI
  rw [List.getElem?_map, List.getElem?_range h]; rfl
theorem seqI_length (a : Int) (n : Nat) : (seqI a n).length = n := by unfold seqI; simp
theorem runs_flat : ∀ (rest : List Int) (a : Int) (m : Nat), (∀ x ∈ rest, a + m - 1 < x) → rest.Pairwise (· < ·) → flat (runs a m rest) = seqI a m ++ rest
  | [], a, m, _, _ => by simp [runs, flat]
  | x :: xs, a, m, h, hp => by
    have h1 := h x List.mem_cons_self
    have hp' := List.pairwise_cons.1 hp
    unfold runs
    by_cases hg : x - (a + m - 1) > 1
    · rw [if_pos hg]
      have ih := runs_flat xs x 1 (fun y hy => by have := hp'.1 y hy; omega) hp'.2
      have e : flat ((a, m) :: runs x 1 xs) = seqI a m ++ flat (runs x 1 xs) := by simp [flat]
      rw [e, ih]
      have : seqI x 1 = [x] := by unfold seqI; simp
      rw [this]; rfl
    · rw [if_neg hg]
      have ih := runs_flat xs a (m + 1) (fun y hy => by have := hp'.1 y hy; omega) hp'.2
      rw [ih, seqI_succ, List.append_assoc, show a + (m : Int) = x by omega]; rfl
theorem runs_ok : ∀ (rest : List Int) (a : Int) (m : Nat) (last : Int), last + 1 < a → 1 ≤ m → a + m - 1 ≤ 99 → (∀ x ∈ rest, a + m - 1 < x ∧ x ≤ 99) → rest.Pairwise (· < ·) → Ok last (runs a m rest)
  | [], a, m, last, h1, h2, h3, _, _ => ⟨h1, h2, h3, trivial⟩
  | x :: xs, a, m, last, h1, h2, h3, h, hp => by
    have hx := h x List.mem_cons_self
    have hp' := List.pairwise_cons.1 hp
    unfold runs
    by_cases hg : x - (a + m - 1) > 1
    · rw [if_pos hg]
      exact ⟨h1, h2, h3, runs_ok xs x 1 (a + m - 1) (by omega) (by omega) (by omega) (fun y hy => by have := hp'.1 y hy; have := (h y (List.mem_cons_of_mem _ hy)).2; omega) hp'.2⟩
    · rw [if_neg hg]
      exact runs_ok xs a (m + 1) last h1 (by omega) (by omega) (fun y hy => by have := hp'.1 y hy; have := (h y (List.mem_cons_of_mem _ hy)).2; omega) hp'.2

/-! ### the squashing -/
def cells (c : Int) (rows : List Int) : List (List Int) := rows.map fun r => [c, r]
theorem cell_at (c : Int) (rows : List Int) (i : Nat) (x : Int) (h : rows[i]? = some x) : rd_L3 (cells c rows) (i : Int) = [c, x] := by
  unfold rd_L3 cells
  rw [show ((i : Nat) : Int).toNat = i by omega, List.getD_eq_getElem?_getD, List.getElem?_map, h]; rfl
theorem cells_length (c : Int) (rows : List Int) : (cells c rows).length = rows.length := by unfold cells; simp
theorem sq_loop (c : Int) (hc : 1 ≤ c ∧ c ≤ 30) (rows : List Int) (hR : rows.length ≤ 1000) : ∀ (rest : List Int) (refs : List ByteArray) (a : Int) (m l : Nat), rows.drop (l + m) = rest → 1 ≤ m → l + m ≤ rows.length →
    rows[l]? = some a → rows[l + m - 1]? = some (a + m - 1) → 1 ≤ a → a + m - 1 ≤ 99 → (∀ x ∈ rest, a + m - 1 < x ∧ x ≤ 99) → rest.Pairwise (· < ·) → refs.length + rest.length ≤ 10000 →
    Ev (fun k => excelize_squashSqref.l0 k (cells c rows) refs (l : Int) ((l + m - 1 : Nat) : Int) ((l + m : Nat) : Int)) (refs ++ (runs a m rest).map (tx c)) := by
  intro rest
  induction rest with
  | nil =>
    intro refs a m l hd hm hl hA hB h1 h2 h hp hz
    have hlen : rows.length ≤ l + m := List.drop_eq_nil_iff.1 hd
    have e6 := cell_at c rows l a hA
    have e7 := cell_at c rows (l + m - 1) _ hB
    have hcl := cells_length c rows
    refine Ev.step (fun k => by rw [excelize_squashSqref.l0, if_neg (by omega), if_pos (by omega), if_pos (by omega), if_pos (by omega), if_pos (by omega), e6, e7, if_pos (by simp), if_pos (by simp), if_pos (by simp), show ([c, a] : List Int) ++ [c, a + (m : Int) - 1] = [c, a, c, a + (m : Int) - 1] from rfl]) ?_
    refine Ev.bind (range_text c a c (a + m - 1) hc (by omega) hc (by omega)) ?_
    by_cases hm1 : m = 1
    · subst hm1
      refine Ev.congr (fun k => by rw [if_pos (by omega), if_pos (by simp), show rd [c, a] 0 = c from rfl, show rd [c, a] 1 = a from rfl]) ?_
      refine Ev.bind (cell_text c a hc (by omega)) ?_
      exact Ev.congr (f := fun _ => some _) (fun k => by rw [if_pos (by simp only [List.length_nil] at hz; omega)]; rfl) (Ev.now _)
    · have ht : tx c (a, m) = rng c a c (a + m - 1) := if_neg hm1
      exact Ev.congr (f := fun _ => some _) (fun k => by rw [if_neg (by omega), if_pos (by simp only [List.length_nil] at hz; omega), ← ht]; rfl) (Ev.now _)
  | cons x xs ih =>
    intro refs a m l hd hm hl hA hB h1 h2 h hp hz
    have hlt : l + m < rows.length := by
      rcases Nat.lt_or_ge (l + m) rows.length with hh | hh
      · exact hh
      · rw [List.drop_eq_nil_of_le hh] at hd; cases hd
    have hx := h x List.mem_cons_self
    have hp' := List.pairwise_cons.1 hp
    have hX : rows[l + m]? = some x := by
      have : (rows.drop (l + m))[0]? = some x := by rw [hd]; rfl
      rwa [List.getElem?_drop, Nat.add_zero] at this
    have hd' : rows.drop (l + m + 1) = xs := by
      rw [← List.drop_drop, hd]; rfl
    have e6 := cell_at c rows l a hA
    have e7 := cell_at c rows (l + m - 1) _ hB
    have e8 := cell_at c rows (l + m) x hX
    have hcl := cells_length c rows
    have hw : wrap64 (((l + m : Nat) : Int) + 1) = ((l + m + 1 : Nat) : Int) := by rw [w64s (by omega) (by omega)]; omega
    have hw2 : wrap64 (x - (a + (m : Int) - 1)) = x - (a + (m : Int) - 1) := w64s (by omega) (by omega)
    simp only [List.length_cons] at hz
    refine Ev.step (fun k => by rw [excelize_squashSqref.l0, if_pos (by omega), if_pos (by omega), e8, e7, if_pos (by simp), if_pos (by omega), if_pos (by omega), if_pos (by simp), show rd [c, x] 0 = c from rfl, show rd [c, a + (m : Int) - 1] 0 = c from rfl, if_pos rfl, if_pos (by simp), if_pos (by simp), show rd [c, x] 1 = x from rfl, show rd [c, a + (m : Int) - 1] 1 = a + (m : Int) - 1 from rfl, hw2]) ?_
    by_cases hg : x - (a + m - 1) > 1
    · have er : runs a m (x :: xs) = (a, m) :: runs x 1 xs := by rw [runs, if_pos hg]
      have ih' := ih (refs ++ [tx c (a, m)]) x 1 (l + m) hd' (Nat.le_refl _) (by omega) hX (by rw [Nat.add_sub_cancel, hX]; congr 1; omega) (by omega) (by omega) (fun y hy => by have := hp'.1 y hy; have := (h y (List.mem_cons_of_mem _ hy)).2; omega) hp'.2 (by rw [List.length_append, List.length_singleton]; omega)
      rw [er, List.map_cons]
      rw [List.append_assoc, List.singleton_append, Nat.add_sub_cancel] at ih'
      refine Ev.step (fun k => by rw [excelize_squashSqref.j1, decide_eq_true hg, if_pos rfl, if_pos (by omega), if_pos (by omega), if_pos (by omega), if_pos (by omega), e6, e7, if_pos (by simp), if_pos (by simp), if_pos (by simp), show ([c, a] : List Int) ++ [c, a + (m : Int) - 1] = [c, a, c, a + (m : Int) - 1] from rfl]) ?_
      refine Ev.bind (range_text c a c (a + m - 1) hc (by omega) hc (by omega)) ?_
      by_cases hm1 : m = 1
      · subst hm1
        refine Ev.congr (fun k => by rw [if_pos (by omega), if_pos (by simp), show rd [c, a] 0 = c from rfl, show rd [c, a] 1 = a from rfl]) ?_
        refine Ev.bind (cell_text c a hc (by omega)) ?_
        exact Ev.congr (fun k => by rw [if_pos (by omega), hw]; rfl) ih'
      · have ht : tx c (a, m) = rng c a c (a + m - 1) := if_neg hm1
        rw [ht] at ih'
        rw [ht]
        exact Ev.congr (fun k => by rw [if_neg (by omega), if_pos (by omega), hw]) ih'
    · have er : runs a m (x :: xs) = runs a (m + 1) xs := by rw [runs, if_neg hg]
      have hxe : x = a + (m : Int) := by omega
      have ih' := ih refs a (m + 1) l hd' (by omega) (by omega) hA (by rw [show l + (m + 1) - 1 = l + m by omega, hX]; congr 1; omega) h1 (by omega) (fun y hy => by have := hp'.1 y hy; have := (h y (List.mem_cons_of_mem _ hy)).2; omega) hp'.2 (by omega)
      rw [er]
      have hw3 : wrap64 (((l + m - 1 : Nat) : Int) + 1) = ((l + (m + 1) - 1 : Nat) : Int) := by rw [w64s (by omega) (by omega)]; omega
      exact Ev.step (fun k => by rw [excelize_squashSqref.j1, decide_eq_false hg, if_neg (by decide), hw, hw3]; rfl) ih'
def texts (c : Int) : List Int → List ByteArray
  | [] => []
  | a :: rest => (runs a 1 rest).map (tx c)
theorem squash (c : Int) (hc : 1 ≤ c ∧ c ≤ 30) (rows : List Int) (hR : rows.length ≤ 100) (hb : ∀ x ∈ rows, 1 ≤ x ∧ x ≤ 99) (hp : rows.Pairwise (· < ·)) : Ev (fun k => impl_Squash.f k c rows) (texts c rows) := by
  have main : Ev (fun k => excelize_squashSqref.f k (cells c rows)) (texts c rows) := by
    have hcl := cells_length c rows
    unfold excelize_squashSqref.f
    match rows, hR, hb, hp, hcl with
    | [], _, _, _, hcl => exact Ev.congr (f := fun _ => some _) (fun k => by rw [if_neg (by simp [cells]), if_pos (by simp [cells])]; rfl) (Ev.now _)
    | [a], _, hb, _, hcl =>
      have ha := hb a List.mem_cons_self
      have e6 := cell_at c [a] 0 a rfl
      refine Ev.congr (fun k => by rw [if_pos (by simp [cells]), if_pos (by simp [cells]), show rd_L3 (cells c [a]) 0 = [c, a] from e6, if_pos (by simp), if_pos (by simp), show rd [c, a] 0 = c from rfl, show rd [c, a] 1 = a from rfl]) ?_
      refine Ev.bind (cell_text c a hc (by omega)) ?_
      exact Ev.now _
    | a :: b :: rest, hR, hb, hp, hcl =>
      have ha := hb a List.mem_cons_self
      have hp' := List.pairwise_cons.1 hp
      simp only [List.length_cons] at hR hcl
      have h := sq_loop c hc (a :: b :: rest) (by simp only [List.length_cons]; omega) (b :: rest) [] a 1 0 rfl (Nat.le_refl _) (by simp) rfl (by simp) (by omega) (by omega) (fun y hy => by have := hp'.1 y hy; have := hb y (List.mem_cons_of_mem _ hy); omega) hp'.2 (by simp only [List.length_cons, List.length_nil]; omega)
      exact Ev.congr (fun k => by rw [if_neg (by omega), if_neg (by omega)]; rfl) h
  have build : ∀ (d i : Nat), rows.length - i = d → i ≤ rows.length → Ev (fun k => excelize_DoorSquash.l0 k c (cells c (rows.take i)) rows (rows.length : Int) (i : Int)) (texts c rows) := by
    intro d
    induction d with
    | zero =>
      intro i hd hi
      obtain rfl : i = rows.length := by omega
      refine Ev.step (fun k => by rw [excelize_DoorSquash.l0, if_neg (by omega), List.take_length]) ?_
      exact Ev.bind main (Ev.now _)
    | succ d ih =>
      intro i hd hi
      have hlt : i < rows.length := by omega
      have hx : rows[i]? = some rows[i] := List.getElem?_eq_getElem hlt
      have e1 : rd rows (i : Int) = rows[i] := by unfold rd; rw [show ((i : Nat) : Int).toNat = i by omega, List.getD_eq_getElem?_getD, hx]; rfl
      have hw : wrap64 ((i : Int) + 1) = ((i + 1 : Nat) : Int) := by rw [w64s (by omega) (by omega)]; omega
      have e2 : cells c (rows.take i) ++ [[c, rows[i]]] = cells c (rows.take (i + 1)) := by
        unfold cells
        rw [List.take_succ_eq_append_getElem hlt, List.map_append]; rfl
      have hl : (cells c (rows.take i)).length ≤ 100 := by rw [cells_length, List.length_take]; omega
      exact Ev.step (fun k => by rw [excelize_DoorSquash.l0, if_pos (by omega), if_pos (by omega), if_pos (by omega), if_pos (by omega), e1, e2, hw]) (ih (i + 1) (by omega) (by omega))
  unfold impl_Squash.f excelize_DoorSquash.f
  exact Ev.bind (build rows.length 0 (by omega) (by omega)) (Ev.now _)

/-! ### reading back -/
theorem grid_read (t : ByteArray) (c r d s : Int) (hb : ∀ x ∈ bytesOf t, 48 ≤ x) (z1 : 1 ≤ t.size) (z2 : t.size ≤ 100) (h : Ev (fun k => PRo.spec_gridReadOne.f k t) (c, r, d, s, true)) : Ev (fun k => spec_GridRead.f k t) ([⟨c, r, d, s⟩], true) := by
  have hne : ∀ i : Nat, i < t.size → ((bt t (i : Int)) != 32) = true := fun i hi => by
    have := hb _ (List.mem_of_getElem? (bytes_get t i hi))
    exact bne_iff_ne.2 (by omega)
  have key : ∀ (d' i : Nat), t.size - i = d' → i ≤ t.size → Ev (fun k => spec_GridRead.l0 k t [] 0 (i : Int)) ([⟨c, r, d, s⟩], true) := by
    intro d'
    induction d' with
    | zero =>
      intro i hd hi
      obtain rfl : i = t.size := by omega
      have hw : wrap64 ((t.size : Int) + 1) = ((t.size + 1 : Nat) : Int) := by rw [w64s (by omega) (by omega)]; omega
      refine Ev.step (fun k => by rw [spec_GridRead.l0, if_pos (Int.le_refl _), if_neg (by omega)]) ?_
      refine Ev.step (fun k => by rw [spec_GridRead.j1, if_neg (by decide), if_pos (by omega), if_pos (by omega), if_pos (by omega), if_pos (Int.le_refl _), show (0 : Int).toNat = 0 from rfl, show ((t.size : Nat) : Int).toNat = t.size by omega, ByteArray.extract_zero_size]) ?_
      refine Ev.bind h ?_
      refine Ev.congr (fun k => by rw [if_pos rfl, if_pos (by simp), hw]) ?_
      exact Ev.step (f := fun _ => some _) (fun k => by rw [spec_GridRead.l0, if_neg (by omega)]; rfl) (Ev.now _)
    | succ d' ih =>
      intro i hd hi
      have hw : wrap64 ((i : Int) + 1) = ((i + 1 : Nat) : Int) := by rw [w64s (by omega) (by omega)]; omega
      refine Ev.step (fun k => by rw [spec_GridRead.l0, if_pos (by omega), if_pos (by omega), if_pos (by omega), hne i (by omega)]) ?_
      exact Ev.step (fun k => by rw [spec_GridRead.j1, if_pos rfl, hw]) (ih (i + 1) (by omega) (by omega))
  unfold spec_GridRead.f
  exact key t.size 0 (by omega) (by omega)
theorem read_tx (c : Int) (hc : 1 ≤ c ∧ c ≤ 30) (a : Int) (n : Nat) (h1 : 1 ≤ a) (h2 : 1 ≤ n) (h3 : a + n - 1 ≤ 99) : Ev (fun k => spec_GridRead.f k (tx c (a, n))) ([⟨c, a, c, a + n - 1⟩], true) := by
  obtain ⟨b1, z1, z2⟩ := txt_bytes c a hc (by omega)
  show Ev (fun k => spec_GridRead.f k (if n = 1 then txt c a else rng c a c (a + n - 1))) _
  by_cases hn : n = 1
  · subst hn
    rw [if_pos rfl, show a + ((1 : Nat) : Int) - 1 = a by omega]
    exact grid_read _ c a c a (fun x hx => (b1 x hx).1) z1 (by omega) (read_cell c a hc (by omega))
  · rw [if_neg hn]
    obtain ⟨b2, y1, y2⟩ := txt_bytes c (a + n - 1) hc (by omega)
    have h58 : (⟨#[58]⟩ : ByteArray).size = 1 := rfl
    have hz : (rng c a c (a + n - 1)).size = (txt c a).size + 1 + (txt c (a + n - 1)).size := by unfold rng; rw [ByteArray.size_append, ByteArray.size_append, h58]
    refine grid_read _ c a c _ (fun x hx => ?_) (by omega) (by omega) (read_range c a c (a + n - 1) hc (by omega) hc (by omega))
    unfold rng at hx
    rw [bytes_append, bytes_append, show bytesOf (⟨#[58]⟩ : ByteArray) = [58] from rfl, List.mem_append, List.mem_append, List.mem_singleton] at hx
    rcases hx with (hx | hx) | hx
    · exact (b1 x hx).1
    · omega
    · exact (b2 x hx).1
theorem law_loop (c : Int) (hc : 1 ≤ c ∧ c ≤ 30) (rows : List Int) (l : List ByteArray) (hR : rows.length ≤ 100) (hl : l.length ≤ 1000) : ∀ (R : List (Int × Nat)) (i at_ : Nat) (last : Int), l.drop i = R.map (tx c) → rows.drop at_ = flat R → i ≤ l.length → at_ ≤ rows.length → -1 ≤ last → last ≤ 99 → Ok last R →
    Ev (fun k => laws_FnSquash.l0 k c rows l (at_ : Int) last (i : Int)) true := by
  intro R
  induction R with
  | nil =>
    intro i at_ last hl' hr hi ha hb1 hb2 hok
    have h1 : l.length ≤ i := List.drop_eq_nil_iff.1 hl'
    have h2 : rows.length ≤ at_ := List.drop_eq_nil_iff.1 hr
    exact Ev.step (f := fun _ => some true) (fun k => by rw [laws_FnSquash.l0, if_neg (by omega), if_pos (by omega)]; rfl) (Ev.now _)
  | cons p R ih =>
    obtain ⟨a, n⟩ := p
    intro i at_ last hl' hr hi ha hb1 hb2 hok
    obtain ⟨o1, o2, o3, o4⟩ := hok
    simp only at o1 o2 o3 o4
    have hlt : i < l.length := by
      rcases Nat.lt_or_ge i l.length with hh | hh
      · exact hh
      · rw [List.drop_eq_nil_of_le hh] at hl'; cases hl'
    have hX : l[i]? = some (tx c (a, n)) := by
      have : (l.drop i)[0]? = some (tx c (a, n)) := by rw [hl']; rfl
      rwa [List.getElem?_drop, Nat.add_zero] at this
    have hl2 : l.drop (i + 1) = R.map (tx c) := by rw [← List.drop_drop, hl']; rfl
    have e1 : rdOf ByteArray.empty l (i : Int) = tx c (a, n) := by unfold rdOf; rw [show ((i : Nat) : Int).toNat = i by omega, List.getD_eq_getElem?_getD, hX]; rfl
    have hfl : rows.drop at_ = seqI a n ++ flat R := by rw [hr]; simp [flat]
    have hat : ∀ j, j < n → rows[at_ + j]? = some (a + (j : Int)) := fun j hj => by
      have : (rows.drop at_)[j]? = some (a + (j : Int)) := by rw [hfl, List.getElem?_append_left (by rw [seqI_length]; exact hj)]; exact seqI_get a n j hj
      rwa [List.getElem?_drop] at this
    have hle : at_ + n ≤ rows.length := by
      have := congrArg List.length hfl
      rw [List.length_drop, List.length_append, seqI_length] at this
      omega
    have hr2 : rows.drop (at_ + n) = flat R := by rw [← List.drop_drop, hfl, List.drop_left' (seqI_length a n)]
    have hw : wrap64 ((i : Int) + 1) = ((i + 1 : Nat) : Int) := by rw [w64s (by omega) (by omega)]; omega
    have hwl : wrap64 (last + 1) = last + 1 := w64s (by omega) (by omega)
    refine Ev.step (fun k => by rw [laws_FnSquash.l0, if_pos (by omega), if_pos (by omega), e1]) ?_
    refine Ev.bind (read_tx c hc a n (by omega) o2 o3) ?_
    have f0 : rd_T22 [(⟨c, a, c, a + (n : Int) - 1⟩ : S22)] 0 = ⟨c, a, c, a + (n : Int) - 1⟩ := rfl
    refine Ev.congr (fun k => by rw [if_pos rfl, if_pos (by simp), if_pos (by simp), f0, if_pos rfl, if_pos rfl, hwl, if_neg (by simp only; omega)]) ?_
    refine Ev.step (fun k => by rw [laws_FnSquash.j1, if_neg (by decide), if_pos (by simp), f0]) ?_
    have inner : ∀ (d j : Nat), n - j = d → j ≤ n → Ev (fun k => laws_FnSquash.l1 k c rows l ((at_ + j : Nat) : Int) (i : Int) [(⟨c, a, c, a + (n : Int) - 1⟩ : S22)] (a + (j : Int))) true := by
      intro d
      induction d with
      | zero =>
        intro j hd hj
        have hjn : j = n := by omega
        refine Ev.step (fun k => by rw [laws_FnSquash.l1, if_pos (by simp), f0, if_neg (by simp only; omega), hw]) ?_
        dsimp only
        rw [hjn]
        exact ih (i + 1) (at_ + n) (a + n - 1) hl2 hr2 (by omega) (by omega) (by omega) o3 o4
      | succ d ihd =>
        intro j hd hj
        clear hw hwl ih
        have hj' : j < n := by omega
        have e2 : rd rows ((at_ + j : Nat) : Int) = a + (j : Int) := by unfold rd; rw [show ((at_ + j : Nat) : Int).toNat = at_ + j by omega, List.getD_eq_getElem?_getD, hat j hj']; rfl
        have c1 : a + (j : Int) ≤ a + (n : Int) - 1 := by omega
        have c2 : ¬ ((at_ + j : Nat) : Int) ≥ (rows.length : Int) := by omega
        have c3 : (0 : Int) ≤ ((at_ + j : Nat) : Int) := by omega
        have c4 : ((at_ + j : Nat) : Int) < (rows.length : Int) := by omega
        have next := ihd (j + 1) (by omega) (by omega)
        have v1 : ((at_ + j : Nat) : Int) + 1 = ((at_ + (j + 1) : Nat) : Int) := by omega
        have v2 : a + (j : Int) + 1 = a + ((j + 1 : Nat) : Int) := by omega
        have b1 : -1 ≤ ((at_ + j : Nat) : Int) + 1 ∧ ((at_ + j : Nat) : Int) + 1 ≤ 4611686018427387904 := by omega
        have b2 : -1 ≤ a + (j : Int) + 1 ∧ a + (j : Int) + 1 ≤ 4611686018427387904 := by omega
        have w1 := w64s b1.1 b1.2
        have w2 := w64s b2.1 b2.2
        refine Ev.step (fun k => ?_) next
        rw [laws_FnSquash.l1, if_pos (by simp), f0]
        dsimp only
        rw [if_pos c1, if_neg c2, if_pos c3, if_pos c4, if_pos e2, w1, w2, v1, v2]
    have h0 := inner n 0 (by omega) (by omega)
    rw [show a + ((0 : Nat) : Int) = a by omega, Nat.add_zero] at h0
    dsimp only
    exact h0

/-! ### the rows -/
theorem gridNum (a n : Int) (hn : 1 ≤ n ∧ n ≤ 1000) : ∃ x, PgridNumber.laws_gridNumber.f a n = some x ∧ 1 ≤ x ∧ x ≤ n := by
  have h1 : -n < Int.tmod a n := by have := Int.lt_tmod_of_pos a (show 0 < n by omega); omega
  have h2 : Int.tmod a n < n := Int.tmod_lt_of_pos a (by omega)
  unfold PgridNumber.laws_gridNumber.f
  first
    | (rw [if_neg (by omega)]
       by_cases h : Int.tmod a n < 0
       · rw [if_pos h]
         refine ⟨_, rfl, ?_⟩
         unfold wrap64
         omega
       · rw [if_neg h]
         refine ⟨_, rfl, ?_⟩
         unfold wrap64
         omega)
theorem rows_of (l : List Int) : ∃ rows, Ev (fun k => laws_refRows.f k l) rows ∧ rows.length ≤ 25 ∧ (∀ x ∈ rows, 1 ≤ x ∧ x ≤ 75) ∧ rows.Pairwise (· < ·) := by
  have key : ∀ (d i : Nat) (acc : List Int) (at_ : Int), 25 - i = d → i ≤ 25 → acc.length ≤ i → 0 ≤ at_ → at_ ≤ 3 * i → (∀ x ∈ acc, 1 ≤ x ∧ x ≤ at_) → acc.Pairwise (· < ·) →
      ∃ rows, Ev (fun k => laws_refRows.l0 k l acc at_ (i : Int)) rows ∧ rows.length ≤ 25 ∧ (∀ x ∈ rows, 1 ≤ x ∧ x ≤ 75) ∧ rows.Pairwise (· < ·) := by
    intro d
    induction d with
    | zero =>
      intro i acc at_ hd hi ha h0 h1 hb hp
      refine ⟨acc, ?_, by omega, fun x hx => by have := hb x hx; omega, hp⟩
      refine Ev.step (f := fun _ => some acc) (fun k => ?_) (Ev.now _)
      by_cases h : (i : Int) < (l.length : Int)
      · rw [laws_refRows.l0, if_pos h, if_neg (by omega)]
      · rw [laws_refRows.l0, if_neg h]
    | succ d ih =>
      intro i acc at_ hd hi ha h0 h1 hb hp
      by_cases h : (i : Int) < (l.length : Int)
      · obtain ⟨x, hx, x1, x2⟩ := gridNum (rd l (i : Int)) 3 (by omega)
        have w1 : wrap64 (at_ + x) = at_ + x := w64s (by omega) (by omega)
        have w2 : wrap64 ((i : Int) + 1) = ((i + 1 : Nat) : Int) := by rw [w64s (by omega) (by omega)]; omega
        obtain ⟨rows, g1, g2⟩ := ih (i + 1) (acc ++ [at_ + x]) (at_ + x) (by omega) (by omega) (by rw [List.length_append, List.length_singleton]; omega) (by omega) (by omega) (fun y hy => by
          rcases List.mem_append.1 hy with hy | hy
          · have := hb y hy; omega
          · rw [List.mem_singleton.1 hy]; omega) (List.pairwise_append.2 ⟨hp, List.pairwise_singleton _ _, fun y hy z hz => by rw [List.mem_singleton.1 hz]; have := hb y hy; omega⟩)
        refine ⟨rows, ?_, g2⟩
        exact Ev.step (fun k => by rw [laws_refRows.l0, if_pos h, if_pos (by omega), if_pos (by omega), hx, Option.bind_some, if_pos (by omega), w1, w2]) g1
      · refine ⟨acc, ?_, by omega, fun x hx => by have := hb x hx; omega, hp⟩
        exact Ev.step (f := fun _ => some acc) (fun k => by rw [laws_refRows.l0, if_neg h]) (Ev.now _)
  exact key 25 0 [] 0 (by omega) (by omega) (by decide) (by omega) (by omega) (fun _ h => by cases h) List.Pairwise.nil
theorem runs_length : ∀ (rest : List Int) (a : Int) (m : Nat), (runs a m rest).length ≤ rest.length + 1
  | [], a, m => by simp [runs]
  | x :: xs, a, m => by
    unfold runs
    split
    · have := runs_length xs x 1; simp only [List.length_cons]; omega
    · have := runs_length xs a (m + 1); simp only [List.length_cons]; omega
theorem plain (col : Int) (l : List Int) : ∃ k, laws_FnSquash.f k col l = some true := by
  refine Ev.rounds (g := fun k => laws_FnSquash.f k col l) ?_
  unfold laws_FnSquash.f
  by_cases h : (l.length : Int) > 2147483647
  · simp only [if_pos h]; exact Ev.now _
  simp only [if_neg h]
  obtain ⟨c, hc, c1, c2⟩ := gridNum col 30 (by omega)
  obtain ⟨rows, hrows, r1, r2, r3⟩ := rows_of l
  rw [hc]
  simp only [Option.bind_some]
  refine Ev.bind hrows ?_
  refine Ev.bind (squash c ⟨c1, c2⟩ rows (by omega) (fun x hx => by have := r2 x hx; omega) r3) ?_
  match rows, r1, r2, r3 with
  | [], _, _, _ => exact law_loop c ⟨c1, c2⟩ [] [] (by decide) (by decide) [] 0 0 (-1) rfl rfl (by decide) (by decide) (by omega) (by omega) trivial
  | a :: rest, r1, r2, r3 =>
    have hp := List.pairwise_cons.1 r3
    have ha := r2 a List.mem_cons_self
    have hlen := runs_length rest a 1
    simp only [List.length_cons] at r1
    refine law_loop c ⟨c1, c2⟩ (a :: rest) _ (by simp only [List.length_cons]; omega) (by unfold texts; rw [List.length_map]; omega) (runs a 1 rest) 0 0 (-1) rfl ?_ (by omega) (by omega) (by omega) (by omega) (runs_ok rest a 1 (-1) (by omega) (by omega) (by omega) (fun y hy => by have := hp.1 y hy; have := r2 y (List.mem_cons_of_mem _ hy); omega) hp.2)
    rw [runs_flat rest a 1 (fun y hy => by have := hp.1 y hy; omega) hp.2]
    have : seqI a 1 = [a] := by unfold seqI; simp
    rw [this]; rfl

theorem law (col : Int) (a1 : Option Addr) (len1 cap1 : Nat) (z1 : List Int) (w : World) (w1 : (a1 = none ∧ len1 = 0 ∧ cap1 = 0 ∧ z1 = []) ∨ ∃ x, a1 = some x ∧ len1 ≤ cap1 ∧ cap1 ≤ maxLen ∧ z1.length = cap1 ∧ (∀ i, i < z1.length → w.cell? (x.add i) = some (.int .i64 (z1.getD i 0))) ∧ ∀ n ∈ z1, (Lit.int .i64 n).wf = true) :
    Calls Tryd.prog 6 #[.int .i64 col, .slice a1 len1 cap1] w fun e w' => e = .returned (.bool true) ∧ Below w.heap.size w w' := by
  obtain ⟨l1, rfl, hr1, hm1, hw1, hc1⟩ := ReadsInt.ofRowC w1
  obtain ⟨k, h⟩ := plain col l1
  exact laws_FnSquash.calls k col _ _ l1 true w (Kd.C_of_reads (d := (0 : Int)) (h1 := fun _ => rfl) hr1) hc1 h
end Go.Proofs.YtfbenlenihlpbaaDoor.EvSquash
