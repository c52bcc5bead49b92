/- The plain law of FnLevel: what the printed functions compute sets the outline level of one column among runs of columns and leaves all else. No conditions. -/
import Derived.Test.YtjefbpfpobgmaaaPLvx12
namespace Go.Proofs.Ytjefbpfpobgmaaa.EvLevel
open Go.RowKit Go.Proofs.YtjefbpfpobgmaaaW.PrintWords Go.Proofs.YtjefbpfpobgmaaaW.PrintLast Go.Proofs.YtjefbpfpobgmaaaW.PrintMore
open Go.Proofs.Ytjefbpfpobgmaaa.PLv
set_option linter.unusedVariables false
set_option linter.unusedSimpArgs false

theorem w64s {x : Int} (h : 0 ≤ x) (h2 : x ≤ 4611686018427387904) : wrap64 x = x := by unfold wrap64; omega
theorem w64n (i : Nat) (h : i ≤ 1000000) : wrap64 ((i : Int) + 1) = ((i + 1 : Nat) : Int) := by unfold wrap64; omega
theorem at34 (xs : List S34) (i : Nat) (e : S34) (r : List S34) (h : xs.drop i = e :: r) : rd_T34 xs (i : Int) = e ∧ i < xs.length ∧ xs.drop (i + 1) = r := by
  have hlt : i < xs.length := by
    rcases Nat.lt_or_ge i xs.length with hh | hh
    · exact hh
    · rw [List.drop_eq_nil_of_le hh] at h; cases h
  have hX : xs[i]? = some e := by
    have : (xs.drop i)[0]? = some e := by rw [h]; rfl
    rwa [List.getElem?_drop, Nat.add_zero] at this
  refine ⟨?_, hlt, ?_⟩
  · unfold rd_T34
    rw [show ((i : Nat) : Int).toNat = i by omega, List.getD_eq_getElem?_getD, hX]; rfl
  · rw [← List.drop_drop, h]; rfl
theorem at68 (xs : List S68) (i : Nat) (e : S68) (r : List S68) (h : xs.drop i = e :: r) : rd_T68 xs (i : Int) = e ∧ i < xs.length ∧ xs.drop (i + 1) = r := by
  have hlt : i < xs.length := by
    rcases Nat.lt_or_ge i xs.length with hh | hh
    · exact hh
    · rw [List.drop_eq_nil_of_le hh] at h; cases h
  have hX : xs[i]? = some e := by
    have : (xs.drop i)[0]? = some e := by rw [h]; rfl
    rwa [List.getElem?_drop, Nat.add_zero] at this
  refine ⟨?_, hlt, ?_⟩
  · unfold rd_T68
    rw [show ((i : Nat) : Int).toNat = i by omega, List.getD_eq_getElem?_getD, hX]; rfl
  · rw [← List.drop_drop, h]; rfl
theorem at103 (xs : List S103) (i : Nat) (e : S103) (r : List S103) (h : xs.drop i = e :: r) : rd_T103 xs (i : Int) = e ∧ i < xs.length ∧ xs.drop (i + 1) = r := by
  have hlt : i < xs.length := by
    rcases Nat.lt_or_ge i xs.length with hh | hh
    · exact hh
    · rw [List.drop_eq_nil_of_le hh] at h; cases h
  have hX : xs[i]? = some e := by
    have : (xs.drop i)[0]? = some e := by rw [h]; rfl
    rwa [List.getElem?_drop, Nat.add_zero] at this
  refine ⟨?_, hlt, ?_⟩
  · unfold rd_T103
    rw [show ((i : Nat) : Int).toNat = i by omega, List.getD_eq_getElem?_getD, hX]; rfl
  · rw [← List.drop_drop, h]; rfl
def toDoor (e : S34) : S68 := ⟨e.f0, e.f1, e.f2, e.f3, e.f4, e.f5, e.f6⟩
theorem toDoor_loop (xs : List S34) (hx : xs.length ≤ 1000) : ∀ (rest : List S34) (acc : List S68) (i : Nat), xs.drop i = rest → acc.length ≤ i → Ev (fun k => impl_linesTo.l0 k acc xs (xs.length : Int) (i : Int)) (acc ++ rest.map toDoor) := by
  intro rest
  induction rest with
  | nil =>
    intro acc i hd ha
    have hlen : xs.length ≤ i := List.drop_eq_nil_iff.1 hd
    rw [List.map_nil, List.append_nil]
    exact Ev.step (f := fun _ => some acc) (fun k => by rw [impl_linesTo.l0, if_neg (by omega)]) (Ev.now _)
  | cons e r ih =>
    intro acc i hd ha
    obtain ⟨he, hi, hd'⟩ := at34 xs i e r hd
    have ih' := ih (acc ++ [toDoor e]) (i + 1) hd' (by rw [List.length_append, List.length_singleton]; omega)
    rw [List.append_assoc, List.singleton_append] at ih'
    rw [List.map_cons]
    refine Ev.step (fun k => ?_) ih'
    rw [impl_linesTo.l0, if_pos (by omega), if_pos (by omega), if_pos (by omega), if_pos (by omega), he, w64n i (by omega)]
    rfl
theorem toDoor_ev (xs : List S34) (hx : xs.length ≤ 1000) : Ev (fun k => impl_linesTo.f k xs) (xs.map toDoor) := toDoor_loop xs hx xs [] 0 rfl (Nat.zero_le _)
def toInner (e : S68) : S103 := ⟨e.f0, e.f1, e.f4, e.f5, e.f2, e.f3, e.f6⟩
theorem toInner_loop (xs : List S68) (hx : xs.length ≤ 1000) : ∀ (rest : List S68) (acc : List S103) (i : Nat), xs.drop i = rest → acc.length ≤ i → Ev (fun k => excelize_innerLines.l0 k acc xs (xs.length : Int) (i : Int)) (acc ++ rest.map toInner) := by
  intro rest
  induction rest with
  | nil =>
    intro acc i hd ha
    have hlen : xs.length ≤ i := List.drop_eq_nil_iff.1 hd
    rw [List.map_nil, List.append_nil]
    exact Ev.step (f := fun _ => some acc) (fun k => by rw [excelize_innerLines.l0, if_neg (by omega)]) (Ev.now _)
  | cons e r ih =>
    intro acc i hd ha
    obtain ⟨he, hi, hd'⟩ := at68 xs i e r hd
    have ih' := ih (acc ++ [toInner e]) (i + 1) hd' (by rw [List.length_append, List.length_singleton]; omega)
    rw [List.append_assoc, List.singleton_append] at ih'
    rw [List.map_cons]
    refine Ev.step (fun k => ?_) ih'
    rw [excelize_innerLines.l0, if_pos (by omega), if_pos (by omega), if_pos (by omega), if_pos (by omega), he, w64n i (by omega)]
    rfl
theorem toInner_ev (xs : List S68) (hx : xs.length ≤ 1000) : Ev (fun k => excelize_innerLines.f k xs) (xs.map toInner) := toInner_loop xs hx xs [] 0 rfl (Nat.zero_le _)
def ofInner (e : S103) : S68 := ⟨e.f0, e.f1, e.f4, e.f5, e.f2, e.f3, e.f6⟩
theorem ofInner_loop (xs : List S103) (hx : xs.length ≤ 1000) : ∀ (rest : List S103) (acc : List S68) (i : Nat), xs.drop i = rest → acc.length ≤ i → Ev (fun k => excelize_doorLines.l0 k acc xs (xs.length : Int) (i : Int)) (acc ++ rest.map ofInner) := by
  intro rest
  induction rest with
  | nil =>
    intro acc i hd ha
    have hlen : xs.length ≤ i := List.drop_eq_nil_iff.1 hd
    rw [List.map_nil, List.append_nil]
    exact Ev.step (f := fun _ => some acc) (fun k => by rw [excelize_doorLines.l0, if_neg (by omega)]) (Ev.now _)
  | cons e r ih =>
    intro acc i hd ha
    obtain ⟨he, hi, hd'⟩ := at103 xs i e r hd
    have ih' := ih (acc ++ [ofInner e]) (i + 1) hd' (by rw [List.length_append, List.length_singleton]; omega)
    rw [List.append_assoc, List.singleton_append] at ih'
    rw [List.map_cons]
    refine Ev.step (fun k => ?_) ih'
    rw [excelize_doorLines.l0, if_pos (by omega), if_pos (by omega), if_pos (by omega), if_pos (by omega), he, w64n i (by omega)]
    rfl
theorem ofInner_ev (xs : List S103) (hx : xs.length ≤ 1000) : Ev (fun k => excelize_doorLines.f k xs) (xs.map ofInner) := ofInner_loop xs hx xs [] 0 rfl (Nat.zero_le _)
def ofDoor (e : S68) : S34 := ⟨e.f0, e.f1, e.f2, e.f3, e.f4, e.f5, e.f6⟩
theorem ofDoor_loop (xs : List S68) (hx : xs.length ≤ 1000) : ∀ (rest : List S68) (acc : List S34) (i : Nat), xs.drop i = rest → acc.length ≤ i → Ev (fun k => impl_linesOf.l0 k acc xs (xs.length : Int) (i : Int)) (acc ++ rest.map ofDoor) := by
  intro rest
  induction rest with
  | nil =>
    intro acc i hd ha
    have hlen : xs.length ≤ i := List.drop_eq_nil_iff.1 hd
    rw [List.map_nil, List.append_nil]
    exact Ev.step (f := fun _ => some acc) (fun k => by rw [impl_linesOf.l0, if_neg (by omega)]) (Ev.now _)
  | cons e r ih =>
    intro acc i hd ha
    obtain ⟨he, hi, hd'⟩ := at68 xs i e r hd
    have ih' := ih (acc ++ [ofDoor e]) (i + 1) hd' (by rw [List.length_append, List.length_singleton]; omega)
    rw [List.append_assoc, List.singleton_append] at ih'
    rw [List.map_cons]
    refine Ev.step (fun k => ?_) ih'
    rw [impl_linesOf.l0, if_pos (by omega), if_pos (by omega), if_pos (by omega), if_pos (by omega), he, w64n i (by omega)]
    rfl
theorem ofDoor_ev (xs : List S68) (hx : xs.length ≤ 1000) : Ev (fun k => impl_linesOf.f k xs) (xs.map ofDoor) := ofDoor_loop xs hx xs [] 0 rfl (Nat.zero_le _)

/-! ### the list of columns -/
def Hit (c : Int) (e : S103) : Prop := e.f1 = c ∧ e.f0 = c
instance (c : Int) (e : S103) : Decidable (Hit c e) := inferInstanceAs (Decidable (_ ∧ _))
theorem find_loop (c : Int) (xs : List S103) (hx : xs.length ≤ 1000) : ∀ (rest : List S103) (i : Nat), xs.drop i = rest →
    (Ev (fun k => excelize_flatCols_1.l0 k c xs (xs.length : Int) (i : Int)) ((-1), false) ∧ ∀ e ∈ rest, ¬ Hit c e) ∨
    ∃ u e v, rest = u ++ e :: v ∧ Ev (fun k => excelize_flatCols_1.l0 k c xs (xs.length : Int) (i : Int)) (((i + u.length : Nat) : Int), true) ∧ (∀ e ∈ u, ¬ Hit c e) ∧ Hit c e := by
  intro rest
  induction rest with
  | nil =>
    intro i hd
    have hlen : xs.length ≤ i := List.drop_eq_nil_iff.1 hd
    refine .inl ⟨?_, fun e h => by cases h⟩
    exact Ev.step (f := fun _ => some ((-1), false)) (fun k => by rw [excelize_flatCols_1.l0, if_neg (by omega)]) (Ev.now _)
  | cons e r ih =>
    intro i hd
    obtain ⟨he, hi, hd'⟩ := at103 xs i e r hd
    by_cases h : Hit c e
    · refine .inr ⟨[], e, r, rfl, ?_, fun e h => by (cases h), h⟩
      refine Ev.step (f := fun _ => some (((i + 0 : Nat) : Int), true)) (fun k => ?_) (Ev.now _)
      rw [excelize_flatCols_1.l0, if_pos (by omega), if_pos (by omega), if_pos (by omega), he, if_pos h.1, if_pos h.2]; rfl
    · have hs : ∀ k, excelize_flatCols_1.l0 (k + 1) c xs (xs.length : Int) (i : Int) = excelize_flatCols_1.l0 k c xs (xs.length : Int) ((i + 1 : Nat) : Int) := by
        intro k
        rw [excelize_flatCols_1.l0, if_pos (by omega), if_pos (by omega), if_pos (by omega), he, w64n i (by omega)]
        by_cases h1 : e.f1 = c
        · rw [if_pos h1, if_neg (fun h0 => h ⟨h1, h0⟩)]
        · rw [if_neg h1]
      rcases ih (i + 1) hd' with ⟨g, hn⟩ | ⟨u, e', v, hr, g, hn, hh⟩
      · refine .inl ⟨Ev.step hs g, fun x hx => ?_⟩
        rcases List.mem_cons.1 hx with rfl | hx
        · exact h
        · exact hn x hx
      · refine .inr ⟨e :: u, e', v, by rw [hr]; rfl, ?_, fun x hx => ?_, hh⟩
        · rw [show i + (e :: u).length = i + 1 + u.length by rw [List.length_cons]; omega]
          exact Ev.step hs g
        · rcases List.mem_cons.1 hx with rfl | hx
          · exact h
          · exact hn x hx
/-- What the list says of a column: hidden, level, style. -/
def lk : List S103 → Int → Option (Bool × Int × Int)
  | [], _ => none
  | e :: r, c => if Hit c e then some (e.f3, e.f4, e.f5) else lk r c
theorem lk_skip (c : Int) (v : List S103) : ∀ u : List S103, (∀ e ∈ u, ¬ Hit c e) → lk (u ++ v) c = lk v c
  | [], _ => rfl
  | e :: u, h => by rw [List.cons_append, lk, if_neg (h e List.mem_cons_self)]; exact lk_skip c v u (fun x hx => h x (List.mem_cons_of_mem _ hx))
theorem lk_change (c : Int) (e e' : S103) (v : List S103) (h : ¬ Hit c e) (h' : ¬ Hit c e') : ∀ u : List S103, lk (u ++ e :: v) c = lk (u ++ e' :: v) c
  | [] => by rw [List.nil_append, List.nil_append, lk, lk, if_neg h, if_neg h']
  | x :: u => by rw [List.cons_append, List.cons_append, lk, lk, lk_change c e e' v h h' u]
theorem lk_end (c : Int) (e : S103) (h : ¬ Hit c e) : ∀ u : List S103, lk (u ++ [e]) c = lk u c
  | [] => if_neg h
  | x :: u => by rw [List.cons_append, lk, lk, lk_end c e h u]
def upd (o : Option (Bool × Int × Int)) (c : S103) : Option (Bool × Int × Int) := some (c.f3, (match o with | some x => x.2.1 | none => c.f4), c.f5)
/-- The list covers single columns, and says of each what G says. -/
structure St (fc : List S103) (G : Int → Option (Bool × Int × Int)) : Prop where
  one : ∀ e ∈ fc, e.f0 = e.f1
  says : ∀ j, lk fc j = G j
def fill (G : Int → Option (Bool × Int × Int)) (i hi : Int) (c : S103) : Int → Option (Bool × Int × Int) := fun j => if i ≤ j ∧ j ≤ hi then upd (G j) c else G j
theorem mn_eq (x : Int) (h : x ≤ 100) : mn 16384 x = x := by unfold mn; rw [if_pos (by omega)]
theorem mx_eq (x : Int) (h : 1 ≤ x) : mx 1 x = x := by unfold mx; split <;> omega
theorem set_at (u : List S103) (e e' : S103) (v : List S103) : (u ++ e :: v).set u.length e' = u ++ e' :: v := by
  induction u with
  | nil => rfl
  | cons x u ih => rw [List.cons_append, List.length_cons, List.set_cons_succ, ih]; rfl
theorem at_mid (u : List S103) (e : S103) (v : List S103) : rd_T103 (u ++ e :: v) (u.length : Int) = e := by
  unfold rd_T103
  rw [show ((u.length : Nat) : Int).toNat = u.length by omega, List.getD_eq_getElem?_getD, List.getElem?_append_right (Nat.le_refl _), Nat.sub_self]; rfl
theorem cols_loop (xs : List S103) (n p : Int) (c : S103) (hc : c.f1 ≤ 100) (Q : List S103 → Prop) : ∀ (d : Nat) (i : Int) (fc : List S103) (G : Int → Option (Bool × Int × Int)), c.f1 + 1 - i = d → 1 ≤ i → St fc G → fc.length + d ≤ 1000 →
    (∀ fc', St fc' (fill G i c.f1 c) → fc'.length ≤ fc.length + d → ∃ r, Ev (fun k => excelize_flatCols.l1 k fc' xs n (wrap64 (p + 1))) r ∧ Q r) →
    ∃ r, Ev (fun k => excelize_flatCols.l2 k fc i xs n p c.f0 c.f1 c.f2 c.f3 c.f4 c.f5 c.f6) r ∧ Q r := by
  intro d
  induction d with
  | zero =>
    intro i fc G hd hi hS hl hk
    obtain ⟨r, g, q⟩ := hk fc ⟨hS.one, fun j => by rw [hS.says j]; unfold fill; rw [if_neg (by omega)]⟩ (Nat.le_refl _)
    refine ⟨r, Ev.step (fun k => ?_) g, q⟩
    rw [excelize_flatCols.l2, mn_eq _ hc, if_neg (by omega)]
  | succ d ih =>
    intro i fc G hd hi hS hl hk
    have hw : wrap64 (i + 1) = i + 1 := w64s (by omega) (by omega)
    -- what follows, from the list that this column leaves
    have next : ∀ fc1, fc1.length ≤ fc.length + 1 → St fc1 (fill G i i c) → ∃ r, Ev (fun k => excelize_flatCols.l2 k fc1 (wrap64 (i + 1)) xs n p c.f0 c.f1 c.f2 c.f3 c.f4 c.f5 c.f6) r ∧ Q r := by
      intro fc1 h1 hS1
      rw [hw]
      refine ih (i + 1) fc1 (fill G i i c) (by omega) (by omega) hS1 (by omega) (fun fc' hS' hl' => hk fc' ⟨hS'.one, fun j => ?_⟩ (by omega))
      rw [hS'.says j]
      unfold fill
      by_cases h1 : i + 1 ≤ j ∧ j ≤ c.f1
      · rw [if_pos h1, if_neg (by omega), if_pos (by omega)]
      · rw [if_neg h1]
        by_cases h2 : i ≤ j ∧ j ≤ i
        · rw [if_pos h2, if_pos (by omega)]
        · rw [if_neg h2, if_neg (by omega)]
    rcases find_loop i fc (by omega) fc 0 rfl with ⟨g, hn⟩ | ⟨u, e, v, hr, g, hn, hh⟩
    · obtain ⟨r, g2, q⟩ := next (fc ++ [⟨i, i, c.f2, c.f3, c.f4, c.f5, c.f6⟩]) (by rw [List.length_append, List.length_singleton]; omega) ⟨fun x hx => by
        rcases List.mem_append.1 hx with hx | hx
        · exact hS.one x hx
        · rw [List.mem_singleton.1 hx], fun j => by
        by_cases hj : j = i
        · subst hj
          have h0 : lk fc j = none := by have := lk_skip j [] fc hn; rw [List.append_nil] at this; rw [this]; rfl
          rw [lk_skip j _ fc hn, lk, if_pos ⟨rfl, rfl⟩]
          unfold fill upd
          rw [if_pos (by omega), ← hS.says j, h0]
        · rw [lk_end j _ (fun h => hj h.1.symm), hS.says j]
          unfold fill
          rw [if_neg (by omega)]⟩
      refine ⟨r, Ev.step (f := fun k => (excelize_flatCols_1.f k i fc).bind _) (fun k => by rw [excelize_flatCols.l2, mn_eq _ hc, if_pos (by omega)]) (Ev.bind g ?_), q⟩
      refine Ev.congr (fun k => ?_) g2
      dsimp only
      rw [if_neg (by decide), if_pos (by omega)]
    · subst hr
      have hlen : (u ++ e :: v).length = u.length + v.length + 1 := by rw [List.length_append, List.length_cons]; omega
      have he := hS.one e (List.mem_append.2 (.inr List.mem_cons_self))
      obtain ⟨r, g2, q⟩ := next (u ++ (⟨e.f0, e.f1, c.f2, c.f3, e.f4, c.f5, c.f6⟩ : S103) :: v) (by rw [List.length_append, List.length_cons]; omega) ⟨fun x hx => by
        rcases List.mem_append.1 hx with hx | hx
        · exact hS.one x (List.mem_append.2 (.inl hx))
        · rcases List.mem_cons.1 hx with rfl | hx
          · exact he
          · exact hS.one x (List.mem_append.2 (.inr (List.mem_cons_of_mem _ hx))), fun j => by
        by_cases hj : j = i
        · subst hj
          have h0 : lk (u ++ e :: v) j = some (e.f3, e.f4, e.f5) := by rw [lk_skip j _ u hn, lk, if_pos hh]
          rw [lk_skip j _ u hn, lk, if_pos (show Hit j (⟨e.f0, e.f1, c.f2, c.f3, e.f4, c.f5, c.f6⟩ : S103) from hh)]
          unfold fill upd
          rw [if_pos (by omega), ← hS.says j, h0]
        · rw [← lk_change j e (⟨e.f0, e.f1, c.f2, c.f3, e.f4, c.f5, c.f6⟩ : S103) v (fun h => hj (h.1.symm.trans hh.1)) (fun h => hj ((show e.f1 = j from h.1).symm.trans hh.1)) u, hS.says j]
          unfold fill
          rw [if_neg (by omega)]⟩
      refine ⟨r, Ev.step (f := fun k => (excelize_flatCols_1.f k i (u ++ e :: v)).bind _) (fun k => by rw [excelize_flatCols.l2, mn_eq _ hc, if_pos (by omega)]) (Ev.bind g ?_), q⟩
      refine Ev.congr (fun k => ?_) g2
      dsimp only
      rw [if_pos rfl, if_pos (by omega), if_pos (by omega), Nat.zero_add, at_mid, show ((u.length : Nat) : Int).toNat = u.length by omega]
      unfold excelize_xlsxWorksheet_setColOutlineLevel_1.f
      rw [Option.bind_some]
      dsimp only
      rw [set_at]
def fold : (Int → Option (Bool × Int × Int)) → List S103 → Int → Option (Bool × Int × Int)
  | G, [] => G
  | G, c :: r => fold (fill G c.f0 c.f1 c) r
structure Run (c : S103) : Prop where
  lo : 1 ≤ c.f0
  le : c.f0 ≤ c.f1
  short : c.f1 ≤ c.f0 + 3
  hi : c.f1 ≤ 100
theorem runs_loop (xs : List S103) (hx : xs.length ≤ 100) : ∀ (rest : List S103) (p : Nat) (fc : List S103) (G : Int → Option (Bool × Int × Int)), xs.drop p = rest → (∀ c ∈ rest, Run c) → St fc G → fc.length + 4 * rest.length ≤ 1000 →
    ∃ r, Ev (fun k => excelize_flatCols.l1 k fc xs (xs.length : Int) (p : Int)) r ∧ St r (fold G rest) ∧ r.length ≤ 1000 := by
  intro rest
  induction rest with
  | nil =>
    intro p fc G hd hR hS hl
    have hlen : xs.length ≤ p := List.drop_eq_nil_iff.1 hd
    exact ⟨fc, Ev.step (f := fun _ => some fc) (fun k => by rw [excelize_flatCols.l1, if_neg (by omega)]) (Ev.now _), hS, by omega⟩
  | cons c r ih =>
    intro p fc G hd hR hS hl
    obtain ⟨he, hi, hd'⟩ := at103 xs p c r hd
    have hc := hR c List.mem_cons_self
    have c1 := hc.lo
    have c2 := hc.le
    have c3 := hc.short
    have c4 := hc.hi
    rw [List.length_cons] at hl
    obtain ⟨r', g, q1, q2⟩ := cols_loop xs (xs.length : Int) (p : Int) c hc.hi (fun r' => St r' (fold G (c :: r)) ∧ r'.length ≤ 1000) (c.f1 + 1 - c.f0).toNat c.f0 fc G (by omega) hc.lo hS (by omega) (fun fc' hS' hl' => by
      rw [w64n p (by omega)]
      exact ih (p + 1) fc' _ hd' (fun x hx => hR x (List.mem_cons_of_mem _ hx)) hS' (by omega))
    refine ⟨r', Ev.step (fun k => ?_) g, q1, q2⟩
    rw [excelize_flatCols.l1, if_pos (by omega), if_pos (by omega), if_pos (by omega), he, mx_eq _ hc.lo]
/-- The column itself, before the runs. -/
def head (a n : Int) : S103 := ⟨a, a, 0, false, n, 0, true⟩
theorem flat_ev (a n : Int) (ha : 1 ≤ a ∧ a ≤ 40) (xs : List S103) (hx : xs.length ≤ 100) (hR : ∀ c ∈ xs, Run c) :
    ∃ r, Ev (fun k => excelize_flatCols.f k a a 0 false n 0 true xs ()) r ∧ St r (fold (lk [head a n]) xs) ∧ r.length ≤ 1000 := by
  have h0 : St [head a n] (lk [head a n]) := ⟨fun e he => by rw [List.mem_singleton.1 he]; rfl, fun _ => rfl⟩
  obtain ⟨r, g, q⟩ := runs_loop xs hx xs 0 [head a n] _ rfl hR h0 (by rw [List.length_singleton]; omega)
  refine ⟨r, ?_, q⟩
  unfold excelize_flatCols.f
  have hw : wrap64 (a + 1) = a + 1 := w64s (by omega) (by omega)
  refine Ev.congr (fun k => by rw [mx_eq a ha.1]) ?_
  refine Ev.step (fun k => by rw [excelize_flatCols.l0, mn_eq a (by omega), if_pos (by omega), if_pos (by decide), hw]) ?_
  exact Ev.step (fun k => by rw [excelize_flatCols.l0, mn_eq a (by omega), if_neg (by omega)]; rfl) g

/-! ### the runs and what is read of them -/
def cv : List S34 → Int → Option S34
  | [], _ => none
  | e :: r, c => if e.f0 ≤ c ∧ c ≤ e.f1 then some e else cv r c
def ln (o : Option S34) (j : Int) : Int × Int × Int × Int × Nat × Bool × Bool := match o with
  | some e => (j, j, e.f2, e.f3, e.f4, e.f5, e.f6)
  | none => (j, j, 0, 0, 0, false, false)
theorem line_loop (xs : List S34) (hx : xs.length ≤ 1000) (j : Int) : ∀ (rest : List S34) (i : Nat), xs.drop i = rest → Ev (fun k => laws_refLine.l0 k xs j (i : Int)) (ln (cv rest j) j) := by
  intro rest
  induction rest with
  | nil =>
    intro i hd
    have hlen : xs.length ≤ i := List.drop_eq_nil_iff.1 hd
    exact Ev.step (f := fun _ => some _) (fun k => by rw [laws_refLine.l0, if_neg (by omega)]; rfl) (Ev.now _)
  | cons e r ih =>
    intro i hd
    obtain ⟨he, hi, hd'⟩ := at34 xs i e r hd
    have ih' := ih (i + 1) hd'
    by_cases h1 : e.f0 ≤ j
    · by_cases h2 : j ≤ e.f1
      · refine Ev.step (f := fun _ => some (ln (cv (e :: r) j) j)) (fun k => ?_) (Ev.now _)
        rw [laws_refLine.l0, if_pos (by omega), if_pos (by omega), he, if_pos h1, if_pos h2, cv, if_pos ⟨h1, h2⟩]; rfl
      · rw [cv, if_neg (fun h => h2 h.2)]
        refine Ev.step (fun k => ?_) ih'
        rw [laws_refLine.l0, if_pos (by omega), if_pos (by omega), he, if_pos h1, if_neg h2, w64n i (by omega)]
    · rw [cv, if_neg (fun h => h1 h.1)]
      refine Ev.step (fun k => ?_) ih'
      rw [laws_refLine.l0, if_pos (by omega), if_pos (by omega), he, if_neg h1, w64n i (by omega)]
theorem line_ev (xs : List S34) (hx : xs.length ≤ 1000) (j : Int) : Ev (fun k => laws_refLine.f k xs j) (ln (cv xs j) j) := line_loop xs hx j xs 0 rfl
def inn (e : S34) : S103 := toInner (toDoor e)
def out (e : S103) : S34 := ofDoor (ofInner e)
theorem fold_none (j : Int) : ∀ (rs : List S34) (G : Int → Option (Bool × Int × Int)), cv rs j = none → fold G (rs.map inn) j = G j
  | [], G, _ => rfl
  | e :: r, G, h => by
    rw [cv] at h
    by_cases he : e.f0 ≤ j ∧ j ≤ e.f1
    · rw [if_pos he] at h; cases h
    · rw [if_neg he] at h
      rw [List.map_cons, fold, fold_none j r _ h]
      unfold fill
      exact if_neg he
theorem cv_none (j : Int) : ∀ rs : List S34, (∀ e ∈ rs, j < e.f0) → cv rs j = none
  | [], _ => rfl
  | e :: r, h => by
    rw [cv, if_neg (by have := h e List.mem_cons_self; omega)]
    exact cv_none j r (fun x hx => h x (List.mem_cons_of_mem _ hx))
theorem fold_at (j : Int) : ∀ (rs : List S34) (G : Int → Option (Bool × Int × Int)), rs.Pairwise (fun a b => a.f1 < b.f0) → fold G (rs.map inn) j = match cv rs j with | some e => upd (G j) (inn e) | none => G j
  | [], G, _ => rfl
  | e :: r, G, h => by
    have hp := List.pairwise_cons.1 h
    by_cases he : e.f0 ≤ j ∧ j ≤ e.f1
    · rw [cv, if_pos he, List.map_cons, fold, fold_none j r _ (cv_none j r (fun x hx => by have := hp.1 x hx; omega))]
      unfold fill
      exact if_pos he
    · rw [cv, if_neg he, List.map_cons, fold, fold_at j r _ hp.2]
      have : fill G (inn e).f0 (inn e).f1 (inn e) j = G j := if_neg he
      rw [this]
theorem cv_out (j : Int) : ∀ fc : List S103, (∀ e ∈ fc, e.f0 = e.f1) → (cv (fc.map out) j).map (fun e => (e.f5, e.f2, e.f3)) = lk fc j
  | [], _ => rfl
  | e :: r, h => by
    have he := h e List.mem_cons_self
    rw [List.map_cons, cv, lk]
    by_cases hh : Hit j e
    · rw [if_pos hh, if_pos (show (out e).f0 ≤ j ∧ j ≤ (out e).f1 from ⟨Int.le_of_eq hh.2, Int.le_of_eq hh.1.symm⟩)]; rfl
    · rw [if_neg hh, if_neg (show ¬ ((out e).f0 ≤ j ∧ j ≤ (out e).f1) from fun hq => hh (by
        have q1 : e.f0 ≤ j := hq.1
        have q2 : j ≤ e.f1 := hq.2
        exact ⟨by omega, by omega⟩))]
      exact cv_out j r (fun x hx => h x (List.mem_cons_of_mem _ hx))
/-- What the new runs say of a column, against the old ones. -/
def Told (rs ys : List S34) (a n : Int) : Prop := ∀ c, (ln (cv ys c) c).2.2.2.2.2.1 = (ln (cv rs c) c).2.2.2.2.2.1 ∧ (ln (cv ys c) c).2.2.2.1 = (ln (cv rs c) c).2.2.2.1 ∧ (ln (cv ys c) c).2.2.1 = if a = c then n else (ln (cv rs c) c).2.2.1
theorem level_ev (rs : List S34) (a n : Int) (ha : 1 ≤ a ∧ a ≤ 40) (hl : rs.length ≤ 6) (hr : ∀ e ∈ rs, 1 ≤ e.f0 ∧ e.f0 ≤ e.f1 ∧ e.f1 ≤ e.f0 + 3 ∧ e.f1 ≤ 100) (hp : rs.Pairwise (fun a b => a.f1 < b.f0)) :
    ∃ ys, Ev (fun k => Go.Proofs.Ytjefbpfpobgmaaa.LvB.impl_Level.f k rs a n) ys ∧ ys.length ≤ 1000 ∧ Told rs ys a n := by
  have hm : (rs.map toDoor).map toInner = rs.map inn := by rw [List.map_map]; rfl
  have hR : ∀ c ∈ rs.map inn, Run c := fun c hc => by
    obtain ⟨e, he, rfl⟩ := List.mem_map.1 hc
    have := hr e he
    exact ⟨this.1, this.2.1, this.2.2.1, this.2.2.2⟩
  obtain ⟨fc, g, hS, hz⟩ := flat_ev a n ha (rs.map inn) (by rw [List.length_map]; omega) hR
  refine ⟨fc.map out, ?_, by rw [List.length_map]; exact hz, ?_⟩
  · unfold Go.Proofs.Ytjefbpfpobgmaaa.LvB.impl_Level.f
    refine Ev.bind (toDoor_ev rs (by omega)) ?_
    refine Ev.bind (toInner_ev _ (by rw [List.length_map]; omega)) ?_
    rw [hm]
    refine Ev.bind g ?_
    refine Ev.bind (ofInner_ev fc hz) ?_
    have := ofDoor_ev (fc.map ofInner) (by rw [List.length_map]; exact hz)
    rw [List.map_map] at this
    exact this
  · intro c
    have h1 := cv_out c fc hS.one
    rw [hS.says c, fold_at c rs _ hp] at h1
    have h2 : lk [head a n] c = if a = c then some (false, n, 0) else none := by
      rw [lk, lk]
      by_cases h : a = c
      · rw [if_pos h, if_pos (show Hit c (head a n) from ⟨h, h⟩)]; rfl
      · rw [if_neg h, if_neg (fun hh => h hh.1)]
    rw [h2] at h1
    cases h3 : cv (fc.map out) c with
    | none =>
      rw [h3] at h1
      cases h4 : cv rs c with
      | none =>
        rw [h4] at h1
        by_cases h : a = c
        · rw [if_pos h] at h1; cases h1
        · rw [if_neg h]; exact ⟨rfl, rfl, rfl⟩
      | some e => rw [h4] at h1; cases h1
    | some y =>
      rw [h3] at h1
      cases h4 : cv rs c with
      | none =>
        rw [h4] at h1
        by_cases h : a = c
        · rw [if_pos h] at h1
          have h5 := Option.some.inj h1
          have e1 : y.f5 = false := congrArg Prod.fst h5
          have e2 : y.f2 = n := congrArg (fun q => q.2.1) h5
          have e3 : y.f3 = 0 := congrArg (fun q => q.2.2) h5
          rw [if_pos h]
          exact ⟨e1, e3, e2⟩
        · rw [if_neg h] at h1; cases h1
      | some e =>
        rw [h4] at h1
        have h5 := Option.some.inj h1
        have e1 : y.f5 = e.f5 := congrArg Prod.fst h5
        have e3 : y.f3 = e.f3 := congrArg (fun q => q.2.2) h5
        have e2 := congrArg (fun q : Bool × Int × Int => q.2.1) h5
        refine ⟨e1, e3, ?_⟩
        by_cases h : a = c
        · rw [if_pos h] at e2 ⊢; exact e2
        · rw [if_neg h] at e2 ⊢; exact e2

/-! ### the law -/
theorem gridNum (a n : Int) (hn : 1 ≤ n ∧ n ≤ 1000) : ∃ x, laws_gridNumber.f a n = some x ∧ 1 ≤ x ∧ x ≤ n := by
  have h1 : -n < Int.tmod a n := by have := Int.lt_tmod_of_pos a (show 0 < n by omega); omega
  have h2 : Int.tmod a n < n := Int.tmod_lt_of_pos a (by omega)
  unfold laws_gridNumber.f
  rw [if_neg (by omega)]
  by_cases h : Int.tmod a n < 0
  · rw [if_pos h]
    refine ⟨_, rfl, ?_⟩
    unfold wrap64
    omega
  · rw [if_neg h]
    refine ⟨_, rfl, ?_⟩
    unfold wrap64
    omega
structure Good (rs : List S34) (m : Int) : Prop where
  each : ∀ e ∈ rs, 1 ≤ e.f0 ∧ e.f0 ≤ e.f1 ∧ e.f1 ≤ e.f0 + 3 ∧ e.f1 ≤ m
  apart : rs.Pairwise (fun a b => a.f1 < b.f0)
theorem lines_loop (l : List Int) : ∀ (d j : Nat) (acc : List S34) (m : Int), j + d = 6 → 0 ≤ m → m ≤ 7 * j → acc.length ≤ j → Good acc m → ∃ rs m', Ev (fun k => laws_refLines.l0 k l acc m ((2 * j : Nat) : Int)) rs ∧ rs.length ≤ 6 ∧ m' ≤ 42 ∧ Good rs m' := by
  intro d
  induction d with
  | zero =>
    intro j acc m hd h0 h1 hl hG
    refine ⟨acc, m, ?_, by omega, by omega, hG⟩
    have e : decide (((2 * j : Nat) : Int) < 12) = false := decide_eq_false (by omega)
    refine Ev.step (f := fun k => laws_refLines.j1 k l acc m ((2 * j : Nat) : Int) false) (fun k => ?_) ?_
    · rw [laws_refLines.l0, e, ite_self]
    · exact Ev.step (f := fun _ => some acc) (fun k => by rw [laws_refLines.j1, if_neg (by decide)]) (Ev.now _)
  | succ d ih =>
    intro j acc m hd h0 h1 hl hG
    by_cases h : (((2 * j + 1 : Nat) : Int)) < (l.length : Int)
    · obtain ⟨x, hx, x1, x2⟩ := gridNum (rd l ((2 * j : Nat) : Int)) 4 (by omega)
      obtain ⟨y, hy, y1, y2⟩ := gridNum (wrap64 (Int.tdiv (rd l ((2 * j + 1 : Nat) : Int)) 5)) 4 (by omega)
      obtain ⟨z, hz, z1, z2⟩ := gridNum (wrap64 (Int.tdiv (rd l ((2 * j + 1 : Nat) : Int)) 25)) 3 (by omega)
      obtain ⟨t, ht, t1, t2⟩ := gridNum (rd l ((2 * j + 1 : Nat) : Int)) 4 (by omega)
      have wa : wrap64 (m + x) = m + x := w64s (by omega) (by omega)
      have wb : wrap64 (m + x + t) = m + x + t := w64s (by omega) (by omega)
      have wc : wrap64 (m + x + t - 1) = m + x + t - 1 := w64s (by omega) (by omega)
      have wd : wrap64 (((2 * j : Nat) : Int) + 2) = ((2 * (j + 1) : Nat) : Int) := by rw [w64s (by omega) (by omega)]; omega
      have hw := w64n (2 * j) (by omega)
      have e : decide (((2 * j : Nat) : Int) < 12) = true := decide_eq_true (by omega)
      obtain ⟨rs, m', g, r1, r2, r3⟩ := ih (j + 1) (acc ++ [⟨m + x, m + x + t - 1, wrap64 (y - 1), wrap64 (z - 1), 0, ((Go.bits .and .i64 (rd l ((2 * j + 1 : Nat) : Int)) 1) == 1), false⟩]) (m + x + t - 1) (by omega) (by omega) (by omega) (by rw [List.length_append, List.length_singleton]; omega) ⟨fun q hq => by
        rcases List.mem_append.1 hq with hq | hq
        · have := hG.each q hq; omega
        · rw [List.mem_singleton.1 hq]; dsimp only; omega, List.pairwise_append.2 ⟨hG.apart, List.pairwise_singleton _ _, fun q hq v hv => by
          rw [List.mem_singleton.1 hv]
          have := hG.each q hq
          dsimp only
          omega⟩⟩
      refine ⟨rs, m', ?_, r1, r2, r3⟩
      refine Ev.step (f := fun k => laws_refLines.j1 k l acc m ((2 * j : Nat) : Int) true) (fun k => ?_) ?_
      · rw [laws_refLines.l0, hw, e, if_pos h]
      · refine Ev.step (fun k => ?_) g
        rw [laws_refLines.j1, if_pos rfl, if_pos (by omega), if_pos (by omega), hx, Option.bind_some, hw, if_pos (by omega), if_pos h, hy, Option.bind_some, hz, Option.bind_some, ht, Option.bind_some, if_pos (by omega), wa, wb, wc, wd]
    · refine ⟨acc, m, ?_, by omega, by omega, hG⟩
      refine Ev.step (f := fun k => laws_refLines.j1 k l acc m ((2 * j : Nat) : Int) false) (fun k => ?_) ?_
      · rw [laws_refLines.l0, w64n (2 * j) (by omega), if_neg h]
      · exact Ev.step (f := fun _ => some acc) (fun k => by rw [laws_refLines.j1, if_neg (by decide)]) (Ev.now _)
theorem live_ev : Ev (fun k => laws_refLinesLive.f k) true := Ev.of (k := 60) laws_refLinesLive.mono (by decide +kernel)
theorem law_loop (rs ys : List S34) (a n : Int) (hr : rs.length ≤ 1000) (hy : ys.length ≤ 1000) (hT : Told rs ys a n) : ∀ (d : Nat) (c : Int), 61 - c = d → 1 ≤ c → Ev (fun k => laws_FnLevel.l0 k rs a n ys c) true := by
  intro d
  induction d with
  | zero =>
    intro c hd hc
    refine Ev.step (fun k => by rw [laws_FnLevel.l0, if_neg (by omega)]) ?_
    exact Ev.bind live_ev (Ev.now _)
  | succ d ih =>
    intro c hd hc
    obtain ⟨t1, t2, t3⟩ := hT c
    have g := ih (c + 1) (by omega) (by omega)
    have hw : wrap64 (c + 1) = c + 1 := w64s (by omega) (by omega)
    refine Ev.step (fun k => by rw [laws_FnLevel.l0, if_pos (by omega)]) ?_
    refine Ev.bind (line_ev rs hr c) ?_
    refine Ev.bind (line_ev ys hy c) ?_
    refine Ev.congr (fun k => ?_) g
    by_cases h : a = c
    · rw [if_pos h] at t3
      rw [if_pos h, t1, t2, t3, bne_self_eq_false, if_neg (by decide), if_pos rfl, if_pos rfl, hw]
    · rw [if_neg h] at t3
      rw [if_neg h, t1, t2, t3, bne_self_eq_false, if_neg (by decide), if_pos rfl, if_pos rfl, hw]
theorem plain (l : List Int) (col level : Int) : ∃ k, laws_FnLevel.f k l col level = some true := by
  refine Ev.rounds (g := fun k => laws_FnLevel.f k l col level) ?_
  unfold laws_FnLevel.f
  by_cases h : (l.length : Int) > 2147483647
  · simp only [if_pos h]; exact Ev.now _
  simp only [if_neg h]
  obtain ⟨rs, m, g, r1, r2, r3⟩ := lines_loop l 6 0 [] 0 (by omega) (by omega) (by omega) (by decide) ⟨fun e h => by (cases h), List.Pairwise.nil⟩
  obtain ⟨a, ha, a1, a2⟩ := gridNum col 40 (by omega)
  obtain ⟨n, hn, n1, n2⟩ := gridNum level 7 (by omega)
  obtain ⟨ys, gy, y1, y2⟩ := level_ev rs a n ⟨a1, a2⟩ r1 (fun e he => by have := r3.each e he; omega) r3.apart
  refine Ev.bind (g := fun k => laws_refLines.f k l) g ?_
  refine Ev.congr (fun k => by rw [ha, Option.bind_some, hn, Option.bind_some, Option.bind_some, if_pos (by rw [List.length_nil]; omega), List.nil_append]) ?_
  refine Ev.bind gy ?_
  exact law_loop rs ys a n (by omega) y1 y2 60 1 (by omega) (by omega)

theorem law (a0 : Option Addr) (len0 cap0 : Nat) (z0 : List Int) (a1 a2 : Int) (w : World) (w0 : (a0 = none ∧ len0 = 0 ∧ cap0 = 0 ∧ z0 = []) ∨ ∃ x, a0 = some x ∧ len0 ≤ cap0 ∧ cap0 ≤ maxLen ∧ z0.length = cap0 ∧ (∀ i, i < z0.length → w.cell? (x.add i) = some (.int .i64 (z0.getD i 0))) ∧ ∀ n ∈ z0, (Lit.int .i64 n).wf = true) :
    Calls Try.prog 4 #[.slice a0 len0 cap0, .int .i64 a1, .int .i64 a2] w fun e w' => e = .returned (.bool true) ∧ Below w.heap.size w w' := by
  obtain ⟨l0, rfl, hr0, hm0, hw0, hc0⟩ := ReadsInt.ofRowC w0
  obtain ⟨k, h⟩ := plain l0 a1 a2
  exact laws_FnLevel.calls k _ _ l0 a1 a2 true w (Kd.C_of_reads (d := (0 : Int)) (h1 := fun _ => rfl) hr0) hc0 h
end Go.Proofs.Ytjefbpfpobgmaaa.EvLevel
