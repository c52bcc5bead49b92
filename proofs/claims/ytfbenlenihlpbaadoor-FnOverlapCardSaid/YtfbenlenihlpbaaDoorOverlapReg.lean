/- The region of the law FnOverlap that makes the two areas: two calls, two boxes, two stores in any order, by one fact that holds at every moment. -/
import Derived.Test.YtfbenlenihlpbaaDoorOverlapWalks
import Derived.KernelRfl
namespace Go.Proofs.YtfbenlenihlpbaaDoor.OverlapReg
open Go.RowKit Go.Proofs.YtfbenlenihlpbaaDoorW.PrintWords Go.Proofs.YtfbenlenihlpbaaDoorW.PrintLast Go.Proofs.YtfbenlenihlpbaaDoorW.PrintMore
open Go.Proofs.YtfbenlenihlpbaaDoor.Str Go.Proofs.YtfbenlenihlpbaaDoor.Tac Go.Proofs.YtfbenlenihlpbaaDoor.AreaWalks

section
variable {P : Program} {ops : Array Oper} {Q : Exit → Act → World → Prop} {md : Region.Mode}
theorem ready_false {l : Array Bool} {i : Nat} (h : i ∈ Region.ready md ops l) : l.getD i true = false := by
  have := (List.mem_filter.1 h).2
  rw [Bool.and_eq_true] at this
  simpa using this.1
theorem count_set {l : Array Bool} {i n : Nat} (h : l.getD i true = false) (hc : l.toList.count false ≤ n + 1) : (l.setIfInBounds i true).toList.count false ≤ n := by
  have hi : i < l.size := by
    rcases Nat.lt_or_ge i l.size with h1 | h1
    · exact h1
    · rw [Array.getD_eq_getD_getElem?, Array.getElem?_eq_none h1] at h
      exact Bool.noConfusion h
  have e : l[i] = false := by
    rw [Array.getD_eq_getD_getElem?, Array.getElem?_eq_getElem hi] at h
    exact h
  rw [Array.toList_setIfInBounds, List.count_set (by simpa using hi)]
  have h2 : (l.toList[i]'(by simpa using hi) == false) = true := by simpa using e
  rw [if_pos h2]
  show List.count false l.toList - 1 + 0 ≤ n
  omega
theorem wpAny_inv (I : Array Bool → Act → World → Prop) (step : ∀ l a w, I l a w → ∀ i ∈ Region.ready md ops l, wpOp P ops Q i (I (l.setIfInBounds i true)) a w)
    (hend : ∀ l a w, I l a w → Region.ready md ops l = [] → Q .normal a w) : ∀ (fuel : Nat) (l : Array Bool) (a : Act) (w : World), I l a w → l.toList.count false ≤ fuel → wpAny P md ops Q fuel l a w
  | 0, l, a, w, h, hc => by
    have hr : Region.ready md ops l = [] := by
      rcases hR : Region.ready md ops l with _ | ⟨i, r⟩
      · rfl
      · exfalso
        have h1 := ready_false (i := i) (by rw [hR]; exact List.mem_cons_self)
        rcases Nat.lt_or_ge i l.size with h2 | h2
        · rw [Array.getD_eq_getD_getElem?, Array.getElem?_eq_getElem h2] at h1
          have h3 : false ∈ l.toList := by
            rw [← (show l[i] = false from h1)]
            exact Array.mem_toList_iff.2 (Array.getElem_mem h2)
          exact absurd (List.count_pos_iff.2 h3) (by omega)
        · rw [Array.getD_eq_getD_getElem?, Array.getElem?_eq_none h2] at h1
          exact Bool.noConfusion h1
    exact ⟨hr, hend l a w h hr⟩
  | n + 1, l, a, w, h, hc => ⟨hend l a w h, fun i hi => wpOp_mono (fun a w h' => wpAny_inv I step hend n _ a w h' (count_set (ready_false hi) hc)) (step l a w h i hi)⟩
theorem wpOp_at {i : Nat} {o : Oper} {K : Act → World → Prop} {a : Act} {w : World} (ho : ops[i]? = some o) (hg : o.guard = none) (h : o.wp P a w K Q) : wpOp P ops Q i K a w := by
  unfold wpOp
  rw [ho]
  show if Region.wanted o (yielded ops a.tmps) = true then _ else _
  rw [if_pos (by unfold Region.wanted; rw [hg])]
  exact .inl h
theorem wp_val {o : Oper} {K : Act → World → Prop} {a : Act} {w w1 : World} {v : Value} (hrun : (execOp a.eval o).run P w = .ok (.value v) w1) (h : K (a.put o.dst v) w1) : o.wp P a w K Q := by
  unfold Oper.wp
  rw [hrun]
  exact h
theorem wp_skip {o : Oper} {K : Act → World → Prop} {a : Act} {w w1 : World} (hrun : (execOp a.eval o).run P w = .ok .skip w1) (h : K (a.put o.dst undef) w1) : o.wp P a w K Q := by
  unfold Oper.wp
  rw [hrun]
  exact h
theorem wp_call {o : Oper} {K : Act → World → Prop} {a : Act} {w : World} {f : FuncId} {args : Array Value} (hrun : (execOp a.eval o).run P w = .ok (.enter f args) w) (h : Calls P f args w fun e w' => ∃ v, e = .returned v ∧ K (a.put o.dst v) w') : o.wp P a w K Q := by
  unfold Oper.wp
  rw [hrun, Oper.upon_enter]
  exact h.mono fun e w' ⟨v, he, hk⟩ => by subst he; exact hk
end

noncomputable def ops : Array Oper := match Tryd.f4.body with
  | some (.seq _ (.seq (.region _ o _) _)) => o
  | _ => #[]
theorem size8 : ops.size = 8 := by kernel_rfl
abbrev L (b0 b1 b2 b3 b4 b5 b6 b7 : Bool) : Array Bool := #[b0, b1, b2, b3, b4, b5, b6, b7]
theorem rdy1 : ∀ b0 b1 b2 b3 b4 b5 b6 b7 : Bool, 1 ∈ Region.ready .any ops (L b0 b1 b2 b3 b4 b5 b6 b7) → b0 = true := by decide +kernel
theorem rdy3 : ∀ b0 b1 b2 b3 b4 b5 b6 b7 : Bool, 3 ∈ Region.ready .any ops (L b0 b1 b2 b3 b4 b5 b6 b7) → b2 = true := by decide +kernel
theorem rdy6 : ∀ b0 b1 b2 b3 b4 b5 b6 b7 : Bool, 6 ∈ Region.ready .any ops (L b0 b1 b2 b3 b4 b5 b6 b7) → b4 = true ∧ b1 = true := by decide +kernel
theorem rdy7 : ∀ b0 b1 b2 b3 b4 b5 b6 b7 : Bool, 7 ∈ Region.ready .any ops (L b0 b1 b2 b3 b4 b5 b6 b7) → b5 = true ∧ b3 = true := by decide +kernel
theorem rdyEnd : ∀ b0 b1 b2 b3 b4 b5 b6 b7 : Bool, Region.ready .any ops (L b0 b1 b2 b3 b4 b5 b6 b7) = [] → b4 = true ∧ b5 = true ∧ b6 = true ∧ b7 = true := by decide +kernel

theorem at0 : ∃ t p af, ops[0]? = some { dst := some 8, op := .load 22 (.tmp 2), type := t, pos := p, after := af, guard := none } := ⟨_, _, _, rfl⟩
theorem at1 : ∃ t p af, ops[1]? = some { dst := some 9, op := .call { callee := .value (.func 15), args := #[.tmp 8], argTypes := #[22] }, type := t, pos := p, after := af, guard := none } := ⟨_, _, _, rfl⟩
theorem at2 : ∃ t p af, ops[2]? = some { dst := some 10, op := .load 22 (.tmp 3), type := t, pos := p, after := af, guard := none } := ⟨_, _, _, rfl⟩
theorem at3 : ∃ t p af, ops[3]? = some { dst := some 11, op := .call { callee := .value (.func 15), args := #[.tmp 10], argTypes := #[22] }, type := t, pos := p, after := af, guard := none } := ⟨_, _, _, rfl⟩
theorem at4 : ∃ t p af, ops[4]? = some { dst := some 5, op := .alloc 22, type := t, pos := p, after := af, guard := none } := ⟨_, _, _, rfl⟩
theorem at5 : ∃ t p af, ops[5]? = some { dst := some 6, op := .alloc 22, type := t, pos := p, after := af, guard := none } := ⟨_, _, _, rfl⟩
theorem at6 : ∃ t p af, ops[6]? = some { dst := none, op := .store 22 (.tmp 5) (.tmp 9), type := t, pos := p, after := af, guard := none } := ⟨_, _, _, rfl⟩
theorem at7 : ∃ t p af, ops[7]? = some { dst := none, op := .store 22 (.tmp 6) (.tmp 11), type := t, pos := p, after := af, guard := none } := ⟨_, _, _, rfl⟩
abbrev F (A B : Value) (g : Nat) (v5 v6 v8 v9 v10 v11 : Value) : Act := ⟨#[A, B, .pointer (some ⟨g, 0, none⟩), .pointer (some ⟨g + 1, 0, none⟩), .bool false, v5, v6, undef, v8, v9, v10, v11, undef, undef, undef, undef, undef, undef, undef, undef, undef, undef, undef, undef, undef, undef, undef, undef, undef, undef, undef, undef, undef, undef, undef, undef, undef, undef, undef], []⟩
def Box (w0 w : World) (v : Value) (d : Bool) (x : Ar) : Prop := ∃ g p q r s, v = .pointer (some ⟨g, 0, none⟩) ∧ w.heap[g]? = some (AR p q r s) ∧ w0.heap.size ≤ g ∧ (d = true → p = x.c ∧ q = x.r ∧ r = x.d ∧ s = x.s)
theorem Box.below {w0 w w' : World} {v : Value} {d : Bool} {x : Ar} (h : Box w0 w v d x) (hb : Below w.heap.size w w') : Box w0 w' v d x := by
  obtain ⟨g, p, q, r, s, e, hg, h1, h2⟩ := h
  exact ⟨g, p, q, r, s, e, blk_below hg hb, h1, h2⟩
structure Inv (A B x y : Ar) (w0 : World) (b0 b1 b2 b3 b4 b5 b6 b7 : Bool) (v5 v6 v8 v9 v10 v11 : Value) (w : World) : Prop where
  hb : Below w0.heap.size w0 w
  h8 : b0 = true → v8 = A.v
  h9 : b1 = true → v9 = x.v
  h10 : b2 = true → v10 = B.v
  h11 : b3 = true → v11 = y.v
  h5 : b4 = true → Box w0 w v5 b6 x
  h6 : b5 = true → Box w0 w v6 b7 y
  hne : b4 = true → b5 = true → v5 ≠ v6
  s6 : b6 = true → b4 = true
  s7 : b7 = true → b5 = true
theorem Inv.world {A B x y : Ar} {w0 : World} {b0 b1 b2 b3 b4 b5 b6 b7 : Bool} {v5 v6 v8 v9 v10 v11 : Value} {w w' : World} (h : Inv A B x y w0 b0 b1 b2 b3 b4 b5 b6 b7 v5 v6 v8 v9 v10 v11 w) (k : Below w.heap.size w w') : Inv A B x y w0 b0 b1 b2 b3 b4 b5 b6 b7 v5 v6 v8 v9 v10 v11 w' :=
  { h with hb := below_step h.hb k, h5 := fun e => (h.h5 e).below k, h6 := fun e => (h.h6 e).below k }
theorem Box.lt {w0 w : World} {v : Value} {d : Bool} {x : Ar} (h : Box w0 w v d x) : v ≠ .pointer (some ⟨w.heap.size, 0, none⟩) := by
  obtain ⟨g, p, q, r, s, e, hg, h1, h2⟩ := h
  have := blk_lt hg
  intro e2
  rw [e] at e2
  injection e2 with e2
  injection e2 with e2
  injection e2 with e2
  omega
def I (A B x y : Ar) (g : Nat) (w0 : World) (l : Array Bool) (a : Act) (w : World) : Prop :=
  ∃ b0 b1 b2 b3 b4 b5 b6 b7 v5 v6 v8 v9 v10 v11, l = L b0 b1 b2 b3 b4 b5 b6 b7 ∧ a = F A.v B.v g v5 v6 v8 v9 v10 v11 ∧ Inv A B x y w0 b0 b1 b2 b3 b4 b5 b6 b7 v5 v6 v8 v9 v10 v11 w

theorem ne_of_ptr {g g' : Nat} (h : (Value.pointer (some ⟨g, 0, none⟩)) ≠ .pointer (some ⟨g', 0, none⟩)) : g ≠ g' := fun e => h (by rw [e])
set_option maxHeartbeats 4000000 in
set_option maxRecDepth 100000 in
theorem step (A B x y : Ar) (g : Nat) (w0 : World) (H1 : w0.heap[g]? = some (AR A.c A.r A.d A.s)) (H2 : w0.heap[g + 1]? = some (AR B.c B.r B.d B.s))
    (hx : ∀ w, Calls Tryd.prog 15 #[A.v] w fun e w' => e = .returned x.v ∧ Below w.heap.size w w') (hy : ∀ w, Calls Tryd.prog 15 #[B.v] w fun e w' => e = .returned y.v ∧ Below w.heap.size w w')
    (Q : Exit → Act → World → Prop) (l : Array Bool) (a : Act) (w : World) (h : I A B x y g w0 l a w) (i : Nat) (hi : i ∈ Region.ready .any ops l) : wpOp Tryd.prog ops Q i (I A B x y g w0 (l.setIfInBounds i true)) a w := by
  obtain ⟨b0, b1, b2, b3, b4, b5, b6, b7, v5, v6, v8, v9, v10, v11, rfl, rfl, h⟩ := h
  have h8 : i < 8 := by
    have := List.mem_range.1 (List.mem_filter.1 hi).1
    rwa [size8] at this
  obtain rfl | rfl | rfl | rfl | rfl | rfl | rfl | rfl : i = 0 ∨ i = 1 ∨ i = 2 ∨ i = 3 ∨ i = 4 ∨ i = 5 ∨ i = 6 ∨ i = 7 := by omega
  · obtain ⟨ty, po, af, ho⟩ := at0
    refine wpOp_at ho rfl ?_
    have hh := blk_below H1 h.hb
    refine wp_val (v := A.v) (w1 := w) ?_ ?_
    · have x0 : w.cell? ⟨g, 0, none⟩ = some (.int .i64 A.c) := blk_cell hh 0
      have x1 : w.cell? ⟨g, 1, none⟩ = some (.int .i64 A.r) := blk_cell hh 1
      have x2 : w.cell? ⟨g, 2, none⟩ = some (.int .i64 A.d) := blk_cell hh 2
      have x3 : w.cell? ⟨g, 3, none⟩ = some (.int .i64 A.s) := blk_cell hh 3
      first | (go_simp; done) | (go_simp; rfl)
    · exact ⟨true, b1, b2, b3, b4, b5, b6, b7, v5, v6, A.v, v9, v10, v11, rfl, rfl, { h with h8 := fun _ => rfl }⟩
  · have hr := rdy1 _ _ _ _ _ _ _ _ hi
    have e8 := h.h8 hr
    subst e8
    obtain ⟨ty, po, af, ho⟩ := at1
    refine wpOp_at ho rfl ?_
    refine wp_call (f := 15) (args := #[A.v]) (by first | (go_simp; done) | (go_simp; rfl)) ?_
    refine (hx w).mono ?_
    rintro e w' ⟨rfl, hb⟩
    exact ⟨_, rfl, b0, true, b2, b3, b4, b5, b6, b7, v5, v6, A.v, x.v, v10, v11, rfl, rfl, { h.world hb with h9 := fun _ => rfl }⟩
  · obtain ⟨ty, po, af, ho⟩ := at2
    refine wpOp_at ho rfl ?_
    have hh := blk_below H2 h.hb
    refine wp_val (v := B.v) (w1 := w) ?_ ?_
    · have x0 : w.cell? ⟨g + 1, 0, none⟩ = some (.int .i64 B.c) := blk_cell hh 0
      have x1 : w.cell? ⟨g + 1, 1, none⟩ = some (.int .i64 B.r) := blk_cell hh 1
      have x2 : w.cell? ⟨g + 1, 2, none⟩ = some (.int .i64 B.d) := blk_cell hh 2
      have x3 : w.cell? ⟨g + 1, 3, none⟩ = some (.int .i64 B.s) := blk_cell hh 3
      first | (go_simp; done) | (go_simp; rfl)
    · exact ⟨b0, b1, true, b3, b4, b5, b6, b7, v5, v6, v8, v9, B.v, v11, rfl, rfl, { h with h10 := fun _ => rfl }⟩
  · have hr := rdy3 _ _ _ _ _ _ _ _ hi
    have e10 := h.h10 hr
    subst e10
    obtain ⟨ty, po, af, ho⟩ := at3
    refine wpOp_at ho rfl ?_
    refine wp_call (f := 15) (args := #[B.v]) (by first | (go_simp; done) | (go_simp; rfl)) ?_
    refine (hy w).mono ?_
    rintro e w' ⟨rfl, hb⟩
    exact ⟨_, rfl, b0, b1, b2, true, b4, b5, b6, b7, v5, v6, v8, v9, B.v, y.v, rfl, rfl, { h.world hb with h11 := fun _ => rfl }⟩
  · obtain ⟨ty, po, af, ho⟩ := at4
    refine wpOp_at ho rfl ?_
    refine wp_val (v := .pointer (some ⟨w.heap.size, 0, none⟩)) (w1 := w.alloc (AR 0 0 0 0)) ?_ ?_
    · first | (go_simp; done) | (go_simp; rfl)
    · refine ⟨b0, b1, b2, b3, true, b5, b6, b7, _, v6, v8, v9, v10, v11, rfl, rfl, ?_⟩
      have k := h.world (below_alloc (Below.refl _ _) (AR 0 0 0 0))
      have h4 : b4 = false := ready_false hi
      have h6 : b6 = false := by
        cases hb6 : b6
        · rfl
        · rw [h.s6 hb6] at h4
          exact Bool.noConfusion h4
      subst h6
      exact { k with h5 := fun _ => ⟨_, _, _, _, _, rfl, blk_new _ _, h.hb.size, fun e => Bool.noConfusion e⟩, hne := fun _ e => ((h.h6 e).lt).symm, s6 := fun e => Bool.noConfusion e }
  · obtain ⟨ty, po, af, ho⟩ := at5
    refine wpOp_at ho rfl ?_
    refine wp_val (v := .pointer (some ⟨w.heap.size, 0, none⟩)) (w1 := w.alloc (AR 0 0 0 0)) ?_ ?_
    · first | (go_simp; done) | (go_simp; rfl)
    · refine ⟨b0, b1, b2, b3, b4, true, b6, b7, v5, _, v8, v9, v10, v11, rfl, rfl, ?_⟩
      have k := h.world (below_alloc (Below.refl _ _) (AR 0 0 0 0))
      have h4 : b5 = false := ready_false hi
      have h6 : b7 = false := by
        cases hb6 : b7
        · rfl
        · rw [h.s7 hb6] at h4
          exact Bool.noConfusion h4
      subst h6
      exact { k with h6 := fun _ => ⟨_, _, _, _, _, rfl, blk_new _ _, h.hb.size, fun e => Bool.noConfusion e⟩, hne := fun e _ => ((h.h5 e).lt), s7 := fun e => Bool.noConfusion e }
  · obtain ⟨q1, q2⟩ := rdy6 _ _ _ _ _ _ _ _ hi
    have ev := h.h9 q2
    subst ev
    obtain ⟨gx, p, q, r, s, rfl, b0_, hz, _⟩ := h.h5 q1
    obtain ⟨ty, po, af, ho⟩ := at6
    refine wpOp_at ho rfl ?_
    have f0 : w.cell? ⟨gx, 0, none⟩ = some (.int .i64 p) := blk_cell b0_ 0
    have z0 := blk_frozen b0_ 0
    have c1 : (w.setCell ⟨gx, 0, none⟩ (.int .i64 x.c)).heap[gx]? = some (AR x.c q r s) := blk_put b0_ 0 _ rfl
    have f1 := blk_cell c1 1
    have z1 := blk_frozen c1 1
    have c2 : ((w.setCell ⟨gx, 0, none⟩ (.int .i64 x.c)).setCell ⟨gx, 1, none⟩ (.int .i64 x.r)).heap[gx]? = some (AR x.c x.r r s) := blk_put c1 1 _ rfl
    have f2 := blk_cell c2 2
    have z2 := blk_frozen c2 2
    have c3 : (((w.setCell ⟨gx, 0, none⟩ (.int .i64 x.c)).setCell ⟨gx, 1, none⟩ (.int .i64 x.r)).setCell ⟨gx, 2, none⟩ (.int .i64 x.d)).heap[gx]? = some (AR x.c x.r x.d s) := blk_put c2 2 _ rfl
    have f3 := blk_cell c3 3
    have z3 := blk_frozen c3 3
    have c4 : ((((w.setCell ⟨gx, 0, none⟩ (.int .i64 x.c)).setCell ⟨gx, 1, none⟩ (.int .i64 x.r)).setCell ⟨gx, 2, none⟩ (.int .i64 x.d)).setCell ⟨gx, 3, none⟩ (.int .i64 x.s)).heap[gx]? = some (AR x.c x.r x.d x.s) := blk_put c3 3 _ rfl
    refine wp_skip (w1 := (((w.setCell ⟨gx, 0, none⟩ (.int .i64 x.c)).setCell ⟨gx, 1, none⟩ (.int .i64 x.r)).setCell ⟨gx, 2, none⟩ (.int .i64 x.d)).setCell ⟨gx, 3, none⟩ (.int .i64 x.s)) ?_ ?_
    · first | (go_simp; done) | (go_simp; rfl)
    · have nb : Below w0.heap.size w0 ((((w.setCell ⟨gx, 0, none⟩ (.int .i64 x.c)).setCell ⟨gx, 1, none⟩ (.int .i64 x.r)).setCell ⟨gx, 2, none⟩ (.int .i64 x.d)).setCell ⟨gx, 3, none⟩ (.int .i64 x.s)) := below_set (below_set (below_set (below_set h.hb hz) hz) hz) hz
      refine ⟨b0, b1, b2, b3, b4, b5, true, b7, _, _, v8, x.v, v10, v11, rfl, rfl, ?_⟩
      exact { h with hb := nb, h5 := fun _ => ⟨gx, _, _, _, _, rfl, c4, hz, fun _ => ⟨rfl, rfl, rfl, rfl⟩⟩, h6 := fun e => (by
        obtain ⟨go, p', q', r', s', e1, e2, e3, e4⟩ := h.h6 e
        have hn : go ≠ gx := (by
          intro e5
          subst e5
          exact h.hne q1 e e1.symm)
        exact ⟨go, p', q', r', s', e1, blk_far (blk_far (blk_far (blk_far e2 hn _) hn _) hn _) hn _, e3, e4⟩), s6 := fun _ => q1 }
  · obtain ⟨q1, q2⟩ := rdy7 _ _ _ _ _ _ _ _ hi
    have ev := h.h11 q2
    subst ev
    obtain ⟨gx, p, q, r, s, rfl, b0_, hz, _⟩ := h.h6 q1
    obtain ⟨ty, po, af, ho⟩ := at7
    refine wpOp_at ho rfl ?_
    have f0 : w.cell? ⟨gx, 0, none⟩ = some (.int .i64 p) := blk_cell b0_ 0
    have z0 := blk_frozen b0_ 0
    have c1 : (w.setCell ⟨gx, 0, none⟩ (.int .i64 y.c)).heap[gx]? = some (AR y.c q r s) := blk_put b0_ 0 _ rfl
    have f1 := blk_cell c1 1
    have z1 := blk_frozen c1 1
    have c2 : ((w.setCell ⟨gx, 0, none⟩ (.int .i64 y.c)).setCell ⟨gx, 1, none⟩ (.int .i64 y.r)).heap[gx]? = some (AR y.c y.r r s) := blk_put c1 1 _ rfl
    have f2 := blk_cell c2 2
    have z2 := blk_frozen c2 2
    have c3 : (((w.setCell ⟨gx, 0, none⟩ (.int .i64 y.c)).setCell ⟨gx, 1, none⟩ (.int .i64 y.r)).setCell ⟨gx, 2, none⟩ (.int .i64 y.d)).heap[gx]? = some (AR y.c y.r y.d s) := blk_put c2 2 _ rfl
    have f3 := blk_cell c3 3
    have z3 := blk_frozen c3 3
    have c4 : ((((w.setCell ⟨gx, 0, none⟩ (.int .i64 y.c)).setCell ⟨gx, 1, none⟩ (.int .i64 y.r)).setCell ⟨gx, 2, none⟩ (.int .i64 y.d)).setCell ⟨gx, 3, none⟩ (.int .i64 y.s)).heap[gx]? = some (AR y.c y.r y.d y.s) := blk_put c3 3 _ rfl
    refine wp_skip (w1 := (((w.setCell ⟨gx, 0, none⟩ (.int .i64 y.c)).setCell ⟨gx, 1, none⟩ (.int .i64 y.r)).setCell ⟨gx, 2, none⟩ (.int .i64 y.d)).setCell ⟨gx, 3, none⟩ (.int .i64 y.s)) ?_ ?_
    · first | (go_simp; done) | (go_simp; rfl)
    · have nb : Below w0.heap.size w0 ((((w.setCell ⟨gx, 0, none⟩ (.int .i64 y.c)).setCell ⟨gx, 1, none⟩ (.int .i64 y.r)).setCell ⟨gx, 2, none⟩ (.int .i64 y.d)).setCell ⟨gx, 3, none⟩ (.int .i64 y.s)) := below_set (below_set (below_set (below_set h.hb hz) hz) hz) hz
      refine ⟨b0, b1, b2, b3, b4, b5, b6, true, _, _, v8, v9, v10, y.v, rfl, rfl, ?_⟩
      exact { h with hb := nb, h6 := fun _ => ⟨gx, _, _, _, _, rfl, c4, hz, fun _ => ⟨rfl, rfl, rfl, rfl⟩⟩, h5 := fun e => (by
        obtain ⟨go, p', q', r', s', e1, e2, e3, e4⟩ := h.h5 e
        have hn : go ≠ gx := (by
          intro e5
          subst e5
          exact h.hne e q1 e1)
        exact ⟨go, p', q', r', s', e1, blk_far (blk_far (blk_far (blk_far e2 hn _) hn _) hn _) hn _, e3, e4⟩), s7 := fun _ => q1 }

set_option maxHeartbeats 4000000 in
set_option maxRecDepth 100000 in
theorem region1 (A B x y : Ar) (g : Nat) (w0 : World) (H1 : w0.heap[g]? = some (AR A.c A.r A.d A.s)) (H2 : w0.heap[g + 1]? = some (AR B.c B.r B.d B.s))
    (hx : ∀ w, Calls Tryd.prog 15 #[A.v] w fun e w' => e = .returned x.v ∧ Below w.heap.size w w') (hy : ∀ w, Calls Tryd.prog 15 #[B.v] w fun e w' => e = .returned y.v ∧ Below w.heap.size w w')
    (Q : Exit → Act → World → Prop) {id : Nat}
    (hQ : ∀ gx gy v8 v9 v10 v11 w, w.heap[gx]? = some (AR x.c x.r x.d x.s) → w.heap[gy]? = some (AR y.c y.r y.d y.s) → Below w0.heap.size w0 w → Q .normal (F A.v B.v g (.pointer (some ⟨gx, 0, none⟩)) (.pointer (some ⟨gy, 0, none⟩)) v8 v9 v10 v11) w) :
    (Code.region id ops true).wp Tryd.prog Q (F A.v B.v g undef undef undef undef undef undef) w0 := by
  refine wp_region_any (by kernel_rfl) ?_
  refine wpAny_inv (I A B x y g w0) (step A B x y g w0 H1 H2 hx hy Q) ?_ _ _ _ _ ?_ ?_
  · rintro l a w ⟨b0, b1, b2, b3, b4, b5, b6, b7, v5, v6, v8, v9, v10, v11, rfl, rfl, h⟩ hr
    obtain ⟨rfl, rfl, rfl, rfl⟩ := rdyEnd _ _ _ _ _ _ _ _ hr
    obtain ⟨gx, p, q, r, s, rfl, h1, _, h2⟩ := h.h5 rfl
    obtain ⟨rfl, rfl, rfl, rfl⟩ := h2 rfl
    obtain ⟨gy, p, q, r, s, rfl, h3, _, h4⟩ := h.h6 rfl
    obtain ⟨rfl, rfl, rfl, rfl⟩ := h4 rfl
    exact hQ gx gy v8 v9 v10 v11 w h1 h3 h.hb
  · refine ⟨false, false, false, false, false, false, false, false, undef, undef, undef, undef, undef, undef, ?_, rfl, ?_⟩
    · rw [size8]
      rfl
    · exact { hb := ⟨rfl, rfl, rfl, Nat.le_refl _, fun _ _ => rfl⟩, h8 := fun e => Bool.noConfusion e, h9 := fun e => Bool.noConfusion e, h10 := fun e => Bool.noConfusion e, h11 := fun e => Bool.noConfusion e, h5 := fun e => Bool.noConfusion e, h6 := fun e => Bool.noConfusion e, hne := fun e => Bool.noConfusion e, s6 := fun e => Bool.noConfusion e, s7 := fun e => Bool.noConfusion e }
  · rw [size8]
    decide
end Go.Proofs.YtfbenlenihlpbaaDoor.OverlapReg
