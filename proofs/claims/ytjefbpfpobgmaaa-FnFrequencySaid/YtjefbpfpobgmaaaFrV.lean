/- FnFrequency, the region of FREQUENCY that takes the two arguments out of the list: two calls, two boxes, two stores in many orders, by one fact that holds at every moment. No conditions. -/
import Derived.Test.YtjefbpfpobgmaaaFrU
import Derived.Test.YtjefbpfpobgmaaaFrQ
import Derived.Test.YtjefbpfpobgmaaaWTab
namespace Go.Proofs.Ytjefbpfpobgmaaa.FrV
open Go.RowKit Go.Proofs.YtjefbpfpobgmaaaW.PrintWords Go.Proofs.YtjefbpfpobgmaaaW.PrintLast Go.Proofs.YtjefbpfpobgmaaaW.PrintMore Go.Proofs.Ytjefbpfpobgmaaa.FrA Go.Proofs.Ytjefbpfpobgmaaa.FrB Go.Proofs.Ytjefbpfpobgmaaa.FrK Go.Proofs.Ytjefbpfpobgmaaa.FrQ Go.Proofs.Ytjefbpfpobgmaaa.FrS
set_option linter.unusedVariables false
set_option linter.unusedSimpArgs false
attribute [local go_sem] Flt.run_store_float
section
variable {P : Program} {ops : Array Oper} {Q : Exit → Act → World → Prop} {md : Region.Mode}
theorem ready_false {l : Array Bool} {i : Nat} (h : i ∈ Region.ready md ops l) : l.getD i true = false := by
  have := (List.mem_filter.1 h).2
  rw [Bool.and_eq_true] at this
  simpa using this.1
theorem count_set {l : Array Bool} {i n : Nat} (h : l.getD i true = false) (hc : l.toList.count false ≤ n + 1) : (l.setIfInBounds i true).toList.count false ≤ n := by
  have hi : i < l.size := by
    rcases Nat.lt_or_ge i l.size with h1 | h1
    · exact h1
    · rw [Array.getD_eq_getD_getElem?, Array.getElem?_eq_none h1] at h
      exact Bool.noConfusion h
  have e : l[i] = false := by
    rw [Array.getD_eq_getD_getElem?, Array.getElem?_eq_getElem hi] at h
    exact h
  rw [Array.toList_setIfInBounds, List.count_set (by simpa using hi)]
  have h2 : (l.toList[i]'(by simpa using hi) == false) = true := by simpa using e
  rw [if_pos h2]
  show List.count false l.toList - 1 + 0 ≤ n
  omega
theorem wpAny_inv (I : Array Bool → Act → World → Prop) (step : ∀ l a w, I l a w → ∀ i ∈ Region.ready md ops l, wpOp P ops Q i (I (l.setIfInBounds i true)) a w)
    (hend : ∀ l a w, I l a w → Region.ready md ops l = [] → Q .normal a w) : ∀ (fuel : Nat) (l : Array Bool) (a : Act) (w : World), I l a w → l.toList.count false ≤ fuel → wpAny P md ops Q fuel l a w
  | 0, l, a, w, h, hc => by
    have hr : Region.ready md ops l = [] := by
      rcases hR : Region.ready md ops l with _ | ⟨i, r⟩
      · rfl
      · exfalso
        have h1 := ready_false (i := i) (by rw [hR]; exact List.mem_cons_self)
        rcases Nat.lt_or_ge i l.size with h2 | h2
        · rw [Array.getD_eq_getD_getElem?, Array.getElem?_eq_getElem h2] at h1
          have h3 : false ∈ l.toList := by
            rw [← (show l[i] = false from h1)]
            exact Array.mem_toList_iff.2 (Array.getElem_mem h2)
          exact absurd (List.count_pos_iff.2 h3) (by omega)
        · rw [Array.getD_eq_getD_getElem?, Array.getElem?_eq_none h2] at h1
          exact Bool.noConfusion h1
    exact ⟨hr, hend l a w h hr⟩
  | n + 1, l, a, w, h, hc => ⟨hend l a w h, fun i hi => wpOp_mono (fun a w h' => wpAny_inv I step hend n _ a w h' (count_set (ready_false hi) hc)) (step l a w h i hi)⟩
theorem wpOp_at {i : Nat} {o : Oper} {K : Act → World → Prop} {a : Act} {w : World} (ho : ops[i]? = some o) (hg : o.guard = none) (h : o.wp P a w K Q) : wpOp P ops Q i K a w := by
  unfold wpOp
  rw [ho]
  show if Region.wanted o (yielded ops a.tmps) = true then _ else _
  rw [if_pos (by unfold Region.wanted; rw [hg])]
  exact .inl h
theorem wp_val {o : Oper} {K : Act → World → Prop} {a : Act} {w w1 : World} {v : Value} (hrun : (execOp a.eval o).run P w = .ok (.value v) w1) (h : K (a.put o.dst v) w1) : o.wp P a w K Q := by
  unfold Oper.wp
  rw [hrun]
  exact h
theorem wp_skip {o : Oper} {K : Act → World → Prop} {a : Act} {w w1 : World} (hrun : (execOp a.eval o).run P w = .ok .skip w1) (h : K (a.put o.dst undef) w1) : o.wp P a w K Q := by
  unfold Oper.wp
  rw [hrun]
  exact h
theorem wp_call {o : Oper} {K : Act → World → Prop} {a : Act} {w : World} {f : FuncId} {args : Array Value} (hrun : (execOp a.eval o).run P w = .ok (.enter f args) w) (h : Calls P f args w fun e w' => ∃ v, e = .returned v ∧ K (a.put o.dst v) w') : o.wp P a w K Q := by
  unfold Oper.wp
  rw [hrun, Oper.upon_enter]
  exact h.mono fun e w' ⟨v, he, hk⟩ => by subst he; exact hk
end

noncomputable def ops : Array Oper := match Try.f41.body with
  | some (.seq _ (.seq _ (.seq (.region _ o _) _))) => o
  | _ => #[]
theorem size16 : ops.size = 16 := by kernel_rfl
abbrev L (b0 b1 b2 b3 b4 b5 b6 b7 b8 b9 b10 b11 b12 b13 b14 b15 : Bool) : Array Bool := #[b0, b1, b2, b3, b4, b5, b6, b7, b8, b9, b10, b11, b12, b13, b14, b15]
noncomputable def T : Bool × List (List Nat × List Nat) := rtab .any ops
theorem rdy {b0 b1 b2 b3 b4 b5 b6 b7 b8 b9 b10 b11 b12 b13 b14 b15 : Bool} {i : Nat} (h : i ∈ Region.ready .any ops (L b0 b1 b2 b3 b4 b5 b6 b7 b8 b9 b10 b11 b12 b13 b14 b15)) : readyAt T.2 [b0, b1, b2, b3, b4, b5, b6, b7, b8, b9, b10, b11, b12, b13, b14, b15] i = true := by
  rw [ready_eq] at h
  exact (List.mem_filter.1 h).2
theorem need_of {T : List (List Nat × List Nat)} {l : List Bool} {i j : Nat} (h : readyAt T l i = true) (hj : (match T[i]? with | some r => r.1.contains j | none => false) = true) : l.getD j false = true := by
  unfold readyAt at h
  rw [Bool.and_eq_true] at h
  cases hq : T[i]? with
  | none => rw [hq] at hj; cases hj
  | some r =>
    rw [hq] at h hj
    exact List.all_eq_true.1 h.2 j (by simpa using hj)
theorem rdy1 {b0 b1 b2 b3 b4 b5 b6 b7 b8 b9 b10 b11 b12 b13 b14 b15 : Bool} (h : 1 ∈ Region.ready .any ops (L b0 b1 b2 b3 b4 b5 b6 b7 b8 b9 b10 b11 b12 b13 b14 b15)) : b0 = true := need_of (j := 0) (rdy h) (by kernel_rfl)
theorem rdy2 {b0 b1 b2 b3 b4 b5 b6 b7 b8 b9 b10 b11 b12 b13 b14 b15 : Bool} (h : 2 ∈ Region.ready .any ops (L b0 b1 b2 b3 b4 b5 b6 b7 b8 b9 b10 b11 b12 b13 b14 b15)) : b1 = true := need_of (j := 1) (rdy h) (by kernel_rfl)
theorem rdy3 {b0 b1 b2 b3 b4 b5 b6 b7 b8 b9 b10 b11 b12 b13 b14 b15 : Bool} (h : 3 ∈ Region.ready .any ops (L b0 b1 b2 b3 b4 b5 b6 b7 b8 b9 b10 b11 b12 b13 b14 b15)) : b2 = true := need_of (j := 2) (rdy h) (by kernel_rfl)
theorem rdy4 {b0 b1 b2 b3 b4 b5 b6 b7 b8 b9 b10 b11 b12 b13 b14 b15 : Bool} (h : 4 ∈ Region.ready .any ops (L b0 b1 b2 b3 b4 b5 b6 b7 b8 b9 b10 b11 b12 b13 b14 b15)) : b3 = true := need_of (j := 3) (rdy h) (by kernel_rfl)
theorem rdy5 {b0 b1 b2 b3 b4 b5 b6 b7 b8 b9 b10 b11 b12 b13 b14 b15 : Bool} (h : 5 ∈ Region.ready .any ops (L b0 b1 b2 b3 b4 b5 b6 b7 b8 b9 b10 b11 b12 b13 b14 b15)) : b4 = true := need_of (j := 4) (rdy h) (by kernel_rfl)
theorem rdy7 {b0 b1 b2 b3 b4 b5 b6 b7 b8 b9 b10 b11 b12 b13 b14 b15 : Bool} (h : 7 ∈ Region.ready .any ops (L b0 b1 b2 b3 b4 b5 b6 b7 b8 b9 b10 b11 b12 b13 b14 b15)) : b6 = true := need_of (j := 6) (rdy h) (by kernel_rfl)
theorem rdy8 {b0 b1 b2 b3 b4 b5 b6 b7 b8 b9 b10 b11 b12 b13 b14 b15 : Bool} (h : 8 ∈ Region.ready .any ops (L b0 b1 b2 b3 b4 b5 b6 b7 b8 b9 b10 b11 b12 b13 b14 b15)) : b7 = true := need_of (j := 7) (rdy h) (by kernel_rfl)
theorem rdy9 {b0 b1 b2 b3 b4 b5 b6 b7 b8 b9 b10 b11 b12 b13 b14 b15 : Bool} (h : 9 ∈ Region.ready .any ops (L b0 b1 b2 b3 b4 b5 b6 b7 b8 b9 b10 b11 b12 b13 b14 b15)) : b8 = true := need_of (j := 8) (rdy h) (by kernel_rfl)
theorem rdy10 {b0 b1 b2 b3 b4 b5 b6 b7 b8 b9 b10 b11 b12 b13 b14 b15 : Bool} (h : 10 ∈ Region.ready .any ops (L b0 b1 b2 b3 b4 b5 b6 b7 b8 b9 b10 b11 b12 b13 b14 b15)) : b9 = true := need_of (j := 9) (rdy h) (by kernel_rfl)
theorem rdy11 {b0 b1 b2 b3 b4 b5 b6 b7 b8 b9 b10 b11 b12 b13 b14 b15 : Bool} (h : 11 ∈ Region.ready .any ops (L b0 b1 b2 b3 b4 b5 b6 b7 b8 b9 b10 b11 b12 b13 b14 b15)) : b10 = true := need_of (j := 10) (rdy h) (by kernel_rfl)
theorem rdy14 {b0 b1 b2 b3 b4 b5 b6 b7 b8 b9 b10 b11 b12 b13 b14 b15 : Bool} (h : 14 ∈ Region.ready .any ops (L b0 b1 b2 b3 b4 b5 b6 b7 b8 b9 b10 b11 b12 b13 b14 b15)) : b12 = true ∧ b5 = true := ⟨need_of (j := 12) (rdy h) (by kernel_rfl), need_of (j := 5) (rdy h) (by kernel_rfl)⟩
theorem rdy15 {b0 b1 b2 b3 b4 b5 b6 b7 b8 b9 b10 b11 b12 b13 b14 b15 : Bool} (h : 15 ∈ Region.ready .any ops (L b0 b1 b2 b3 b4 b5 b6 b7 b8 b9 b10 b11 b12 b13 b14 b15)) : b13 = true ∧ b11 = true := ⟨need_of (j := 13) (rdy h) (by kernel_rfl), need_of (j := 11) (rdy h) (by kernel_rfl)⟩
theorem end_of {T : List (List Nat × List Nat)} {l : List Bool} (h : readyT T l = []) (i : Nat) (hl : decide (i < l.length) = true) (hi : decide (i < T.length) = true) (ha : (match T[i]? with | some r => r.1.all (fun j => l.getD j false) | none => false) = true) : l.getD i false = true := by
  cases hb : l.getD i false with
  | true => rfl
  | false =>
    have hm : i ∈ readyT T l := by
      unfold readyT
      rw [List.mem_filter, List.mem_range]
      refine ⟨of_decide_eq_true hi, ?_⟩
      unfold readyAt
      have hb2 : l.getD i true = false := by
        have h1 : i < l.length := of_decide_eq_true hl
        rw [List.getD_eq_getElem?_getD, List.getElem?_eq_getElem h1] at hb ⊢
        exact hb
      rw [hb2]
      cases hq : T[i]? with
      | none => rw [hq] at ha; cases ha
      | some r => rw [hq] at ha; simpa using ha
    rw [h] at hm
    cases hm
theorem rdyEnd {b0 b1 b2 b3 b4 b5 b6 b7 b8 b9 b10 b11 b12 b13 b14 b15 : Bool} (h : Region.ready .any ops (L b0 b1 b2 b3 b4 b5 b6 b7 b8 b9 b10 b11 b12 b13 b14 b15) = []) : b0 = true ∧ b1 = true ∧ b2 = true ∧ b3 = true ∧ b4 = true ∧ b5 = true ∧ b6 = true ∧ b7 = true ∧ b8 = true ∧ b9 = true ∧ b10 = true ∧ b11 = true ∧ b12 = true ∧ b13 = true ∧ b14 = true ∧ b15 = true := by
  rw [ready_eq] at h
  have e0 : b0 = true := end_of h 0 rfl (by kernel_rfl) (by kernel_rfl)
  subst e0
  have e1 : b1 = true := end_of h 1 rfl (by kernel_rfl) (by kernel_rfl)
  subst e1
  have e2 : b2 = true := end_of h 2 rfl (by kernel_rfl) (by kernel_rfl)
  subst e2
  have e3 : b3 = true := end_of h 3 rfl (by kernel_rfl) (by kernel_rfl)
  subst e3
  have e4 : b4 = true := end_of h 4 rfl (by kernel_rfl) (by kernel_rfl)
  subst e4
  have e5 : b5 = true := end_of h 5 rfl (by kernel_rfl) (by kernel_rfl)
  subst e5
  have e6 : b6 = true := end_of h 6 rfl (by kernel_rfl) (by kernel_rfl)
  subst e6
  have e7 : b7 = true := end_of h 7 rfl (by kernel_rfl) (by kernel_rfl)
  subst e7
  have e8 : b8 = true := end_of h 8 rfl (by kernel_rfl) (by kernel_rfl)
  subst e8
  have e9 : b9 = true := end_of h 9 rfl (by kernel_rfl) (by kernel_rfl)
  subst e9
  have e10 : b10 = true := end_of h 10 rfl (by kernel_rfl) (by kernel_rfl)
  subst e10
  have e11 : b11 = true := end_of h 11 rfl (by kernel_rfl) (by kernel_rfl)
  subst e11
  have e12 : b12 = true := end_of h 12 rfl (by kernel_rfl) (by kernel_rfl)
  subst e12
  have e13 : b13 = true := end_of h 13 rfl (by kernel_rfl) (by kernel_rfl)
  subst e13
  have e14 : b14 = true := end_of h 14 rfl (by kernel_rfl) (by kernel_rfl)
  subst e14
  have e15 : b15 = true := end_of h 15 rfl (by kernel_rfl) (by kernel_rfl)
  subst e15
  exact ⟨rfl, rfl, rfl, rfl, rfl, rfl, rfl, rfl, rfl, rfl, rfl, rfl, rfl, rfl, rfl, rfl⟩
theorem at0 : ∃ t p af, ops[0]? = some { dst := some 18, op := .move (.tmp 1), type := t, pos := p, after := af, guard := none } := ⟨_, _, _, rfl⟩
theorem at1 : ∃ t p af, ops[1]? = some { dst := some 19, op := .call { callee := .value (.func 50), args := #[.tmp 18], argTypes := #[94] }, type := t, pos := p, after := af, guard := none } := ⟨_, _, _, rfl⟩
theorem at2 : ∃ t p af, ops[2]? = some { dst := some 20, op := .nilCheck (.tmp 19), type := t, pos := p, after := af, guard := none } := ⟨_, _, _, rfl⟩
theorem at3 : ∃ t p af, ops[3]? = some { dst := some 21, op := .fieldAddr 116 (.tmp 20) 3, type := t, pos := p, after := af, guard := none } := ⟨_, _, _, rfl⟩
theorem at4 : ∃ t p af, ops[4]? = some { dst := some 22, op := .load 20 (.tmp 21), type := t, pos := p, after := af, guard := none } := ⟨_, _, _, rfl⟩
theorem at5 : ∃ t p af, ops[5]? = some { dst := some 23, op := .typeAssert (.tmp 22) 20 96 false, type := t, pos := p, after := af, guard := none } := ⟨_, _, _, rfl⟩
theorem at6 : ∃ t p af, ops[6]? = some { dst := some 24, op := .move (.tmp 1), type := t, pos := p, after := af, guard := none } := ⟨_, _, _, rfl⟩
theorem at7 : ∃ t p af, ops[7]? = some { dst := some 25, op := .call { callee := .value (.func 51), args := #[.tmp 24], argTypes := #[94] }, type := t, pos := p, after := af, guard := none } := ⟨_, _, _, rfl⟩
theorem at8 : ∃ t p af, ops[8]? = some { dst := some 26, op := .nilCheck (.tmp 25), type := t, pos := p, after := af, guard := none } := ⟨_, _, _, rfl⟩
theorem at9 : ∃ t p af, ops[9]? = some { dst := some 27, op := .fieldAddr 116 (.tmp 26) 3, type := t, pos := p, after := af, guard := none } := ⟨_, _, _, rfl⟩
theorem at10 : ∃ t p af, ops[10]? = some { dst := some 28, op := .load 20 (.tmp 27), type := t, pos := p, after := af, guard := none } := ⟨_, _, _, rfl⟩
theorem at11 : ∃ t p af, ops[11]? = some { dst := some 29, op := .typeAssert (.tmp 28) 20 96 false, type := t, pos := p, after := af, guard := none } := ⟨_, _, _, rfl⟩
theorem at12 : ∃ t p af, ops[12]? = some { dst := some 5, op := .alloc 96, type := t, pos := p, after := af, guard := none } := ⟨_, _, _, rfl⟩
theorem at13 : ∃ t p af, ops[13]? = some { dst := some 6, op := .alloc 96, type := t, pos := p, after := af, guard := none } := ⟨_, _, _, rfl⟩
theorem at14 : ∃ t p af, ops[14]? = some { dst := none, op := .store 96 (.tmp 5) (.tmp 23), type := t, pos := p, after := af, guard := none } := ⟨_, _, _, rfl⟩
theorem at15 : ∃ t p af, ops[15]? = some { dst := none, op := .store 96 (.tmp 6) (.tmp 29), type := t, pos := p, after := af, guard := none } := ⟨_, _, _, rfl⟩
abbrev F (fn l r : Nat) (v5 v6 v18 v19 v20 v21 v22 v23 v24 v25 v26 v27 v28 v29 : Value) : Act := ⟨#[.pointer (some ⟨fn, 0, none⟩), .pointer (some ⟨l, 0, none⟩), undef, undef, .pointer (some ⟨r, 0, none⟩), v5, v6, undef, undef, undef, undef, undef, undef, undef, .pointer (some ⟨l, 0, none⟩), .int .i64 2, .bool false, undef, v18, v19, v20, v21, v22, v23, v24, v25, v26, v27, v28, v29, undef, undef, undef, undef, undef, undef, undef, undef, undef, undef, undef, undef, undef, undef, undef, undef, undef, undef, undef, undef, undef, undef, undef, undef, undef, undef, undef, undef, undef, undef, undef, undef, undef, undef, undef, undef, undef, undef, undef, undef, undef, undef, undef, undef, undef, undef, undef, undef, undef, undef, undef, undef, undef, undef, undef, undef, undef, undef, undef, undef, undef, undef, undef, undef, undef, undef, undef, undef, undef, undef, undef, undef, undef, undef, undef, undef, undef, undef, undef, undef, undef, undef, undef, undef, undef, undef, undef, undef, undef, undef], []⟩
def Box (w0 w : World) (v : Value) (d : Bool) (x : Array Value) : Prop := ∃ g cs, v = .pointer (some ⟨g, 0, none⟩) ∧ w.heap[g]? = some (.cells cs 96 (0, 0)) ∧ w0.heap.size ≤ g ∧ (d = true → cs = x) ∧ (d = false → cs = #[.string ⟨#[]⟩, .float .f64 0, .string ⟨#[]⟩, .slice none 0 0, .slice none 0 0, .bool false, .string ⟨#[]⟩, .int .u8 0, .pointer none, .pointer none])
theorem Box.below {w0 w w' : World} {v : Value} {d : Bool} {x : Array Value} (h : Box w0 w v d x) (hb : Below w.heap.size w w') : Box w0 w' v d x := by
  obtain ⟨g, cs, e, hg, h1, h2, h3⟩ := h
  exact ⟨g, cs, e, blk_below hg hb, h1, h2, h3⟩
theorem Box.lt {w0 w : World} {v : Value} {d : Bool} {x : Array Value} (h : Box w0 w v d x) : v ≠ .pointer (some ⟨w.heap.size, 0, none⟩) := by
  obtain ⟨g, cs, e, hg, h1, h2⟩ := h
  have := blk_lt hg
  intro e2
  rw [e] at e2
  injection e2 with e2
  injection e2 with e2
  injection e2 with e2
  omega
theorem ne_of_ptr {g g' : Nat} (h : (Value.pointer (some ⟨g, 0, none⟩)) ≠ .pointer (some ⟨g', 0, none⟩)) : g ≠ g' := fun e => h (by rw [e])
structure Inv (fn l f h r : Nat) (A1 A2 : Option Addr) (n1 c1 n2 c2 : Nat) (p1 q1 p2 q2 : Option Addr) (w0 : World) (b0 b1 b2 b3 b4 b5 b6 b7 b8 b9 b10 b11 b12 b13 b14 b15 : Bool) (v5 v6 v18 v19 v20 v21 v22 v23 v24 v25 v26 v27 v28 v29 : Value) (w : World) : Prop where
  hb : Below w0.heap.size w0 w
  h0 : b0 = true → v18 = .pointer (some ⟨l, 0, none⟩)
  h1 : b1 = true → v19 = .pointer (some ⟨f, 0, none⟩)
  h2 : b2 = true → v20 = .pointer (some ⟨f, 0, none⟩)
  h3 : b3 = true → v21 = .pointer (some ⟨f, 3, none⟩)
  h4 : b4 = true → v22 = .iface 96 (.agg (argC (.slice A1 n1 c1) p1 q1))
  h5 : b5 = true → v23 = .agg (argC (.slice A1 n1 c1) p1 q1)
  h6 : b6 = true → v24 = .pointer (some ⟨l, 0, none⟩)
  h7 : b7 = true → v25 = .pointer (some ⟨h, 0, none⟩)
  h8 : b8 = true → v26 = .pointer (some ⟨h, 0, none⟩)
  h9 : b9 = true → v27 = .pointer (some ⟨h, 3, none⟩)
  h10 : b10 = true → v28 = .iface 96 (.agg (argC (.slice A2 n2 c2) p2 q2))
  h11 : b11 = true → v29 = .agg (argC (.slice A2 n2 c2) p2 q2)
  k5 : b12 = true → Box w0 w v5 b14 (argC (.slice A1 n1 c1) p1 q1)
  k6 : b13 = true → Box w0 w v6 b15 (argC (.slice A2 n2 c2) p2 q2)
  hne : b12 = true → b13 = true → v5 ≠ v6
  s14 : b14 = true → b12 = true
  s15 : b15 = true → b13 = true
theorem Inv.world {fn l f h r : Nat} {A1 A2 : Option Addr} {n1 c1 n2 c2 : Nat} {p1 q1 p2 q2 : Option Addr} {w0 : World} {b0 b1 b2 b3 b4 b5 b6 b7 b8 b9 b10 b11 b12 b13 b14 b15 : Bool} {v5 v6 v18 v19 v20 v21 v22 v23 v24 v25 v26 v27 v28 v29 : Value} {w w' : World} (i : Inv fn l f h r A1 A2 n1 c1 n2 c2 p1 q1 p2 q2 w0 b0 b1 b2 b3 b4 b5 b6 b7 b8 b9 b10 b11 b12 b13 b14 b15 v5 v6 v18 v19 v20 v21 v22 v23 v24 v25 v26 v27 v28 v29 w) (k : Below w.heap.size w w') : Inv fn l f h r A1 A2 n1 c1 n2 c2 p1 q1 p2 q2 w0 b0 b1 b2 b3 b4 b5 b6 b7 b8 b9 b10 b11 b12 b13 b14 b15 v5 v6 v18 v19 v20 v21 v22 v23 v24 v25 v26 v27 v28 v29 w' :=
  { i with hb := below_step i.hb k, k5 := fun e => (i.k5 e).below k, k6 := fun e => (i.k6 e).below k }
def I (fn l f h r : Nat) (A1 A2 : Option Addr) (n1 c1 n2 c2 : Nat) (p1 q1 p2 q2 : Option Addr) (w0 : World) (ll : Array Bool) (a : Act) (w : World) : Prop :=
  ∃ b0 b1 b2 b3 b4 b5 b6 b7 b8 b9 b10 b11 b12 b13 b14 b15 v5 v6 v18 v19 v20 v21 v22 v23 v24 v25 v26 v27 v28 v29, ll = L b0 b1 b2 b3 b4 b5 b6 b7 b8 b9 b10 b11 b12 b13 b14 b15 ∧ a = F fn l r v5 v6 v18 v19 v20 v21 v22 v23 v24 v25 v26 v27 v28 v29 ∧ Inv fn l f h r A1 A2 n1 c1 n2 c2 p1 q1 p2 q2 w0 b0 b1 b2 b3 b4 b5 b6 b7 b8 b9 b10 b11 b12 b13 b14 b15 v5 v6 v18 v19 v20 v21 v22 v23 v24 v25 v26 v27 v28 v29 w
set_option maxHeartbeats 4000000 in
set_option maxRecDepth 100000 in
theorem step (fn l f h r : Nat) (A1 A2 : Option Addr) (n1 c1 n2 c2 : Nat) (p1 q1 p2 q2 : Option Addr) (w0 : World) (H1 : w0.heap[l]? = some (.cells #[.pointer (some ⟨f, 0, none⟩), .pointer (some ⟨h, 0, none⟩), .pointer none, .nilIface, .int .i64 2] 132 (0, 0)))
    (H2 : w0.heap[f]? = some (.cells #[.pointer (some ⟨h, 0, none⟩), .pointer (some ⟨l, 0, none⟩), .pointer (some ⟨l, 0, none⟩), .iface 96 (.agg (argC (.slice A1 n1 c1) p1 q1))] 116 (0, 0)))
    (H3 : w0.heap[h]? = some (.cells #[.pointer (some ⟨l, 0, none⟩), .pointer (some ⟨f, 0, none⟩), .pointer (some ⟨l, 0, none⟩), .iface 96 (.agg (argC (.slice A2 n2 c2) p2 q2))] 116 (0, 0)))
    (Q : Exit → Act → World → Prop) (ll : Array Bool) (a : Act) (w : World) (hI : I fn l f h r A1 A2 n1 c1 n2 c2 p1 q1 p2 q2 w0 ll a w) (i : Nat) (hi : i ∈ Region.ready .any ops ll) : wpOp Try.prog ops Q i (I fn l f h r A1 A2 n1 c1 n2 c2 p1 q1 p2 q2 w0 (ll.setIfInBounds i true)) a w := by
  obtain ⟨b0, b1, b2, b3, b4, b5, b6, b7, b8, b9, b10, b11, b12, b13, b14, b15, v5, v6, v18, v19, v20, v21, v22, v23, v24, v25, v26, v27, v28, v29, rfl, rfl, k⟩ := hI
  have h16 : i < 16 := by
    have := List.mem_range.1 (List.mem_filter.1 hi).1
    rwa [size16] at this
  obtain rfl | rfl | rfl | rfl | rfl | rfl | rfl | rfl | rfl | rfl | rfl | rfl | rfl | rfl | rfl | rfl : i = 0 ∨ i = 1 ∨ i = 2 ∨ i = 3 ∨ i = 4 ∨ i = 5 ∨ i = 6 ∨ i = 7 ∨ i = 8 ∨ i = 9 ∨ i = 10 ∨ i = 11 ∨ i = 12 ∨ i = 13 ∨ i = 14 ∨ i = 15 := by omega
  · obtain ⟨ty, po, af, ho⟩ := at0
    refine wpOp_at ho rfl ?_
    refine wp_val (v := .pointer (some ⟨l, 0, none⟩)) (w1 := w) (by first | (go_simp; done) | (go_simp; rfl)) ?_
    exact ⟨true, b1, b2, b3, b4, b5, b6, b7, b8, b9, b10, b11, b12, b13, b14, b15, v5, v6, .pointer (some ⟨l, 0, none⟩), v19, v20, v21, v22, v23, v24, v25, v26, v27, v28, v29, rfl, rfl, { k with h0 := fun _ => rfl }⟩
  · have hr := rdy1 hi
    have ev := k.h0 hr
    subst ev
    obtain ⟨ty, po, af, ho⟩ := at1
    refine wpOp_at ho rfl ?_
    refine wp_call (f := 50) (args := #[.pointer (some ⟨l, 0, none⟩)]) (by first | (go_simp; done) | (go_simp; rfl)) ?_
    refine (front l f h w (blk_below H1 k.hb)).mono ?_
    rintro e w' ⟨rfl, rfl⟩
    exact ⟨_, rfl, b0, true, b2, b3, b4, b5, b6, b7, b8, b9, b10, b11, b12, b13, b14, b15, v5, v6, .pointer (some ⟨l, 0, none⟩), .pointer (some ⟨f, 0, none⟩), v20, v21, v22, v23, v24, v25, v26, v27, v28, v29, rfl, rfl, { k with h1 := fun _ => rfl }⟩
  · have hr := rdy2 hi
    have ev := k.h1 hr
    subst ev
    obtain ⟨ty, po, af, ho⟩ := at2
    refine wpOp_at ho rfl ?_
    refine wp_val (v := .pointer (some ⟨f, 0, none⟩)) (w1 := w) (by first | (go_simp; done) | (go_simp; rfl)) ?_
    exact ⟨b0, b1, true, b3, b4, b5, b6, b7, b8, b9, b10, b11, b12, b13, b14, b15, v5, v6, v18, .pointer (some ⟨f, 0, none⟩), .pointer (some ⟨f, 0, none⟩), v21, v22, v23, v24, v25, v26, v27, v28, v29, rfl, rfl, { k with h2 := fun _ => rfl }⟩
  · have hr := rdy3 hi
    have ev := k.h2 hr
    subst ev
    obtain ⟨ty, po, af, ho⟩ := at3
    refine wpOp_at ho rfl ?_
    refine wp_val (v := .pointer (some ⟨f, 3, none⟩)) (w1 := w) (by first | (go_simp; done) | (go_simp; rfl)) ?_
    exact ⟨b0, b1, b2, true, b4, b5, b6, b7, b8, b9, b10, b11, b12, b13, b14, b15, v5, v6, v18, v19, .pointer (some ⟨f, 0, none⟩), .pointer (some ⟨f, 3, none⟩), v22, v23, v24, v25, v26, v27, v28, v29, rfl, rfl, { k with h3 := fun _ => rfl }⟩
  · have hr := rdy4 hi
    have ev := k.h3 hr
    subst ev
    obtain ⟨ty, po, af, ho⟩ := at4
    refine wpOp_at ho rfl ?_
    have hc : w.cell? ⟨f, 3, none⟩ = some (.iface 96 (.agg (argC (.slice A1 n1 c1) p1 q1))) := (blk_cell (blk_below H2 k.hb) 3).trans rfl
    refine wp_val (v := .iface 96 (.agg (argC (.slice A1 n1 c1) p1 q1))) (w1 := w) (by first | (go_simp; done) | (go_simp; rfl)) ?_
    exact ⟨b0, b1, b2, b3, true, b5, b6, b7, b8, b9, b10, b11, b12, b13, b14, b15, v5, v6, v18, v19, v20, .pointer (some ⟨f, 3, none⟩), .iface 96 (.agg (argC (.slice A1 n1 c1) p1 q1)), v23, v24, v25, v26, v27, v28, v29, rfl, rfl, { k with h4 := fun _ => rfl }⟩
  · have hr := rdy5 hi
    have ev := k.h4 hr
    subst ev
    obtain ⟨ty, po, af, ho⟩ := at5
    refine wpOp_at ho rfl ?_
    refine wp_val (v := .agg (argC (.slice A1 n1 c1) p1 q1)) (w1 := w) (by first | (go_simp; done) | (go_simp; rfl)) ?_
    exact ⟨b0, b1, b2, b3, b4, true, b6, b7, b8, b9, b10, b11, b12, b13, b14, b15, v5, v6, v18, v19, v20, v21, .iface 96 (.agg (argC (.slice A1 n1 c1) p1 q1)), .agg (argC (.slice A1 n1 c1) p1 q1), v24, v25, v26, v27, v28, v29, rfl, rfl, { k with h5 := fun _ => rfl }⟩
  · obtain ⟨ty, po, af, ho⟩ := at6
    refine wpOp_at ho rfl ?_
    refine wp_val (v := .pointer (some ⟨l, 0, none⟩)) (w1 := w) (by first | (go_simp; done) | (go_simp; rfl)) ?_
    exact ⟨b0, b1, b2, b3, b4, b5, true, b7, b8, b9, b10, b11, b12, b13, b14, b15, v5, v6, v18, v19, v20, v21, v22, v23, .pointer (some ⟨l, 0, none⟩), v25, v26, v27, v28, v29, rfl, rfl, { k with h6 := fun _ => rfl }⟩
  · have hr := rdy7 hi
    have ev := k.h6 hr
    subst ev
    obtain ⟨ty, po, af, ho⟩ := at7
    refine wpOp_at ho rfl ?_
    refine wp_call (f := 51) (args := #[.pointer (some ⟨l, 0, none⟩)]) (by first | (go_simp; done) | (go_simp; rfl)) ?_
    refine (back l f h w (blk_below H1 k.hb)).mono ?_
    rintro e w' ⟨rfl, rfl⟩
    exact ⟨_, rfl, b0, b1, b2, b3, b4, b5, b6, true, b8, b9, b10, b11, b12, b13, b14, b15, v5, v6, v18, v19, v20, v21, v22, v23, .pointer (some ⟨l, 0, none⟩), .pointer (some ⟨h, 0, none⟩), v26, v27, v28, v29, rfl, rfl, { k with h7 := fun _ => rfl }⟩
  · have hr := rdy8 hi
    have ev := k.h7 hr
    subst ev
    obtain ⟨ty, po, af, ho⟩ := at8
    refine wpOp_at ho rfl ?_
    refine wp_val (v := .pointer (some ⟨h, 0, none⟩)) (w1 := w) (by first | (go_simp; done) | (go_simp; rfl)) ?_
    exact ⟨b0, b1, b2, b3, b4, b5, b6, b7, true, b9, b10, b11, b12, b13, b14, b15, v5, v6, v18, v19, v20, v21, v22, v23, v24, .pointer (some ⟨h, 0, none⟩), .pointer (some ⟨h, 0, none⟩), v27, v28, v29, rfl, rfl, { k with h8 := fun _ => rfl }⟩
  · have hr := rdy9 hi
    have ev := k.h8 hr
    subst ev
    obtain ⟨ty, po, af, ho⟩ := at9
    refine wpOp_at ho rfl ?_
    refine wp_val (v := .pointer (some ⟨h, 3, none⟩)) (w1 := w) (by first | (go_simp; done) | (go_simp; rfl)) ?_
    exact ⟨b0, b1, b2, b3, b4, b5, b6, b7, b8, true, b10, b11, b12, b13, b14, b15, v5, v6, v18, v19, v20, v21, v22, v23, v24, v25, .pointer (some ⟨h, 0, none⟩), .pointer (some ⟨h, 3, none⟩), v28, v29, rfl, rfl, { k with h9 := fun _ => rfl }⟩
  · have hr := rdy10 hi
    have ev := k.h9 hr
    subst ev
    obtain ⟨ty, po, af, ho⟩ := at10
    refine wpOp_at ho rfl ?_
    have hc : w.cell? ⟨h, 3, none⟩ = some (.iface 96 (.agg (argC (.slice A2 n2 c2) p2 q2))) := (blk_cell (blk_below H3 k.hb) 3).trans rfl
    refine wp_val (v := .iface 96 (.agg (argC (.slice A2 n2 c2) p2 q2))) (w1 := w) (by first | (go_simp; done) | (go_simp; rfl)) ?_
    exact ⟨b0, b1, b2, b3, b4, b5, b6, b7, b8, b9, true, b11, b12, b13, b14, b15, v5, v6, v18, v19, v20, v21, v22, v23, v24, v25, v26, .pointer (some ⟨h, 3, none⟩), .iface 96 (.agg (argC (.slice A2 n2 c2) p2 q2)), v29, rfl, rfl, { k with h10 := fun _ => rfl }⟩
  · have hr := rdy11 hi
    have ev := k.h10 hr
    subst ev
    obtain ⟨ty, po, af, ho⟩ := at11
    refine wpOp_at ho rfl ?_
    refine wp_val (v := .agg (argC (.slice A2 n2 c2) p2 q2)) (w1 := w) (by first | (go_simp; done) | (go_simp; rfl)) ?_
    exact ⟨b0, b1, b2, b3, b4, b5, b6, b7, b8, b9, b10, true, b12, b13, b14, b15, v5, v6, v18, v19, v20, v21, v22, v23, v24, v25, v26, v27, .iface 96 (.agg (argC (.slice A2 n2 c2) p2 q2)), .agg (argC (.slice A2 n2 c2) p2 q2), rfl, rfl, { k with h11 := fun _ => rfl }⟩
  · obtain ⟨ty, po, af, ho⟩ := at12
    refine wpOp_at ho rfl ?_
    have kw := k.world (below_alloc (Below.refl _ _) (.cells #[.string ⟨#[]⟩, .float .f64 0, .string ⟨#[]⟩, .slice none 0 0, .slice none 0 0, .bool false, .string ⟨#[]⟩, .int .u8 0, .pointer none, .pointer none] 96))
    have h4 : b12 = false := ready_false hi
    have h6 : b14 = false := by
      cases hb6 : b14
      · rfl
      · rw [k.s14 hb6] at h4
        exact Bool.noConfusion h4
    subst h6
    refine wp_val (v := .pointer (some ⟨w.heap.size, 0, none⟩)) (w1 := w.alloc (.cells #[.string ⟨#[]⟩, .float .f64 0, .string ⟨#[]⟩, .slice none 0 0, .slice none 0 0, .bool false, .string ⟨#[]⟩, .int .u8 0, .pointer none, .pointer none] 96)) (by first | (go_simp; done) | (go_simp; rfl)) ?_
    exact ⟨b0, b1, b2, b3, b4, b5, b6, b7, b8, b9, b10, b11, true, b13, false, b15, .pointer (some ⟨w.heap.size, 0, none⟩), v6, v18, v19, v20, v21, v22, v23, v24, v25, v26, v27, v28, v29, rfl, rfl, { kw with k5 := fun _ => ⟨_, _, rfl, blk_new _ _, k.hb.size, fun e => Bool.noConfusion e, fun _ => rfl⟩, hne := fun _ e => ((k.k6 e).lt).symm, s14 := fun e => Bool.noConfusion e }⟩
  · obtain ⟨ty, po, af, ho⟩ := at13
    refine wpOp_at ho rfl ?_
    have kw := k.world (below_alloc (Below.refl _ _) (.cells #[.string ⟨#[]⟩, .float .f64 0, .string ⟨#[]⟩, .slice none 0 0, .slice none 0 0, .bool false, .string ⟨#[]⟩, .int .u8 0, .pointer none, .pointer none] 96))
    have h4 : b13 = false := ready_false hi
    have h6 : b15 = false := by
      cases hb6 : b15
      · rfl
      · rw [k.s15 hb6] at h4
        exact Bool.noConfusion h4
    subst h6
    refine wp_val (v := .pointer (some ⟨w.heap.size, 0, none⟩)) (w1 := w.alloc (.cells #[.string ⟨#[]⟩, .float .f64 0, .string ⟨#[]⟩, .slice none 0 0, .slice none 0 0, .bool false, .string ⟨#[]⟩, .int .u8 0, .pointer none, .pointer none] 96)) (by first | (go_simp; done) | (go_simp; rfl)) ?_
    exact ⟨b0, b1, b2, b3, b4, b5, b6, b7, b8, b9, b10, b11, b12, true, b14, false, v5, .pointer (some ⟨w.heap.size, 0, none⟩), v18, v19, v20, v21, v22, v23, v24, v25, v26, v27, v28, v29, rfl, rfl, { kw with k6 := fun _ => ⟨_, _, rfl, blk_new _ _, k.hb.size, fun e => Bool.noConfusion e, fun _ => rfl⟩, hne := fun e _ => ((k.k5 e).lt), s15 := fun e => Bool.noConfusion e }⟩
  · obtain ⟨hr0, hr⟩ := rdy14 hi
    obtain ⟨ty, po, af, ho⟩ := at14
    refine wpOp_at ho rfl ?_
    have ev := k.h5 hr
    subst ev
    obtain ⟨gx, cs, rfl, b0_, hz, _, hzz⟩ := k.k5 hr0
    have hd : b14 = false := ready_false hi
    subst hd
    have hcs := hzz rfl
    subst hcs
    have hc0 : w.cell? ⟨gx, 0, none⟩ = some (.string ⟨#[]⟩) := (blk_cell b0_ 0).trans rfl
    have hf0 : w.frozen? ⟨gx, 0, none⟩ = false := blk_frozen b0_ 0
    have hc1 : w.cell? ⟨gx, 1, none⟩ = some (.float .f64 0) := (blk_cell b0_ 1).trans rfl
    have hf1 : w.frozen? ⟨gx, 1, none⟩ = false := blk_frozen b0_ 1
    have hc2 : w.cell? ⟨gx, 2, none⟩ = some (.string ⟨#[]⟩) := (blk_cell b0_ 2).trans rfl
    have hf2 : w.frozen? ⟨gx, 2, none⟩ = false := blk_frozen b0_ 2
    have hc3 : w.cell? ⟨gx, 3, none⟩ = some (.slice none 0 0) := (blk_cell b0_ 3).trans rfl
    have hf3 : w.frozen? ⟨gx, 3, none⟩ = false := blk_frozen b0_ 3
    have hc4 : w.cell? ⟨gx, 4, none⟩ = some (.slice none 0 0) := (blk_cell b0_ 4).trans rfl
    have hf4 : w.frozen? ⟨gx, 4, none⟩ = false := blk_frozen b0_ 4
    have hc5 : w.cell? ⟨gx, 5, none⟩ = some (.bool false) := (blk_cell b0_ 5).trans rfl
    have hf5 : w.frozen? ⟨gx, 5, none⟩ = false := blk_frozen b0_ 5
    have hc6 : w.cell? ⟨gx, 6, none⟩ = some (.string ⟨#[]⟩) := (blk_cell b0_ 6).trans rfl
    have hf6 : w.frozen? ⟨gx, 6, none⟩ = false := blk_frozen b0_ 6
    have hc7 : w.cell? ⟨gx, 7, none⟩ = some (.int .u8 0) := (blk_cell b0_ 7).trans rfl
    have hf7 : w.frozen? ⟨gx, 7, none⟩ = false := blk_frozen b0_ 7
    have hc8 : w.cell? ⟨gx, 8, none⟩ = some (.pointer none) := (blk_cell b0_ 8).trans rfl
    have hf8 : w.frozen? ⟨gx, 8, none⟩ = false := blk_frozen b0_ 8
    have hc9 : w.cell? ⟨gx, 9, none⟩ = some (.pointer none) := (blk_cell b0_ 9).trans rfl
    have hf9 : w.frozen? ⟨gx, 9, none⟩ = false := blk_frozen b0_ 9
    refine wp_skip (w1 := Flt.sets w gx 0 [.string ⟨#[]⟩, .float .f64 0, .string ⟨#[]⟩, .slice none 0 0, .slice A1 n1 c1, .bool false, .string ⟨#[]⟩, .int .u8 4, .pointer p1, .pointer q1]) (by first | (go_simp; done) | (go_simp; rfl)) ?_
    have nb : Below w0.heap.size w0 (Flt.sets w gx 0 [.string ⟨#[]⟩, .float .f64 0, .string ⟨#[]⟩, .slice none 0 0, .slice A1 n1 c1, .bool false, .string ⟨#[]⟩, .int .u8 4, .pointer p1, .pointer q1]) := Flt.sets_below hz _ _ _ k.hb
    have hoth : b13 = true → Box w0 (Flt.sets w gx 0 [.string ⟨#[]⟩, .float .f64 0, .string ⟨#[]⟩, .slice none 0 0, .slice A1 n1 c1, .bool false, .string ⟨#[]⟩, .int .u8 4, .pointer p1, .pointer q1]) v6 b15 (argC (.slice A2 n2 c2) p2 q2) := by
      intro e
      obtain ⟨go, cs2, e1, e2, e3, e4, e5⟩ := k.k6 e
      have hn : go ≠ gx := by
        intro e6
        subst e6
        exact k.hne hr0 e e1.symm
      exact ⟨go, cs2, e1, (Flt.sets_far hn _ _ _).trans e2, e3, e4, e5⟩
    exact ⟨b0, b1, b2, b3, b4, b5, b6, b7, b8, b9, b10, b11, b12, b13, true, b15, .pointer (some ⟨gx, 0, none⟩), v6, v18, v19, v20, v21, v22, .agg (argC (.slice A1 n1 c1) p1 q1), v24, v25, v26, v27, v28, v29, rfl, rfl, { k with hb := nb, k5 := fun _ => ⟨gx, _, rfl, Flt.sets_all [.string ⟨#[]⟩, .float .f64 0, .string ⟨#[]⟩, .slice none 0 0, .slice A1 n1 c1, .bool false, .string ⟨#[]⟩, .int .u8 4, .pointer p1, .pointer q1] b0_ rfl, hz, fun _ => rfl, fun e => Bool.noConfusion e⟩, k6 := hoth, s14 := fun _ => hr0 }⟩
  · obtain ⟨hr0, hr⟩ := rdy15 hi
    obtain ⟨ty, po, af, ho⟩ := at15
    refine wpOp_at ho rfl ?_
    have ev := k.h11 hr
    subst ev
    obtain ⟨gx, cs, rfl, b0_, hz, _, hzz⟩ := k.k6 hr0
    have hd : b15 = false := ready_false hi
    subst hd
    have hcs := hzz rfl
    subst hcs
    have hc0 : w.cell? ⟨gx, 0, none⟩ = some (.string ⟨#[]⟩) := (blk_cell b0_ 0).trans rfl
    have hf0 : w.frozen? ⟨gx, 0, none⟩ = false := blk_frozen b0_ 0
    have hc1 : w.cell? ⟨gx, 1, none⟩ = some (.float .f64 0) := (blk_cell b0_ 1).trans rfl
    have hf1 : w.frozen? ⟨gx, 1, none⟩ = false := blk_frozen b0_ 1
    have hc2 : w.cell? ⟨gx, 2, none⟩ = some (.string ⟨#[]⟩) := (blk_cell b0_ 2).trans rfl
    have hf2 : w.frozen? ⟨gx, 2, none⟩ = false := blk_frozen b0_ 2
    have hc3 : w.cell? ⟨gx, 3, none⟩ = some (.slice none 0 0) := (blk_cell b0_ 3).trans rfl
    have hf3 : w.frozen? ⟨gx, 3, none⟩ = false := blk_frozen b0_ 3
    have hc4 : w.cell? ⟨gx, 4, none⟩ = some (.slice none 0 0) := (blk_cell b0_ 4).trans rfl
    have hf4 : w.frozen? ⟨gx, 4, none⟩ = false := blk_frozen b0_ 4
    have hc5 : w.cell? ⟨gx, 5, none⟩ = some (.bool false) := (blk_cell b0_ 5).trans rfl
    have hf5 : w.frozen? ⟨gx, 5, none⟩ = false := blk_frozen b0_ 5
    have hc6 : w.cell? ⟨gx, 6, none⟩ = some (.string ⟨#[]⟩) := (blk_cell b0_ 6).trans rfl
    have hf6 : w.frozen? ⟨gx, 6, none⟩ = false := blk_frozen b0_ 6
    have hc7 : w.cell? ⟨gx, 7, none⟩ = some (.int .u8 0) := (blk_cell b0_ 7).trans rfl
    have hf7 : w.frozen? ⟨gx, 7, none⟩ = false := blk_frozen b0_ 7
    have hc8 : w.cell? ⟨gx, 8, none⟩ = some (.pointer none) := (blk_cell b0_ 8).trans rfl
    have hf8 : w.frozen? ⟨gx, 8, none⟩ = false := blk_frozen b0_ 8
    have hc9 : w.cell? ⟨gx, 9, none⟩ = some (.pointer none) := (blk_cell b0_ 9).trans rfl
    have hf9 : w.frozen? ⟨gx, 9, none⟩ = false := blk_frozen b0_ 9
    refine wp_skip (w1 := Flt.sets w gx 0 [.string ⟨#[]⟩, .float .f64 0, .string ⟨#[]⟩, .slice none 0 0, .slice A2 n2 c2, .bool false, .string ⟨#[]⟩, .int .u8 4, .pointer p2, .pointer q2]) (by first | (go_simp; done) | (go_simp; rfl)) ?_
    have nb : Below w0.heap.size w0 (Flt.sets w gx 0 [.string ⟨#[]⟩, .float .f64 0, .string ⟨#[]⟩, .slice none 0 0, .slice A2 n2 c2, .bool false, .string ⟨#[]⟩, .int .u8 4, .pointer p2, .pointer q2]) := Flt.sets_below hz _ _ _ k.hb
    have hoth : b12 = true → Box w0 (Flt.sets w gx 0 [.string ⟨#[]⟩, .float .f64 0, .string ⟨#[]⟩, .slice none 0 0, .slice A2 n2 c2, .bool false, .string ⟨#[]⟩, .int .u8 4, .pointer p2, .pointer q2]) v5 b14 (argC (.slice A1 n1 c1) p1 q1) := by
      intro e
      obtain ⟨go, cs2, e1, e2, e3, e4, e5⟩ := k.k5 e
      have hn : go ≠ gx := by
        intro e6
        subst e6
        exact k.hne e hr0 e1
      exact ⟨go, cs2, e1, (Flt.sets_far hn _ _ _).trans e2, e3, e4, e5⟩
    exact ⟨b0, b1, b2, b3, b4, b5, b6, b7, b8, b9, b10, b11, b12, b13, b14, true, v5, .pointer (some ⟨gx, 0, none⟩), v18, v19, v20, v21, v22, v23, v24, v25, v26, v27, v28, .agg (argC (.slice A2 n2 c2) p2 q2), rfl, rfl, { k with hb := nb, k6 := fun _ => ⟨gx, _, rfl, Flt.sets_all [.string ⟨#[]⟩, .float .f64 0, .string ⟨#[]⟩, .slice none 0 0, .slice A2 n2 c2, .bool false, .string ⟨#[]⟩, .int .u8 4, .pointer p2, .pointer q2] b0_ rfl, hz, fun _ => rfl, fun e => Bool.noConfusion e⟩, k5 := hoth, s15 := fun _ => hr0 }⟩
set_option maxHeartbeats 4000000 in
set_option maxRecDepth 100000 in
theorem region3 (fn l f h r : Nat) (A1 A2 : Option Addr) (n1 c1 n2 c2 : Nat) (p1 q1 p2 q2 : Option Addr) (w0 : World) (H1 : w0.heap[l]? = some (.cells #[.pointer (some ⟨f, 0, none⟩), .pointer (some ⟨h, 0, none⟩), .pointer none, .nilIface, .int .i64 2] 132 (0, 0)))
    (H2 : w0.heap[f]? = some (.cells #[.pointer (some ⟨h, 0, none⟩), .pointer (some ⟨l, 0, none⟩), .pointer (some ⟨l, 0, none⟩), .iface 96 (.agg (argC (.slice A1 n1 c1) p1 q1))] 116 (0, 0)))
    (H3 : w0.heap[h]? = some (.cells #[.pointer (some ⟨l, 0, none⟩), .pointer (some ⟨f, 0, none⟩), .pointer (some ⟨l, 0, none⟩), .iface 96 (.agg (argC (.slice A2 n2 c2) p2 q2))] 116 (0, 0)))
    (Q : Exit → Act → World → Prop) {id : Nat}
    (hQ : ∀ gx gy v18 v19 v20 v21 v22 v23 v24 v25 v26 v27 v28 v29 w, w.heap[gx]? = some (.cells (argC (.slice A1 n1 c1) p1 q1) 96 (0, 0)) → w.heap[gy]? = some (.cells (argC (.slice A2 n2 c2) p2 q2) 96 (0, 0)) → w0.heap.size ≤ gx → w0.heap.size ≤ gy → gx ≠ gy → Below w0.heap.size w0 w → Q .normal (F fn l r (.pointer (some ⟨gx, 0, none⟩)) (.pointer (some ⟨gy, 0, none⟩)) v18 v19 v20 v21 v22 v23 v24 v25 v26 v27 v28 v29) w) :
    (Code.region id ops true).wp Try.prog Q (F fn l r undef undef undef undef undef undef undef undef undef undef undef undef undef undef) w0 := by
  refine wp_region_any (by kernel_rfl) ?_
  refine wpAny_inv (I fn l f h r A1 A2 n1 c1 n2 c2 p1 q1 p2 q2 w0) (step fn l f h r A1 A2 n1 c1 n2 c2 p1 q1 p2 q2 w0 H1 H2 H3 Q) ?_ _ _ _ _ ?_ ?_
  · rintro ll a w ⟨b0, b1, b2, b3, b4, b5, b6, b7, b8, b9, b10, b11, b12, b13, b14, b15, v5, v6, v18, v19, v20, v21, v22, v23, v24, v25, v26, v27, v28, v29, rfl, rfl, k⟩ hr
    obtain ⟨rfl, rfl, rfl, rfl, rfl, rfl, rfl, rfl, rfl, rfl, rfl, rfl, rfl, rfl, rfl, rfl⟩ := rdyEnd hr
    obtain ⟨gx, cx, rfl, h1, g1, h2, _⟩ := k.k5 rfl
    obtain rfl := h2 rfl
    obtain ⟨gy, cy, rfl, h3, g2, h4, _⟩ := k.k6 rfl
    obtain rfl := h4 rfl
    exact hQ gx gy v18 v19 v20 v21 v22 v23 v24 v25 v26 v27 v28 v29 w h1 h3 g1 g2 (ne_of_ptr (k.hne rfl rfl)) k.hb
  · refine ⟨false, false, false, false, false, false, false, false, false, false, false, false, false, false, false, false, undef, undef, undef, undef, undef, undef, undef, undef, undef, undef, undef, undef, undef, undef, ?_, rfl, ?_⟩
    · rw [size16]
      rfl
    · exact { hb := ⟨rfl, rfl, rfl, Nat.le_refl _, fun _ _ => rfl⟩, h0 := fun e => Bool.noConfusion e, h1 := fun e => Bool.noConfusion e, h2 := fun e => Bool.noConfusion e, h3 := fun e => Bool.noConfusion e, h4 := fun e => Bool.noConfusion e, h5 := fun e => Bool.noConfusion e, h6 := fun e => Bool.noConfusion e, h7 := fun e => Bool.noConfusion e, h8 := fun e => Bool.noConfusion e, h9 := fun e => Bool.noConfusion e, h10 := fun e => Bool.noConfusion e, h11 := fun e => Bool.noConfusion e, k5 := fun e => Bool.noConfusion e, k6 := fun e => Bool.noConfusion e, hne := fun e => Bool.noConfusion e, s14 := fun e => Bool.noConfusion e, s15 := fun e => Bool.noConfusion e }
  · rw [size16]
    decide
end Go.Proofs.Ytjefbpfpobgmaaa.FrV
