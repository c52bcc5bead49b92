/- FnFrequency, walks: container/list: New, PushBack on an empty list and on a list of one element, Front, Back, Len. No conditions. -/
import Derived.Test.YtjefbpfpobgmaaaFrK
namespace Go.Proofs.Ytjefbpfpobgmaaa.FrQ
open Go.RowKit Go.Proofs.YtjefbpfpobgmaaaW.PrintWords Go.Proofs.YtjefbpfpobgmaaaW.PrintLast Go.Proofs.YtjefbpfpobgmaaaW.PrintMore Go.Proofs.Ytjefbpfpobgmaaa.FrA Go.Proofs.Ytjefbpfpobgmaaa.FrB Go.Proofs.Ytjefbpfpobgmaaa.FrK
set_option linter.unusedVariables false
set_option linter.unusedSimpArgs false
attribute [local go_sem] Flt.run_store_float
theorem keep_new {w w1 : World} {g e : Nat} {row : Option Nat} (h : KeepBut w w1 g row) (he : w.heap.size ≤ e) (j : Nat) (u : Value) : KeepBut w (w1.setCell ⟨e, j, none⟩ u) g row :=
  ⟨by simpa [World.setCell] using h.1, fun i hi hg hr => (Below.heap_setCell w1 ⟨e, j, none⟩ u i (by show i ≠ e; omega)).trans (h.2 i hi hg hr)⟩
theorem keep_row {w w1 : World} {g f : Nat} (h : KeepBut w w1 g (some f)) (j : Nat) (u : Value) : KeepBut w (w1.setCell ⟨f, j, none⟩ u) g (some f) :=
  ⟨by simpa [World.setCell] using h.1, fun i hi hg hr => (Below.heap_setCell w1 ⟨f, j, none⟩ u i (by show i ≠ f; intro he; exact hr (by rw [he]))).trans (h.2 i hi hg hr)⟩
set_option maxHeartbeats 4000000 in
set_option maxRecDepth 100000 in
theorem init_ (l : Nat) (w0 w : World) (hl : w.heap[l]? = some (.cells #[.pointer none, .pointer none, .pointer none, .nilIface, .int .i64 0] 132 (0, 0))) (hB : Below w0.heap.size w0 w) (hg : w0.heap.size ≤ l) :
    Calls Try.prog 63 #[.pointer (some ⟨l, 0, none⟩)] w fun e w' => e = .returned (.pointer (some ⟨l, 0, none⟩)) ∧ w'.heap[l]? = some (.cells #[.pointer (some ⟨l, 0, none⟩), .pointer (some ⟨l, 0, none⟩), .pointer none, .nilIface, .int .i64 0] 132 (0, 0)) ∧ Below w0.heap.size w0 w' := by
  have BL := Aside0.mk hl
  have HB := Aside0.mk hB
  have Gl := Aside0.mk hg
  clear hl hB hg
  go_enter Try.func63, Try.ntmps63
  have hcL0 : w.cell? ⟨l, 0, none⟩ = some (.pointer none) := (blk_cell BL.out 0).trans rfl
  have hfL0 : w.frozen? ⟨l, 0, none⟩ = false := blk_frozen BL.out 0
  have hcL1 : w.cell? ⟨l, 1, none⟩ = some (.pointer none) := (blk_cell BL.out 1).trans rfl
  have hfL1 : w.frozen? ⟨l, 1, none⟩ = false := blk_frozen BL.out 1
  have hcL2 : w.cell? ⟨l, 2, none⟩ = some (.pointer none) := (blk_cell BL.out 2).trans rfl
  have hfL2 : w.frozen? ⟨l, 2, none⟩ = false := blk_frozen BL.out 2
  have hcL3 : w.cell? ⟨l, 3, none⟩ = some (.nilIface) := (blk_cell BL.out 3).trans rfl
  have hfL3 : w.frozen? ⟨l, 3, none⟩ = false := blk_frozen BL.out 3
  have hcL4 : w.cell? ⟨l, 4, none⟩ = some (.int .i64 0) := (blk_cell BL.out 4).trans rfl
  have hfL4 : w.frozen? ⟨l, 4, none⟩ = false := blk_frozen BL.out 4
  go_upto_region 2 with fail
  clear hcL0 hfL0 hcL1 hfL1 hcL2 hfL2 hcL3 hfL3 hcL4 hfL4
  have mL_ := Aside0.mk (show (w.setCell ⟨l, 0, none⟩ (.pointer (some ⟨l, 0, none⟩))).heap[l]? = some (.cells #[.pointer (some ⟨l, 0, none⟩), .pointer none, .pointer none, .nilIface, .int .i64 0] 132 (0, 0)) from blk_put BL.out 0 (.pointer (some ⟨l, 0, none⟩)) rfl)
  have mB_ := Aside0.mk (below_set (g := l) (j := 0) (v := .pointer (some ⟨l, 0, none⟩)) HB.out Gl.out)
  clear HB BL
  generalize w.setCell ⟨l, 0, none⟩ (.pointer (some ⟨l, 0, none⟩)) = w1 at mB_ mL_ ⊢
  have HB := mB_
  have BL := mL_
  clear mB_ mL_
  have hcL0 : w1.cell? ⟨l, 0, none⟩ = some (.pointer (some ⟨l, 0, none⟩)) := (blk_cell BL.out 0).trans rfl
  have hfL0 : w1.frozen? ⟨l, 0, none⟩ = false := blk_frozen BL.out 0
  have hcL1 : w1.cell? ⟨l, 1, none⟩ = some (.pointer none) := (blk_cell BL.out 1).trans rfl
  have hfL1 : w1.frozen? ⟨l, 1, none⟩ = false := blk_frozen BL.out 1
  have hcL2 : w1.cell? ⟨l, 2, none⟩ = some (.pointer none) := (blk_cell BL.out 2).trans rfl
  have hfL2 : w1.frozen? ⟨l, 2, none⟩ = false := blk_frozen BL.out 2
  have hcL3 : w1.cell? ⟨l, 3, none⟩ = some (.nilIface) := (blk_cell BL.out 3).trans rfl
  have hfL3 : w1.frozen? ⟨l, 3, none⟩ = false := blk_frozen BL.out 3
  have hcL4 : w1.cell? ⟨l, 4, none⟩ = some (.int .i64 0) := (blk_cell BL.out 4).trans rfl
  have hfL4 : w1.frozen? ⟨l, 4, none⟩ = false := blk_frozen BL.out 4
  go_upto_region 3 with fail
  clear hcL0 hfL0 hcL1 hfL1 hcL2 hfL2 hcL3 hfL3 hcL4 hfL4
  have mL_ := Aside0.mk (show (w1.setCell ⟨l, 1, none⟩ (.pointer (some ⟨l, 0, none⟩))).heap[l]? = some (.cells #[.pointer (some ⟨l, 0, none⟩), .pointer (some ⟨l, 0, none⟩), .pointer none, .nilIface, .int .i64 0] 132 (0, 0)) from blk_put BL.out 1 (.pointer (some ⟨l, 0, none⟩)) rfl)
  have mB_ := Aside0.mk (below_set (g := l) (j := 1) (v := .pointer (some ⟨l, 0, none⟩)) HB.out Gl.out)
  clear HB BL
  generalize w1.setCell ⟨l, 1, none⟩ (.pointer (some ⟨l, 0, none⟩)) = w2 at mB_ mL_ ⊢
  have HB := mB_
  have BL := mL_
  clear mB_ mL_
  have hcL0 : w2.cell? ⟨l, 0, none⟩ = some (.pointer (some ⟨l, 0, none⟩)) := (blk_cell BL.out 0).trans rfl
  have hfL0 : w2.frozen? ⟨l, 0, none⟩ = false := blk_frozen BL.out 0
  have hcL1 : w2.cell? ⟨l, 1, none⟩ = some (.pointer (some ⟨l, 0, none⟩)) := (blk_cell BL.out 1).trans rfl
  have hfL1 : w2.frozen? ⟨l, 1, none⟩ = false := blk_frozen BL.out 1
  have hcL2 : w2.cell? ⟨l, 2, none⟩ = some (.pointer none) := (blk_cell BL.out 2).trans rfl
  have hfL2 : w2.frozen? ⟨l, 2, none⟩ = false := blk_frozen BL.out 2
  have hcL3 : w2.cell? ⟨l, 3, none⟩ = some (.nilIface) := (blk_cell BL.out 3).trans rfl
  have hfL3 : w2.frozen? ⟨l, 3, none⟩ = false := blk_frozen BL.out 3
  have hcL4 : w2.cell? ⟨l, 4, none⟩ = some (.int .i64 0) := (blk_cell BL.out 4).trans rfl
  have hfL4 : w2.frozen? ⟨l, 4, none⟩ = false := blk_frozen BL.out 4
  go_upto_region 4 with fail
  clear hcL0 hfL0 hcL1 hfL1 hcL2 hfL2 hcL3 hfL3 hcL4 hfL4
  have mL_ := Aside0.mk (show (w2.setCell ⟨l, 4, none⟩ (.int .i64 0)).heap[l]? = some (.cells #[.pointer (some ⟨l, 0, none⟩), .pointer (some ⟨l, 0, none⟩), .pointer none, .nilIface, .int .i64 0] 132 (0, 0)) from blk_put BL.out 4 (.int .i64 0) rfl)
  have mB_ := Aside0.mk (below_set (g := l) (j := 4) (v := .int .i64 0) HB.out Gl.out)
  clear HB BL
  generalize w2.setCell ⟨l, 4, none⟩ (.int .i64 0) = w3 at mB_ mL_ ⊢
  have HB := mB_
  have BL := mL_
  clear mB_ mL_
  go_wp2
  go_ret
  exact ⟨by rfl, BL.out, HB.out⟩
set_option maxHeartbeats 4000000 in
set_option maxRecDepth 100000 in
theorem new_ (w : World) : Calls Try.prog 55 #[] w fun e w' => ∃ l, w.heap.size ≤ l ∧ e = .returned (.pointer (some ⟨l, 0, none⟩)) ∧ w'.heap[l]? = some (.cells #[.pointer (some ⟨l, 0, none⟩), .pointer (some ⟨l, 0, none⟩), .pointer none, .nilIface, .int .i64 0] 132 (0, 0)) ∧ Below w.heap.size w w' := by
  have HB := Aside0.mk (Below.refl w.heap.size w)
  go_enter Try.func55, Try.ntmps55
  go_wp2_with (go_at_call 63; refine (init_ w.heap.size w _ (blk_new _ _) (below_alloc HB.out _) (Nat.le_refl _)).mono ?_; rintro e w1 ⟨rfl, hl, hb⟩)
  go_ret
  exact ⟨_, Nat.le_refl _, by rfl, hl, hb⟩
set_option maxHeartbeats 4000000 in
set_option maxRecDepth 100000 in
theorem lazy_ (l x y : Nat) (n : Int) (w : World) (hl : w.heap[l]? = some (.cells #[.pointer (some ⟨x, 0, none⟩), .pointer (some ⟨y, 0, none⟩), .pointer none, .nilIface, .int .i64 n] 132 (0, 0))) : Calls Try.prog 64 #[.pointer (some ⟨l, 0, none⟩)] w fun e w' => e = .returned (.tuple #[]) ∧ w' = w := by
  have BL := Aside0.mk hl
  clear hl
  have hcL0 : w.cell? ⟨l, 0, none⟩ = some (.pointer (some ⟨x, 0, none⟩)) := (blk_cell BL.out 0).trans rfl
  have hfL0 : w.frozen? ⟨l, 0, none⟩ = false := blk_frozen BL.out 0
  have hcL1 : w.cell? ⟨l, 1, none⟩ = some (.pointer (some ⟨y, 0, none⟩)) := (blk_cell BL.out 1).trans rfl
  have hfL1 : w.frozen? ⟨l, 1, none⟩ = false := blk_frozen BL.out 1
  have hcL2 : w.cell? ⟨l, 2, none⟩ = some (.pointer none) := (blk_cell BL.out 2).trans rfl
  have hfL2 : w.frozen? ⟨l, 2, none⟩ = false := blk_frozen BL.out 2
  have hcL3 : w.cell? ⟨l, 3, none⟩ = some (.nilIface) := (blk_cell BL.out 3).trans rfl
  have hfL3 : w.frozen? ⟨l, 3, none⟩ = false := blk_frozen BL.out 3
  have hcL4 : w.cell? ⟨l, 4, none⟩ = some (.int .i64 n) := (blk_cell BL.out 4).trans rfl
  have hfL4 : w.frozen? ⟨l, 4, none⟩ = false := blk_frozen BL.out 4
  go_enter Try.func64, Try.ntmps64
  go_wp2
  go_end0
  exact ⟨by rfl, rfl⟩
set_option maxHeartbeats 4000000 in
set_option maxRecDepth 100000 in
theorem insA (l e : Nat) (v : Value) (w0 w00 w : World) (hL : w.heap[l]? = some (.cells #[.pointer (some ⟨l, 0, none⟩), .pointer (some ⟨l, 0, none⟩), .pointer none, .nilIface, .int .i64 0] 132 (0, 0))) (hE : w.heap[e]? = some (.cells #[.pointer none, .pointer none, .pointer none, v] 116 (0, 0))) (nle : l ≠ e) (gl : w0.heap.size ≤ l) (ge : w0.heap.size ≤ e) (hB : Below w0.heap.size w0 w) (hK : KeepBut w00 w l (none)) (gK : w00.heap.size ≤ e) :
    Calls Try.prog 74 #[.pointer (some ⟨l, 0, none⟩), .pointer (some ⟨e, 0, none⟩), .pointer (some ⟨l, 0, none⟩)] w fun ex w' => ex = .returned (.pointer (some ⟨e, 0, none⟩)) ∧ w'.heap[l]? = some (.cells #[.pointer (some ⟨e, 0, none⟩), .pointer (some ⟨e, 0, none⟩), .pointer none, .nilIface, .int .i64 1] 132 (0, 0)) ∧ w'.heap[e]? = some (.cells #[.pointer (some ⟨l, 0, none⟩), .pointer (some ⟨l, 0, none⟩), .pointer (some ⟨l, 0, none⟩), v] 116 (0, 0)) ∧ Below w0.heap.size w0 w' ∧ KeepBut w00 w' l (none) := by
  have BL := Aside0.mk hL
  have BE := Aside0.mk hE
  have Nle := Aside0.mk nle
  have Gl := Aside0.mk gl
  have Ge := Aside0.mk ge
  have HB := Aside0.mk hB
  have KB := Aside0.mk hK
  have GK := Aside0.mk gK
  clear hK gK
  clear hB hL hE nle gl ge
  go_enter Try.func74, Try.ntmps74
  have hcL0 : w.cell? ⟨l, 0, none⟩ = some (.pointer (some ⟨l, 0, none⟩)) := (blk_cell BL.out 0).trans rfl
  have hfL0 : w.frozen? ⟨l, 0, none⟩ = false := blk_frozen BL.out 0
  have hcL1 : w.cell? ⟨l, 1, none⟩ = some (.pointer (some ⟨l, 0, none⟩)) := (blk_cell BL.out 1).trans rfl
  have hfL1 : w.frozen? ⟨l, 1, none⟩ = false := blk_frozen BL.out 1
  have hcL2 : w.cell? ⟨l, 2, none⟩ = some (.pointer none) := (blk_cell BL.out 2).trans rfl
  have hfL2 : w.frozen? ⟨l, 2, none⟩ = false := blk_frozen BL.out 2
  have hcL3 : w.cell? ⟨l, 3, none⟩ = some (.nilIface) := (blk_cell BL.out 3).trans rfl
  have hfL3 : w.frozen? ⟨l, 3, none⟩ = false := blk_frozen BL.out 3
  have hcL4 : w.cell? ⟨l, 4, none⟩ = some (.int .i64 0) := (blk_cell BL.out 4).trans rfl
  have hfL4 : w.frozen? ⟨l, 4, none⟩ = false := blk_frozen BL.out 4
  have hcE0 : w.cell? ⟨e, 0, none⟩ = some (.pointer none) := (blk_cell BE.out 0).trans rfl
  have hfE0 : w.frozen? ⟨e, 0, none⟩ = false := blk_frozen BE.out 0
  have hcE1 : w.cell? ⟨e, 1, none⟩ = some (.pointer none) := (blk_cell BE.out 1).trans rfl
  have hfE1 : w.frozen? ⟨e, 1, none⟩ = false := blk_frozen BE.out 1
  have hcE2 : w.cell? ⟨e, 2, none⟩ = some (.pointer none) := (blk_cell BE.out 2).trans rfl
  have hfE2 : w.frozen? ⟨e, 2, none⟩ = false := blk_frozen BE.out 2
  have hcE3 : w.cell? ⟨e, 3, none⟩ = some (v) := (blk_cell BE.out 3).trans rfl
  have hfE3 : w.frozen? ⟨e, 3, none⟩ = false := blk_frozen BE.out 3
  go_upto_region 2 with fail
  clear hcL0 hfL0 hcL1 hfL1 hcL2 hfL2 hcL3 hfL3 hcL4 hfL4 hcE0 hfE0 hcE1 hfE1 hcE2 hfE2 hcE3 hfE3
  have mL_ := Aside0.mk ((Below.heap_setCell w ⟨e, 1, none⟩ (.pointer (some ⟨l, 0, none⟩)) l (Nle.out)).trans BL.out)
  have mE_ := Aside0.mk (show (w.setCell ⟨e, 1, none⟩ (.pointer (some ⟨l, 0, none⟩))).heap[e]? = some (.cells #[.pointer none, .pointer (some ⟨l, 0, none⟩), .pointer none, v] 116 (0, 0)) from blk_put BE.out 1 (.pointer (some ⟨l, 0, none⟩)) rfl)
  have mB_ := Aside0.mk (below_set (g := e) (j := 1) (v := .pointer (some ⟨l, 0, none⟩)) HB.out Ge.out)
  have mK_ := Aside0.mk (keep_new KB.out GK.out 1 (.pointer (some ⟨l, 0, none⟩)))
  clear HB KB BL BE
  generalize w.setCell ⟨e, 1, none⟩ (.pointer (some ⟨l, 0, none⟩)) = w1 at mB_ mL_ mE_ mK_ ⊢
  have HB := mB_
  have KB := mK_
  have BL := mL_
  have BE := mE_
  clear mB_ mL_ mE_ mK_
  have hcL0 : w1.cell? ⟨l, 0, none⟩ = some (.pointer (some ⟨l, 0, none⟩)) := (blk_cell BL.out 0).trans rfl
  have hfL0 : w1.frozen? ⟨l, 0, none⟩ = false := blk_frozen BL.out 0
  have hcL1 : w1.cell? ⟨l, 1, none⟩ = some (.pointer (some ⟨l, 0, none⟩)) := (blk_cell BL.out 1).trans rfl
  have hfL1 : w1.frozen? ⟨l, 1, none⟩ = false := blk_frozen BL.out 1
  have hcL2 : w1.cell? ⟨l, 2, none⟩ = some (.pointer none) := (blk_cell BL.out 2).trans rfl
  have hfL2 : w1.frozen? ⟨l, 2, none⟩ = false := blk_frozen BL.out 2
  have hcL3 : w1.cell? ⟨l, 3, none⟩ = some (.nilIface) := (blk_cell BL.out 3).trans rfl
  have hfL3 : w1.frozen? ⟨l, 3, none⟩ = false := blk_frozen BL.out 3
  have hcL4 : w1.cell? ⟨l, 4, none⟩ = some (.int .i64 0) := (blk_cell BL.out 4).trans rfl
  have hfL4 : w1.frozen? ⟨l, 4, none⟩ = false := blk_frozen BL.out 4
  have hcE0 : w1.cell? ⟨e, 0, none⟩ = some (.pointer none) := (blk_cell BE.out 0).trans rfl
  have hfE0 : w1.frozen? ⟨e, 0, none⟩ = false := blk_frozen BE.out 0
  have hcE1 : w1.cell? ⟨e, 1, none⟩ = some (.pointer (some ⟨l, 0, none⟩)) := (blk_cell BE.out 1).trans rfl
  have hfE1 : w1.frozen? ⟨e, 1, none⟩ = false := blk_frozen BE.out 1
  have hcE2 : w1.cell? ⟨e, 2, none⟩ = some (.pointer none) := (blk_cell BE.out 2).trans rfl
  have hfE2 : w1.frozen? ⟨e, 2, none⟩ = false := blk_frozen BE.out 2
  have hcE3 : w1.cell? ⟨e, 3, none⟩ = some (v) := (blk_cell BE.out 3).trans rfl
  have hfE3 : w1.frozen? ⟨e, 3, none⟩ = false := blk_frozen BE.out 3
  go_upto_region 3 with fail
  clear hcL0 hfL0 hcL1 hfL1 hcL2 hfL2 hcL3 hfL3 hcL4 hfL4 hcE0 hfE0 hcE1 hfE1 hcE2 hfE2 hcE3 hfE3
  have mL_ := Aside0.mk ((Below.heap_setCell w1 ⟨e, 0, none⟩ (.pointer (some ⟨l, 0, none⟩)) l (Nle.out)).trans BL.out)
  have mE_ := Aside0.mk (show (w1.setCell ⟨e, 0, none⟩ (.pointer (some ⟨l, 0, none⟩))).heap[e]? = some (.cells #[.pointer (some ⟨l, 0, none⟩), .pointer (some ⟨l, 0, none⟩), .pointer none, v] 116 (0, 0)) from blk_put BE.out 0 (.pointer (some ⟨l, 0, none⟩)) rfl)
  have mB_ := Aside0.mk (below_set (g := e) (j := 0) (v := .pointer (some ⟨l, 0, none⟩)) HB.out Ge.out)
  have mK_ := Aside0.mk (keep_new KB.out GK.out 0 (.pointer (some ⟨l, 0, none⟩)))
  clear HB KB BL BE
  generalize w1.setCell ⟨e, 0, none⟩ (.pointer (some ⟨l, 0, none⟩)) = w2 at mB_ mL_ mE_ mK_ ⊢
  have HB := mB_
  have KB := mK_
  have BL := mL_
  have BE := mE_
  clear mB_ mL_ mE_ mK_
  have hcL0 : w2.cell? ⟨l, 0, none⟩ = some (.pointer (some ⟨l, 0, none⟩)) := (blk_cell BL.out 0).trans rfl
  have hfL0 : w2.frozen? ⟨l, 0, none⟩ = false := blk_frozen BL.out 0
  have hcL1 : w2.cell? ⟨l, 1, none⟩ = some (.pointer (some ⟨l, 0, none⟩)) := (blk_cell BL.out 1).trans rfl
  have hfL1 : w2.frozen? ⟨l, 1, none⟩ = false := blk_frozen BL.out 1
  have hcL2 : w2.cell? ⟨l, 2, none⟩ = some (.pointer none) := (blk_cell BL.out 2).trans rfl
  have hfL2 : w2.frozen? ⟨l, 2, none⟩ = false := blk_frozen BL.out 2
  have hcL3 : w2.cell? ⟨l, 3, none⟩ = some (.nilIface) := (blk_cell BL.out 3).trans rfl
  have hfL3 : w2.frozen? ⟨l, 3, none⟩ = false := blk_frozen BL.out 3
  have hcL4 : w2.cell? ⟨l, 4, none⟩ = some (.int .i64 0) := (blk_cell BL.out 4).trans rfl
  have hfL4 : w2.frozen? ⟨l, 4, none⟩ = false := blk_frozen BL.out 4
  have hcE0 : w2.cell? ⟨e, 0, none⟩ = some (.pointer (some ⟨l, 0, none⟩)) := (blk_cell BE.out 0).trans rfl
  have hfE0 : w2.frozen? ⟨e, 0, none⟩ = false := blk_frozen BE.out 0
  have hcE1 : w2.cell? ⟨e, 1, none⟩ = some (.pointer (some ⟨l, 0, none⟩)) := (blk_cell BE.out 1).trans rfl
  have hfE1 : w2.frozen? ⟨e, 1, none⟩ = false := blk_frozen BE.out 1
  have hcE2 : w2.cell? ⟨e, 2, none⟩ = some (.pointer none) := (blk_cell BE.out 2).trans rfl
  have hfE2 : w2.frozen? ⟨e, 2, none⟩ = false := blk_frozen BE.out 2
  have hcE3 : w2.cell? ⟨e, 3, none⟩ = some (v) := (blk_cell BE.out 3).trans rfl
  have hfE3 : w2.frozen? ⟨e, 3, none⟩ = false := blk_frozen BE.out 3
  go_upto_region 4 with fail
  clear hcL0 hfL0 hcL1 hfL1 hcL2 hfL2 hcL3 hfL3 hcL4 hfL4 hcE0 hfE0 hcE1 hfE1 hcE2 hfE2 hcE3 hfE3
  have mL_ := Aside0.mk (show (w2.setCell ⟨l, 0, none⟩ (.pointer (some ⟨e, 0, none⟩))).heap[l]? = some (.cells #[.pointer (some ⟨e, 0, none⟩), .pointer (some ⟨l, 0, none⟩), .pointer none, .nilIface, .int .i64 0] 132 (0, 0)) from blk_put BL.out 0 (.pointer (some ⟨e, 0, none⟩)) rfl)
  have mE_ := Aside0.mk ((Below.heap_setCell w2 ⟨l, 0, none⟩ (.pointer (some ⟨e, 0, none⟩)) e (Nle.out.symm)).trans BE.out)
  have mB_ := Aside0.mk (below_set (g := l) (j := 0) (v := .pointer (some ⟨e, 0, none⟩)) HB.out Gl.out)
  have mK_ := Aside0.mk (KeepBut.set_ KB.out 0 (.pointer (some ⟨e, 0, none⟩)))
  clear HB KB BL BE
  generalize w2.setCell ⟨l, 0, none⟩ (.pointer (some ⟨e, 0, none⟩)) = w3 at mB_ mL_ mE_ mK_ ⊢
  have HB := mB_
  have KB := mK_
  have BL := mL_
  have BE := mE_
  clear mB_ mL_ mE_ mK_
  have hcL0 : w3.cell? ⟨l, 0, none⟩ = some (.pointer (some ⟨e, 0, none⟩)) := (blk_cell BL.out 0).trans rfl
  have hfL0 : w3.frozen? ⟨l, 0, none⟩ = false := blk_frozen BL.out 0
  have hcL1 : w3.cell? ⟨l, 1, none⟩ = some (.pointer (some ⟨l, 0, none⟩)) := (blk_cell BL.out 1).trans rfl
  have hfL1 : w3.frozen? ⟨l, 1, none⟩ = false := blk_frozen BL.out 1
  have hcL2 : w3.cell? ⟨l, 2, none⟩ = some (.pointer none) := (blk_cell BL.out 2).trans rfl
  have hfL2 : w3.frozen? ⟨l, 2, none⟩ = false := blk_frozen BL.out 2
  have hcL3 : w3.cell? ⟨l, 3, none⟩ = some (.nilIface) := (blk_cell BL.out 3).trans rfl
  have hfL3 : w3.frozen? ⟨l, 3, none⟩ = false := blk_frozen BL.out 3
  have hcL4 : w3.cell? ⟨l, 4, none⟩ = some (.int .i64 0) := (blk_cell BL.out 4).trans rfl
  have hfL4 : w3.frozen? ⟨l, 4, none⟩ = false := blk_frozen BL.out 4
  have hcE0 : w3.cell? ⟨e, 0, none⟩ = some (.pointer (some ⟨l, 0, none⟩)) := (blk_cell BE.out 0).trans rfl
  have hfE0 : w3.frozen? ⟨e, 0, none⟩ = false := blk_frozen BE.out 0
  have hcE1 : w3.cell? ⟨e, 1, none⟩ = some (.pointer (some ⟨l, 0, none⟩)) := (blk_cell BE.out 1).trans rfl
  have hfE1 : w3.frozen? ⟨e, 1, none⟩ = false := blk_frozen BE.out 1
  have hcE2 : w3.cell? ⟨e, 2, none⟩ = some (.pointer none) := (blk_cell BE.out 2).trans rfl
  have hfE2 : w3.frozen? ⟨e, 2, none⟩ = false := blk_frozen BE.out 2
  have hcE3 : w3.cell? ⟨e, 3, none⟩ = some (v) := (blk_cell BE.out 3).trans rfl
  have hfE3 : w3.frozen? ⟨e, 3, none⟩ = false := blk_frozen BE.out 3
  go_upto_region 5 with fail
  clear hcL0 hfL0 hcL1 hfL1 hcL2 hfL2 hcL3 hfL3 hcL4 hfL4 hcE0 hfE0 hcE1 hfE1 hcE2 hfE2 hcE3 hfE3
  have mL_ := Aside0.mk (show (w3.setCell ⟨l, 1, none⟩ (.pointer (some ⟨e, 0, none⟩))).heap[l]? = some (.cells #[.pointer (some ⟨e, 0, none⟩), .pointer (some ⟨e, 0, none⟩), .pointer none, .nilIface, .int .i64 0] 132 (0, 0)) from blk_put BL.out 1 (.pointer (some ⟨e, 0, none⟩)) rfl)
  have mE_ := Aside0.mk ((Below.heap_setCell w3 ⟨l, 1, none⟩ (.pointer (some ⟨e, 0, none⟩)) e (Nle.out.symm)).trans BE.out)
  have mB_ := Aside0.mk (below_set (g := l) (j := 1) (v := .pointer (some ⟨e, 0, none⟩)) HB.out Gl.out)
  have mK_ := Aside0.mk (KeepBut.set_ KB.out 1 (.pointer (some ⟨e, 0, none⟩)))
  clear HB KB BL BE
  generalize w3.setCell ⟨l, 1, none⟩ (.pointer (some ⟨e, 0, none⟩)) = w4 at mB_ mL_ mE_ mK_ ⊢
  have HB := mB_
  have KB := mK_
  have BL := mL_
  have BE := mE_
  clear mB_ mL_ mE_ mK_
  have hcL0 : w4.cell? ⟨l, 0, none⟩ = some (.pointer (some ⟨e, 0, none⟩)) := (blk_cell BL.out 0).trans rfl
  have hfL0 : w4.frozen? ⟨l, 0, none⟩ = false := blk_frozen BL.out 0
  have hcL1 : w4.cell? ⟨l, 1, none⟩ = some (.pointer (some ⟨e, 0, none⟩)) := (blk_cell BL.out 1).trans rfl
  have hfL1 : w4.frozen? ⟨l, 1, none⟩ = false := blk_frozen BL.out 1
  have hcL2 : w4.cell? ⟨l, 2, none⟩ = some (.pointer none) := (blk_cell BL.out 2).trans rfl
  have hfL2 : w4.frozen? ⟨l, 2, none⟩ = false := blk_frozen BL.out 2
  have hcL3 : w4.cell? ⟨l, 3, none⟩ = some (.nilIface) := (blk_cell BL.out 3).trans rfl
  have hfL3 : w4.frozen? ⟨l, 3, none⟩ = false := blk_frozen BL.out 3
  have hcL4 : w4.cell? ⟨l, 4, none⟩ = some (.int .i64 0) := (blk_cell BL.out 4).trans rfl
  have hfL4 : w4.frozen? ⟨l, 4, none⟩ = false := blk_frozen BL.out 4
  have hcE0 : w4.cell? ⟨e, 0, none⟩ = some (.pointer (some ⟨l, 0, none⟩)) := (blk_cell BE.out 0).trans rfl
  have hfE0 : w4.frozen? ⟨e, 0, none⟩ = false := blk_frozen BE.out 0
  have hcE1 : w4.cell? ⟨e, 1, none⟩ = some (.pointer (some ⟨l, 0, none⟩)) := (blk_cell BE.out 1).trans rfl
  have hfE1 : w4.frozen? ⟨e, 1, none⟩ = false := blk_frozen BE.out 1
  have hcE2 : w4.cell? ⟨e, 2, none⟩ = some (.pointer none) := (blk_cell BE.out 2).trans rfl
  have hfE2 : w4.frozen? ⟨e, 2, none⟩ = false := blk_frozen BE.out 2
  have hcE3 : w4.cell? ⟨e, 3, none⟩ = some (v) := (blk_cell BE.out 3).trans rfl
  have hfE3 : w4.frozen? ⟨e, 3, none⟩ = false := blk_frozen BE.out 3
  go_upto_region 6 with fail
  clear hcL0 hfL0 hcL1 hfL1 hcL2 hfL2 hcL3 hfL3 hcL4 hfL4 hcE0 hfE0 hcE1 hfE1 hcE2 hfE2 hcE3 hfE3
  have mL_ := Aside0.mk ((Below.heap_setCell w4 ⟨e, 2, none⟩ (.pointer (some ⟨l, 0, none⟩)) l (Nle.out)).trans BL.out)
  have mE_ := Aside0.mk (show (w4.setCell ⟨e, 2, none⟩ (.pointer (some ⟨l, 0, none⟩))).heap[e]? = some (.cells #[.pointer (some ⟨l, 0, none⟩), .pointer (some ⟨l, 0, none⟩), .pointer (some ⟨l, 0, none⟩), v] 116 (0, 0)) from blk_put BE.out 2 (.pointer (some ⟨l, 0, none⟩)) rfl)
  have mB_ := Aside0.mk (below_set (g := e) (j := 2) (v := .pointer (some ⟨l, 0, none⟩)) HB.out Ge.out)
  have mK_ := Aside0.mk (keep_new KB.out GK.out 2 (.pointer (some ⟨l, 0, none⟩)))
  clear HB KB BL BE
  generalize w4.setCell ⟨e, 2, none⟩ (.pointer (some ⟨l, 0, none⟩)) = w5 at mB_ mL_ mE_ mK_ ⊢
  have HB := mB_
  have KB := mK_
  have BL := mL_
  have BE := mE_
  clear mB_ mL_ mE_ mK_
  have hcL0 : w5.cell? ⟨l, 0, none⟩ = some (.pointer (some ⟨e, 0, none⟩)) := (blk_cell BL.out 0).trans rfl
  have hfL0 : w5.frozen? ⟨l, 0, none⟩ = false := blk_frozen BL.out 0
  have hcL1 : w5.cell? ⟨l, 1, none⟩ = some (.pointer (some ⟨e, 0, none⟩)) := (blk_cell BL.out 1).trans rfl
  have hfL1 : w5.frozen? ⟨l, 1, none⟩ = false := blk_frozen BL.out 1
  have hcL2 : w5.cell? ⟨l, 2, none⟩ = some (.pointer none) := (blk_cell BL.out 2).trans rfl
  have hfL2 : w5.frozen? ⟨l, 2, none⟩ = false := blk_frozen BL.out 2
  have hcL3 : w5.cell? ⟨l, 3, none⟩ = some (.nilIface) := (blk_cell BL.out 3).trans rfl
  have hfL3 : w5.frozen? ⟨l, 3, none⟩ = false := blk_frozen BL.out 3
  have hcL4 : w5.cell? ⟨l, 4, none⟩ = some (.int .i64 0) := (blk_cell BL.out 4).trans rfl
  have hfL4 : w5.frozen? ⟨l, 4, none⟩ = false := blk_frozen BL.out 4
  have hcE0 : w5.cell? ⟨e, 0, none⟩ = some (.pointer (some ⟨l, 0, none⟩)) := (blk_cell BE.out 0).trans rfl
  have hfE0 : w5.frozen? ⟨e, 0, none⟩ = false := blk_frozen BE.out 0
  have hcE1 : w5.cell? ⟨e, 1, none⟩ = some (.pointer (some ⟨l, 0, none⟩)) := (blk_cell BE.out 1).trans rfl
  have hfE1 : w5.frozen? ⟨e, 1, none⟩ = false := blk_frozen BE.out 1
  have hcE2 : w5.cell? ⟨e, 2, none⟩ = some (.pointer (some ⟨l, 0, none⟩)) := (blk_cell BE.out 2).trans rfl
  have hfE2 : w5.frozen? ⟨e, 2, none⟩ = false := blk_frozen BE.out 2
  have hcE3 : w5.cell? ⟨e, 3, none⟩ = some (v) := (blk_cell BE.out 3).trans rfl
  have hfE3 : w5.frozen? ⟨e, 3, none⟩ = false := blk_frozen BE.out 3
  go_upto_region 7 with fail
  clear hcL0 hfL0 hcL1 hfL1 hcL2 hfL2 hcL3 hfL3 hcL4 hfL4 hcE0 hfE0 hcE1 hfE1 hcE2 hfE2 hcE3 hfE3
  have mL_ := Aside0.mk (show (w5.setCell ⟨l, 4, none⟩ (.int .i64 1)).heap[l]? = some (.cells #[.pointer (some ⟨e, 0, none⟩), .pointer (some ⟨e, 0, none⟩), .pointer none, .nilIface, .int .i64 1] 132 (0, 0)) from blk_put BL.out 4 (.int .i64 1) rfl)
  have mE_ := Aside0.mk ((Below.heap_setCell w5 ⟨l, 4, none⟩ (.int .i64 1) e (Nle.out.symm)).trans BE.out)
  have mB_ := Aside0.mk (below_set (g := l) (j := 4) (v := .int .i64 1) HB.out Gl.out)
  have mK_ := Aside0.mk (KeepBut.set_ KB.out 4 (.int .i64 1))
  clear HB KB BL BE
  generalize w5.setCell ⟨l, 4, none⟩ (.int .i64 1) = w6 at mB_ mL_ mE_ mK_ ⊢
  have HB := mB_
  have KB := mK_
  have BL := mL_
  have BE := mE_
  clear mB_ mL_ mE_ mK_
  go_wp2
  go_ret
  exact ⟨by rfl, BL.out, BE.out, HB.out, KB.out⟩
set_option maxHeartbeats 4000000 in
set_option maxRecDepth 100000 in
theorem insB (l e f : Nat) (v : Value) (u : Value) (w0 w00 w : World) (hL : w.heap[l]? = some (.cells #[.pointer (some ⟨f, 0, none⟩), .pointer (some ⟨f, 0, none⟩), .pointer none, .nilIface, .int .i64 1] 132 (0, 0))) (hF : w.heap[f]? = some (.cells #[.pointer (some ⟨l, 0, none⟩), .pointer (some ⟨l, 0, none⟩), .pointer (some ⟨l, 0, none⟩), u] 116 (0, 0))) (hE : w.heap[e]? = some (.cells #[.pointer none, .pointer none, .pointer none, v] 116 (0, 0))) (nle : l ≠ e) (nlf : l ≠ f) (nef : e ≠ f) (gl : w0.heap.size ≤ l) (ge : w0.heap.size ≤ e) (gf : w0.heap.size ≤ f) (hB : Below w0.heap.size w0 w) (hK : KeepBut w00 w l (some f)) (gK : w00.heap.size ≤ e) :
    Calls Try.prog 74 #[.pointer (some ⟨l, 0, none⟩), .pointer (some ⟨e, 0, none⟩), .pointer (some ⟨f, 0, none⟩)] w fun ex w' => ex = .returned (.pointer (some ⟨e, 0, none⟩)) ∧ w'.heap[l]? = some (.cells #[.pointer (some ⟨f, 0, none⟩), .pointer (some ⟨e, 0, none⟩), .pointer none, .nilIface, .int .i64 2] 132 (0, 0)) ∧ w'.heap[f]? = some (.cells #[.pointer (some ⟨e, 0, none⟩), .pointer (some ⟨l, 0, none⟩), .pointer (some ⟨l, 0, none⟩), u] 116 (0, 0)) ∧ w'.heap[e]? = some (.cells #[.pointer (some ⟨l, 0, none⟩), .pointer (some ⟨f, 0, none⟩), .pointer (some ⟨l, 0, none⟩), v] 116 (0, 0)) ∧ Below w0.heap.size w0 w' ∧ KeepBut w00 w' l (some f) := by
  have BL := Aside0.mk hL
  have BF := Aside0.mk hF
  have BE := Aside0.mk hE
  have Nle := Aside0.mk nle
  have Nlf := Aside0.mk nlf
  have Nef := Aside0.mk nef
  have Gl := Aside0.mk gl
  have Ge := Aside0.mk ge
  have Gf := Aside0.mk gf
  have HB := Aside0.mk hB
  have KB := Aside0.mk hK
  have GK := Aside0.mk gK
  clear hK gK
  clear hB hL hF hE nle nlf nef gl ge gf
  go_enter Try.func74, Try.ntmps74
  have hcL0 : w.cell? ⟨l, 0, none⟩ = some (.pointer (some ⟨f, 0, none⟩)) := (blk_cell BL.out 0).trans rfl
  have hfL0 : w.frozen? ⟨l, 0, none⟩ = false := blk_frozen BL.out 0
  have hcL1 : w.cell? ⟨l, 1, none⟩ = some (.pointer (some ⟨f, 0, none⟩)) := (blk_cell BL.out 1).trans rfl
  have hfL1 : w.frozen? ⟨l, 1, none⟩ = false := blk_frozen BL.out 1
  have hcL2 : w.cell? ⟨l, 2, none⟩ = some (.pointer none) := (blk_cell BL.out 2).trans rfl
  have hfL2 : w.frozen? ⟨l, 2, none⟩ = false := blk_frozen BL.out 2
  have hcL3 : w.cell? ⟨l, 3, none⟩ = some (.nilIface) := (blk_cell BL.out 3).trans rfl
  have hfL3 : w.frozen? ⟨l, 3, none⟩ = false := blk_frozen BL.out 3
  have hcL4 : w.cell? ⟨l, 4, none⟩ = some (.int .i64 1) := (blk_cell BL.out 4).trans rfl
  have hfL4 : w.frozen? ⟨l, 4, none⟩ = false := blk_frozen BL.out 4
  have hcF0 : w.cell? ⟨f, 0, none⟩ = some (.pointer (some ⟨l, 0, none⟩)) := (blk_cell BF.out 0).trans rfl
  have hfF0 : w.frozen? ⟨f, 0, none⟩ = false := blk_frozen BF.out 0
  have hcF1 : w.cell? ⟨f, 1, none⟩ = some (.pointer (some ⟨l, 0, none⟩)) := (blk_cell BF.out 1).trans rfl
  have hfF1 : w.frozen? ⟨f, 1, none⟩ = false := blk_frozen BF.out 1
  have hcF2 : w.cell? ⟨f, 2, none⟩ = some (.pointer (some ⟨l, 0, none⟩)) := (blk_cell BF.out 2).trans rfl
  have hfF2 : w.frozen? ⟨f, 2, none⟩ = false := blk_frozen BF.out 2
  have hcF3 : w.cell? ⟨f, 3, none⟩ = some (u) := (blk_cell BF.out 3).trans rfl
  have hfF3 : w.frozen? ⟨f, 3, none⟩ = false := blk_frozen BF.out 3
  have hcE0 : w.cell? ⟨e, 0, none⟩ = some (.pointer none) := (blk_cell BE.out 0).trans rfl
  have hfE0 : w.frozen? ⟨e, 0, none⟩ = false := blk_frozen BE.out 0
  have hcE1 : w.cell? ⟨e, 1, none⟩ = some (.pointer none) := (blk_cell BE.out 1).trans rfl
  have hfE1 : w.frozen? ⟨e, 1, none⟩ = false := blk_frozen BE.out 1
  have hcE2 : w.cell? ⟨e, 2, none⟩ = some (.pointer none) := (blk_cell BE.out 2).trans rfl
  have hfE2 : w.frozen? ⟨e, 2, none⟩ = false := blk_frozen BE.out 2
  have hcE3 : w.cell? ⟨e, 3, none⟩ = some (v) := (blk_cell BE.out 3).trans rfl
  have hfE3 : w.frozen? ⟨e, 3, none⟩ = false := blk_frozen BE.out 3
  go_upto_region 2 with fail
  clear hcL0 hfL0 hcL1 hfL1 hcL2 hfL2 hcL3 hfL3 hcL4 hfL4 hcF0 hfF0 hcF1 hfF1 hcF2 hfF2 hcF3 hfF3 hcE0 hfE0 hcE1 hfE1 hcE2 hfE2 hcE3 hfE3
  have mL_ := Aside0.mk ((Below.heap_setCell w ⟨e, 1, none⟩ (.pointer (some ⟨f, 0, none⟩)) l (Nle.out)).trans BL.out)
  have mF_ := Aside0.mk ((Below.heap_setCell w ⟨e, 1, none⟩ (.pointer (some ⟨f, 0, none⟩)) f (Nef.out.symm)).trans BF.out)
  have mE_ := Aside0.mk (show (w.setCell ⟨e, 1, none⟩ (.pointer (some ⟨f, 0, none⟩))).heap[e]? = some (.cells #[.pointer none, .pointer (some ⟨f, 0, none⟩), .pointer none, v] 116 (0, 0)) from blk_put BE.out 1 (.pointer (some ⟨f, 0, none⟩)) rfl)
  have mB_ := Aside0.mk (below_set (g := e) (j := 1) (v := .pointer (some ⟨f, 0, none⟩)) HB.out Ge.out)
  have mK_ := Aside0.mk (keep_new KB.out GK.out 1 (.pointer (some ⟨f, 0, none⟩)))
  clear HB KB BL BF BE
  generalize w.setCell ⟨e, 1, none⟩ (.pointer (some ⟨f, 0, none⟩)) = w1 at mB_ mL_ mF_ mE_ mK_ ⊢
  have HB := mB_
  have KB := mK_
  have BL := mL_
  have BF := mF_
  have BE := mE_
  clear mB_ mL_ mF_ mE_ mK_
  have hcL0 : w1.cell? ⟨l, 0, none⟩ = some (.pointer (some ⟨f, 0, none⟩)) := (blk_cell BL.out 0).trans rfl
  have hfL0 : w1.frozen? ⟨l, 0, none⟩ = false := blk_frozen BL.out 0
  have hcL1 : w1.cell? ⟨l, 1, none⟩ = some (.pointer (some ⟨f, 0, none⟩)) := (blk_cell BL.out 1).trans rfl
  have hfL1 : w1.frozen? ⟨l, 1, none⟩ = false := blk_frozen BL.out 1
  have hcL2 : w1.cell? ⟨l, 2, none⟩ = some (.pointer none) := (blk_cell BL.out 2).trans rfl
  have hfL2 : w1.frozen? ⟨l, 2, none⟩ = false := blk_frozen BL.out 2
  have hcL3 : w1.cell? ⟨l, 3, none⟩ = some (.nilIface) := (blk_cell BL.out 3).trans rfl
  have hfL3 : w1.frozen? ⟨l, 3, none⟩ = false := blk_frozen BL.out 3
  have hcL4 : w1.cell? ⟨l, 4, none⟩ = some (.int .i64 1) := (blk_cell BL.out 4).trans rfl
  have hfL4 : w1.frozen? ⟨l, 4, none⟩ = false := blk_frozen BL.out 4
  have hcF0 : w1.cell? ⟨f, 0, none⟩ = some (.pointer (some ⟨l, 0, none⟩)) := (blk_cell BF.out 0).trans rfl
  have hfF0 : w1.frozen? ⟨f, 0, none⟩ = false := blk_frozen BF.out 0
  have hcF1 : w1.cell? ⟨f, 1, none⟩ = some (.pointer (some ⟨l, 0, none⟩)) := (blk_cell BF.out 1).trans rfl
  have hfF1 : w1.frozen? ⟨f, 1, none⟩ = false := blk_frozen BF.out 1
  have hcF2 : w1.cell? ⟨f, 2, none⟩ = some (.pointer (some ⟨l, 0, none⟩)) := (blk_cell BF.out 2).trans rfl
  have hfF2 : w1.frozen? ⟨f, 2, none⟩ = false := blk_frozen BF.out 2
  have hcF3 : w1.cell? ⟨f, 3, none⟩ = some (u) := (blk_cell BF.out 3).trans rfl
  have hfF3 : w1.frozen? ⟨f, 3, none⟩ = false := blk_frozen BF.out 3
  have hcE0 : w1.cell? ⟨e, 0, none⟩ = some (.pointer none) := (blk_cell BE.out 0).trans rfl
  have hfE0 : w1.frozen? ⟨e, 0, none⟩ = false := blk_frozen BE.out 0
  have hcE1 : w1.cell? ⟨e, 1, none⟩ = some (.pointer (some ⟨f, 0, none⟩)) := (blk_cell BE.out 1).trans rfl
  have hfE1 : w1.frozen? ⟨e, 1, none⟩ = false := blk_frozen BE.out 1
  have hcE2 : w1.cell? ⟨e, 2, none⟩ = some (.pointer none) := (blk_cell BE.out 2).trans rfl
  have hfE2 : w1.frozen? ⟨e, 2, none⟩ = false := blk_frozen BE.out 2
  have hcE3 : w1.cell? ⟨e, 3, none⟩ = some (v) := (blk_cell BE.out 3).trans rfl
  have hfE3 : w1.frozen? ⟨e, 3, none⟩ = false := blk_frozen BE.out 3
  go_upto_region 3 with fail
  clear hcL0 hfL0 hcL1 hfL1 hcL2 hfL2 hcL3 hfL3 hcL4 hfL4 hcF0 hfF0 hcF1 hfF1 hcF2 hfF2 hcF3 hfF3 hcE0 hfE0 hcE1 hfE1 hcE2 hfE2 hcE3 hfE3
  have mL_ := Aside0.mk ((Below.heap_setCell w1 ⟨e, 0, none⟩ (.pointer (some ⟨l, 0, none⟩)) l (Nle.out)).trans BL.out)
  have mF_ := Aside0.mk ((Below.heap_setCell w1 ⟨e, 0, none⟩ (.pointer (some ⟨l, 0, none⟩)) f (Nef.out.symm)).trans BF.out)
  have mE_ := Aside0.mk (show (w1.setCell ⟨e, 0, none⟩ (.pointer (some ⟨l, 0, none⟩))).heap[e]? = some (.cells #[.pointer (some ⟨l, 0, none⟩), .pointer (some ⟨f, 0, none⟩), .pointer none, v] 116 (0, 0)) from blk_put BE.out 0 (.pointer (some ⟨l, 0, none⟩)) rfl)
  have mB_ := Aside0.mk (below_set (g := e) (j := 0) (v := .pointer (some ⟨l, 0, none⟩)) HB.out Ge.out)
  have mK_ := Aside0.mk (keep_new KB.out GK.out 0 (.pointer (some ⟨l, 0, none⟩)))
  clear HB KB BL BF BE
  generalize w1.setCell ⟨e, 0, none⟩ (.pointer (some ⟨l, 0, none⟩)) = w2 at mB_ mL_ mF_ mE_ mK_ ⊢
  have HB := mB_
  have KB := mK_
  have BL := mL_
  have BF := mF_
  have BE := mE_
  clear mB_ mL_ mF_ mE_ mK_
  have hcL0 : w2.cell? ⟨l, 0, none⟩ = some (.pointer (some ⟨f, 0, none⟩)) := (blk_cell BL.out 0).trans rfl
  have hfL0 : w2.frozen? ⟨l, 0, none⟩ = false := blk_frozen BL.out 0
  have hcL1 : w2.cell? ⟨l, 1, none⟩ = some (.pointer (some ⟨f, 0, none⟩)) := (blk_cell BL.out 1).trans rfl
  have hfL1 : w2.frozen? ⟨l, 1, none⟩ = false := blk_frozen BL.out 1
  have hcL2 : w2.cell? ⟨l, 2, none⟩ = some (.pointer none) := (blk_cell BL.out 2).trans rfl
  have hfL2 : w2.frozen? ⟨l, 2, none⟩ = false := blk_frozen BL.out 2
  have hcL3 : w2.cell? ⟨l, 3, none⟩ = some (.nilIface) := (blk_cell BL.out 3).trans rfl
  have hfL3 : w2.frozen? ⟨l, 3, none⟩ = false := blk_frozen BL.out 3
  have hcL4 : w2.cell? ⟨l, 4, none⟩ = some (.int .i64 1) := (blk_cell BL.out 4).trans rfl
  have hfL4 : w2.frozen? ⟨l, 4, none⟩ = false := blk_frozen BL.out 4
  have hcF0 : w2.cell? ⟨f, 0, none⟩ = some (.pointer (some ⟨l, 0, none⟩)) := (blk_cell BF.out 0).trans rfl
  have hfF0 : w2.frozen? ⟨f, 0, none⟩ = false := blk_frozen BF.out 0
  have hcF1 : w2.cell? ⟨f, 1, none⟩ = some (.pointer (some ⟨l, 0, none⟩)) := (blk_cell BF.out 1).trans rfl
  have hfF1 : w2.frozen? ⟨f, 1, none⟩ = false := blk_frozen BF.out 1
  have hcF2 : w2.cell? ⟨f, 2, none⟩ = some (.pointer (some ⟨l, 0, none⟩)) := (blk_cell BF.out 2).trans rfl
  have hfF2 : w2.frozen? ⟨f, 2, none⟩ = false := blk_frozen BF.out 2
  have hcF3 : w2.cell? ⟨f, 3, none⟩ = some (u) := (blk_cell BF.out 3).trans rfl
  have hfF3 : w2.frozen? ⟨f, 3, none⟩ = false := blk_frozen BF.out 3
  have hcE0 : w2.cell? ⟨e, 0, none⟩ = some (.pointer (some ⟨l, 0, none⟩)) := (blk_cell BE.out 0).trans rfl
  have hfE0 : w2.frozen? ⟨e, 0, none⟩ = false := blk_frozen BE.out 0
  have hcE1 : w2.cell? ⟨e, 1, none⟩ = some (.pointer (some ⟨f, 0, none⟩)) := (blk_cell BE.out 1).trans rfl
  have hfE1 : w2.frozen? ⟨e, 1, none⟩ = false := blk_frozen BE.out 1
  have hcE2 : w2.cell? ⟨e, 2, none⟩ = some (.pointer none) := (blk_cell BE.out 2).trans rfl
  have hfE2 : w2.frozen? ⟨e, 2, none⟩ = false := blk_frozen BE.out 2
  have hcE3 : w2.cell? ⟨e, 3, none⟩ = some (v) := (blk_cell BE.out 3).trans rfl
  have hfE3 : w2.frozen? ⟨e, 3, none⟩ = false := blk_frozen BE.out 3
  go_upto_region 4 with fail
  clear hcL0 hfL0 hcL1 hfL1 hcL2 hfL2 hcL3 hfL3 hcL4 hfL4 hcF0 hfF0 hcF1 hfF1 hcF2 hfF2 hcF3 hfF3 hcE0 hfE0 hcE1 hfE1 hcE2 hfE2 hcE3 hfE3
  have mL_ := Aside0.mk ((Below.heap_setCell w2 ⟨f, 0, none⟩ (.pointer (some ⟨e, 0, none⟩)) l (Nlf.out)).trans BL.out)
  have mF_ := Aside0.mk (show (w2.setCell ⟨f, 0, none⟩ (.pointer (some ⟨e, 0, none⟩))).heap[f]? = some (.cells #[.pointer (some ⟨e, 0, none⟩), .pointer (some ⟨l, 0, none⟩), .pointer (some ⟨l, 0, none⟩), u] 116 (0, 0)) from blk_put BF.out 0 (.pointer (some ⟨e, 0, none⟩)) rfl)
  have mE_ := Aside0.mk ((Below.heap_setCell w2 ⟨f, 0, none⟩ (.pointer (some ⟨e, 0, none⟩)) e (Nef.out)).trans BE.out)
  have mB_ := Aside0.mk (below_set (g := f) (j := 0) (v := .pointer (some ⟨e, 0, none⟩)) HB.out Gf.out)
  have mK_ := Aside0.mk (keep_row KB.out 0 (.pointer (some ⟨e, 0, none⟩)))
  clear HB KB BL BF BE
  generalize w2.setCell ⟨f, 0, none⟩ (.pointer (some ⟨e, 0, none⟩)) = w3 at mB_ mL_ mF_ mE_ mK_ ⊢
  have HB := mB_
  have KB := mK_
  have BL := mL_
  have BF := mF_
  have BE := mE_
  clear mB_ mL_ mF_ mE_ mK_
  have hcL0 : w3.cell? ⟨l, 0, none⟩ = some (.pointer (some ⟨f, 0, none⟩)) := (blk_cell BL.out 0).trans rfl
  have hfL0 : w3.frozen? ⟨l, 0, none⟩ = false := blk_frozen BL.out 0
  have hcL1 : w3.cell? ⟨l, 1, none⟩ = some (.pointer (some ⟨f, 0, none⟩)) := (blk_cell BL.out 1).trans rfl
  have hfL1 : w3.frozen? ⟨l, 1, none⟩ = false := blk_frozen BL.out 1
  have hcL2 : w3.cell? ⟨l, 2, none⟩ = some (.pointer none) := (blk_cell BL.out 2).trans rfl
  have hfL2 : w3.frozen? ⟨l, 2, none⟩ = false := blk_frozen BL.out 2
  have hcL3 : w3.cell? ⟨l, 3, none⟩ = some (.nilIface) := (blk_cell BL.out 3).trans rfl
  have hfL3 : w3.frozen? ⟨l, 3, none⟩ = false := blk_frozen BL.out 3
  have hcL4 : w3.cell? ⟨l, 4, none⟩ = some (.int .i64 1) := (blk_cell BL.out 4).trans rfl
  have hfL4 : w3.frozen? ⟨l, 4, none⟩ = false := blk_frozen BL.out 4
  have hcF0 : w3.cell? ⟨f, 0, none⟩ = some (.pointer (some ⟨e, 0, none⟩)) := (blk_cell BF.out 0).trans rfl
  have hfF0 : w3.frozen? ⟨f, 0, none⟩ = false := blk_frozen BF.out 0
  have hcF1 : w3.cell? ⟨f, 1, none⟩ = some (.pointer (some ⟨l, 0, none⟩)) := (blk_cell BF.out 1).trans rfl
  have hfF1 : w3.frozen? ⟨f, 1, none⟩ = false := blk_frozen BF.out 1
  have hcF2 : w3.cell? ⟨f, 2, none⟩ = some (.pointer (some ⟨l, 0, none⟩)) := (blk_cell BF.out 2).trans rfl
  have hfF2 : w3.frozen? ⟨f, 2, none⟩ = false := blk_frozen BF.out 2
  have hcF3 : w3.cell? ⟨f, 3, none⟩ = some (u) := (blk_cell BF.out 3).trans rfl
  have hfF3 : w3.frozen? ⟨f, 3, none⟩ = false := blk_frozen BF.out 3
  have hcE0 : w3.cell? ⟨e, 0, none⟩ = some (.pointer (some ⟨l, 0, none⟩)) := (blk_cell BE.out 0).trans rfl
  have hfE0 : w3.frozen? ⟨e, 0, none⟩ = false := blk_frozen BE.out 0
  have hcE1 : w3.cell? ⟨e, 1, none⟩ = some (.pointer (some ⟨f, 0, none⟩)) := (blk_cell BE.out 1).trans rfl
  have hfE1 : w3.frozen? ⟨e, 1, none⟩ = false := blk_frozen BE.out 1
  have hcE2 : w3.cell? ⟨e, 2, none⟩ = some (.pointer none) := (blk_cell BE.out 2).trans rfl
  have hfE2 : w3.frozen? ⟨e, 2, none⟩ = false := blk_frozen BE.out 2
  have hcE3 : w3.cell? ⟨e, 3, none⟩ = some (v) := (blk_cell BE.out 3).trans rfl
  have hfE3 : w3.frozen? ⟨e, 3, none⟩ = false := blk_frozen BE.out 3
  go_upto_region 5 with fail
  clear hcL0 hfL0 hcL1 hfL1 hcL2 hfL2 hcL3 hfL3 hcL4 hfL4 hcF0 hfF0 hcF1 hfF1 hcF2 hfF2 hcF3 hfF3 hcE0 hfE0 hcE1 hfE1 hcE2 hfE2 hcE3 hfE3
  have mL_ := Aside0.mk (show (w3.setCell ⟨l, 1, none⟩ (.pointer (some ⟨e, 0, none⟩))).heap[l]? = some (.cells #[.pointer (some ⟨f, 0, none⟩), .pointer (some ⟨e, 0, none⟩), .pointer none, .nilIface, .int .i64 1] 132 (0, 0)) from blk_put BL.out 1 (.pointer (some ⟨e, 0, none⟩)) rfl)
  have mF_ := Aside0.mk ((Below.heap_setCell w3 ⟨l, 1, none⟩ (.pointer (some ⟨e, 0, none⟩)) f (Nlf.out.symm)).trans BF.out)
  have mE_ := Aside0.mk ((Below.heap_setCell w3 ⟨l, 1, none⟩ (.pointer (some ⟨e, 0, none⟩)) e (Nle.out.symm)).trans BE.out)
  have mB_ := Aside0.mk (below_set (g := l) (j := 1) (v := .pointer (some ⟨e, 0, none⟩)) HB.out Gl.out)
  have mK_ := Aside0.mk (KeepBut.set_ KB.out 1 (.pointer (some ⟨e, 0, none⟩)))
  clear HB KB BL BF BE
  generalize w3.setCell ⟨l, 1, none⟩ (.pointer (some ⟨e, 0, none⟩)) = w4 at mB_ mL_ mF_ mE_ mK_ ⊢
  have HB := mB_
  have KB := mK_
  have BL := mL_
  have BF := mF_
  have BE := mE_
  clear mB_ mL_ mF_ mE_ mK_
  have hcL0 : w4.cell? ⟨l, 0, none⟩ = some (.pointer (some ⟨f, 0, none⟩)) := (blk_cell BL.out 0).trans rfl
  have hfL0 : w4.frozen? ⟨l, 0, none⟩ = false := blk_frozen BL.out 0
  have hcL1 : w4.cell? ⟨l, 1, none⟩ = some (.pointer (some ⟨e, 0, none⟩)) := (blk_cell BL.out 1).trans rfl
  have hfL1 : w4.frozen? ⟨l, 1, none⟩ = false := blk_frozen BL.out 1
  have hcL2 : w4.cell? ⟨l, 2, none⟩ = some (.pointer none) := (blk_cell BL.out 2).trans rfl
  have hfL2 : w4.frozen? ⟨l, 2, none⟩ = false := blk_frozen BL.out 2
  have hcL3 : w4.cell? ⟨l, 3, none⟩ = some (.nilIface) := (blk_cell BL.out 3).trans rfl
  have hfL3 : w4.frozen? ⟨l, 3, none⟩ = false := blk_frozen BL.out 3
  have hcL4 : w4.cell? ⟨l, 4, none⟩ = some (.int .i64 1) := (blk_cell BL.out 4).trans rfl
  have hfL4 : w4.frozen? ⟨l, 4, none⟩ = false := blk_frozen BL.out 4
  have hcF0 : w4.cell? ⟨f, 0, none⟩ = some (.pointer (some ⟨e, 0, none⟩)) := (blk_cell BF.out 0).trans rfl
  have hfF0 : w4.frozen? ⟨f, 0, none⟩ = false := blk_frozen BF.out 0
  have hcF1 : w4.cell? ⟨f, 1, none⟩ = some (.pointer (some ⟨l, 0, none⟩)) := (blk_cell BF.out 1).trans rfl
  have hfF1 : w4.frozen? ⟨f, 1, none⟩ = false := blk_frozen BF.out 1
  have hcF2 : w4.cell? ⟨f, 2, none⟩ = some (.pointer (some ⟨l, 0, none⟩)) := (blk_cell BF.out 2).trans rfl
  have hfF2 : w4.frozen? ⟨f, 2, none⟩ = false := blk_frozen BF.out 2
  have hcF3 : w4.cell? ⟨f, 3, none⟩ = some (u) := (blk_cell BF.out 3).trans rfl
  have hfF3 : w4.frozen? ⟨f, 3, none⟩ = false := blk_frozen BF.out 3
  have hcE0 : w4.cell? ⟨e, 0, none⟩ = some (.pointer (some ⟨l, 0, none⟩)) := (blk_cell BE.out 0).trans rfl
  have hfE0 : w4.frozen? ⟨e, 0, none⟩ = false := blk_frozen BE.out 0
  have hcE1 : w4.cell? ⟨e, 1, none⟩ = some (.pointer (some ⟨f, 0, none⟩)) := (blk_cell BE.out 1).trans rfl
  have hfE1 : w4.frozen? ⟨e, 1, none⟩ = false := blk_frozen BE.out 1
  have hcE2 : w4.cell? ⟨e, 2, none⟩ = some (.pointer none) := (blk_cell BE.out 2).trans rfl
  have hfE2 : w4.frozen? ⟨e, 2, none⟩ = false := blk_frozen BE.out 2
  have hcE3 : w4.cell? ⟨e, 3, none⟩ = some (v) := (blk_cell BE.out 3).trans rfl
  have hfE3 : w4.frozen? ⟨e, 3, none⟩ = false := blk_frozen BE.out 3
  go_upto_region 6 with fail
  clear hcL0 hfL0 hcL1 hfL1 hcL2 hfL2 hcL3 hfL3 hcL4 hfL4 hcF0 hfF0 hcF1 hfF1 hcF2 hfF2 hcF3 hfF3 hcE0 hfE0 hcE1 hfE1 hcE2 hfE2 hcE3 hfE3
  have mL_ := Aside0.mk ((Below.heap_setCell w4 ⟨e, 2, none⟩ (.pointer (some ⟨l, 0, none⟩)) l (Nle.out)).trans BL.out)
  have mF_ := Aside0.mk ((Below.heap_setCell w4 ⟨e, 2, none⟩ (.pointer (some ⟨l, 0, none⟩)) f (Nef.out.symm)).trans BF.out)
  have mE_ := Aside0.mk (show (w4.setCell ⟨e, 2, none⟩ (.pointer (some ⟨l, 0, none⟩))).heap[e]? = some (.cells #[.pointer (some ⟨l, 0, none⟩), .pointer (some ⟨f, 0, none⟩), .pointer (some ⟨l, 0, none⟩), v] 116 (0, 0)) from blk_put BE.out 2 (.pointer (some ⟨l, 0, none⟩)) rfl)
  have mB_ := Aside0.mk (below_set (g := e) (j := 2) (v := .pointer (some ⟨l, 0, none⟩)) HB.out Ge.out)
  have mK_ := Aside0.mk (keep_new KB.out GK.out 2 (.pointer (some ⟨l, 0, none⟩)))
  clear HB KB BL BF BE
  generalize w4.setCell ⟨e, 2, none⟩ (.pointer (some ⟨l, 0, none⟩)) = w5 at mB_ mL_ mF_ mE_ mK_ ⊢
  have HB := mB_
  have KB := mK_
  have BL := mL_
  have BF := mF_
  have BE := mE_
  clear mB_ mL_ mF_ mE_ mK_
  have hcL0 : w5.cell? ⟨l, 0, none⟩ = some (.pointer (some ⟨f, 0, none⟩)) := (blk_cell BL.out 0).trans rfl
  have hfL0 : w5.frozen? ⟨l, 0, none⟩ = false := blk_frozen BL.out 0
  have hcL1 : w5.cell? ⟨l, 1, none⟩ = some (.pointer (some ⟨e, 0, none⟩)) := (blk_cell BL.out 1).trans rfl
  have hfL1 : w5.frozen? ⟨l, 1, none⟩ = false := blk_frozen BL.out 1
  have hcL2 : w5.cell? ⟨l, 2, none⟩ = some (.pointer none) := (blk_cell BL.out 2).trans rfl
  have hfL2 : w5.frozen? ⟨l, 2, none⟩ = false := blk_frozen BL.out 2
  have hcL3 : w5.cell? ⟨l, 3, none⟩ = some (.nilIface) := (blk_cell BL.out 3).trans rfl
  have hfL3 : w5.frozen? ⟨l, 3, none⟩ = false := blk_frozen BL.out 3
  have hcL4 : w5.cell? ⟨l, 4, none⟩ = some (.int .i64 1) := (blk_cell BL.out 4).trans rfl
  have hfL4 : w5.frozen? ⟨l, 4, none⟩ = false := blk_frozen BL.out 4
  have hcF0 : w5.cell? ⟨f, 0, none⟩ = some (.pointer (some ⟨e, 0, none⟩)) := (blk_cell BF.out 0).trans rfl
  have hfF0 : w5.frozen? ⟨f, 0, none⟩ = false := blk_frozen BF.out 0
  have hcF1 : w5.cell? ⟨f, 1, none⟩ = some (.pointer (some ⟨l, 0, none⟩)) := (blk_cell BF.out 1).trans rfl
  have hfF1 : w5.frozen? ⟨f, 1, none⟩ = false := blk_frozen BF.out 1
  have hcF2 : w5.cell? ⟨f, 2, none⟩ = some (.pointer (some ⟨l, 0, none⟩)) := (blk_cell BF.out 2).trans rfl
  have hfF2 : w5.frozen? ⟨f, 2, none⟩ = false := blk_frozen BF.out 2
  have hcF3 : w5.cell? ⟨f, 3, none⟩ = some (u) := (blk_cell BF.out 3).trans rfl
  have hfF3 : w5.frozen? ⟨f, 3, none⟩ = false := blk_frozen BF.out 3
  have hcE0 : w5.cell? ⟨e, 0, none⟩ = some (.pointer (some ⟨l, 0, none⟩)) := (blk_cell BE.out 0).trans rfl
  have hfE0 : w5.frozen? ⟨e, 0, none⟩ = false := blk_frozen BE.out 0
  have hcE1 : w5.cell? ⟨e, 1, none⟩ = some (.pointer (some ⟨f, 0, none⟩)) := (blk_cell BE.out 1).trans rfl
  have hfE1 : w5.frozen? ⟨e, 1, none⟩ = false := blk_frozen BE.out 1
  have hcE2 : w5.cell? ⟨e, 2, none⟩ = some (.pointer (some ⟨l, 0, none⟩)) := (blk_cell BE.out 2).trans rfl
  have hfE2 : w5.frozen? ⟨e, 2, none⟩ = false := blk_frozen BE.out 2
  have hcE3 : w5.cell? ⟨e, 3, none⟩ = some (v) := (blk_cell BE.out 3).trans rfl
  have hfE3 : w5.frozen? ⟨e, 3, none⟩ = false := blk_frozen BE.out 3
  go_upto_region 7 with fail
  clear hcL0 hfL0 hcL1 hfL1 hcL2 hfL2 hcL3 hfL3 hcL4 hfL4 hcF0 hfF0 hcF1 hfF1 hcF2 hfF2 hcF3 hfF3 hcE0 hfE0 hcE1 hfE1 hcE2 hfE2 hcE3 hfE3
  have mL_ := Aside0.mk (show (w5.setCell ⟨l, 4, none⟩ (.int .i64 2)).heap[l]? = some (.cells #[.pointer (some ⟨f, 0, none⟩), .pointer (some ⟨e, 0, none⟩), .pointer none, .nilIface, .int .i64 2] 132 (0, 0)) from blk_put BL.out 4 (.int .i64 2) rfl)
  have mF_ := Aside0.mk ((Below.heap_setCell w5 ⟨l, 4, none⟩ (.int .i64 2) f (Nlf.out.symm)).trans BF.out)
  have mE_ := Aside0.mk ((Below.heap_setCell w5 ⟨l, 4, none⟩ (.int .i64 2) e (Nle.out.symm)).trans BE.out)
  have mB_ := Aside0.mk (below_set (g := l) (j := 4) (v := .int .i64 2) HB.out Gl.out)
  have mK_ := Aside0.mk (KeepBut.set_ KB.out 4 (.int .i64 2))
  clear HB KB BL BF BE
  generalize w5.setCell ⟨l, 4, none⟩ (.int .i64 2) = w6 at mB_ mL_ mF_ mE_ mK_ ⊢
  have HB := mB_
  have KB := mK_
  have BL := mL_
  have BF := mF_
  have BE := mE_
  clear mB_ mL_ mF_ mE_ mK_
  go_wp2
  go_ret
  exact ⟨by rfl, BL.out, BF.out, BE.out, HB.out, KB.out⟩
set_option maxHeartbeats 4000000 in
set_option maxRecDepth 100000 in
theorem valA (l ty : Nat) (v : Value) (w0 w : World) (hL : w.heap[l]? = some (.cells #[.pointer (some ⟨l, 0, none⟩), .pointer (some ⟨l, 0, none⟩), .pointer none, .nilIface, .int .i64 0] 132 (0, 0))) (gl : w0.heap.size ≤ l) (hB : Below w0.heap.size w0 w) :
    Calls Try.prog 65 #[.pointer (some ⟨l, 0, none⟩), .iface ty v, .pointer (some ⟨l, 0, none⟩)] w fun ex w' => ∃ e, w0.heap.size ≤ e ∧ w.heap.size ≤ e ∧ l ≠ e ∧ ex = .returned (.pointer (some ⟨e, 0, none⟩)) ∧ w'.heap[l]? = some (.cells #[.pointer (some ⟨e, 0, none⟩), .pointer (some ⟨e, 0, none⟩), .pointer none, .nilIface, .int .i64 1] 132 (0, 0)) ∧ w'.heap[e]? = some (.cells #[.pointer (some ⟨l, 0, none⟩), .pointer (some ⟨l, 0, none⟩), .pointer (some ⟨l, 0, none⟩), .iface ty v] 116 (0, 0)) ∧ Below w0.heap.size w0 w' ∧ KeepBut w w' l (none) := by
  have BL := Aside0.mk hL
  have Gl := Aside0.mk gl
  have HB := Aside0.mk hB
  clear hB hL gl
  go_enter Try.func65, Try.ntmps65
  go_wp2_with (go_at_call 74; refine (insA l w.heap.size (.iface ty v) w0 w _ (blk_alloc BL.out _) (blk_new _ _) (Nat.ne_of_lt (blk_lt BL.out)) Gl.out (below_size HB.out) (below_alloc HB.out _) (KeepBut.of_below (below_alloc (Below.refl _ _) _) _ _) (Nat.le_refl _)).mono ?_; rintro ex w1 ⟨rfl, hl1, he1, hb, hk⟩)
  go_ret
  exact ⟨w.heap.size, below_size HB.out, Nat.le_refl _, Nat.ne_of_lt (blk_lt BL.out), by rfl, hl1, he1, hb, hk⟩
set_option maxHeartbeats 4000000 in
set_option maxRecDepth 100000 in
theorem valB (l f tu ty : Nat) (u v : Value) (w0 w : World) (hL : w.heap[l]? = some (.cells #[.pointer (some ⟨f, 0, none⟩), .pointer (some ⟨f, 0, none⟩), .pointer none, .nilIface, .int .i64 1] 132 (0, 0))) (hF : w.heap[f]? = some (.cells #[.pointer (some ⟨l, 0, none⟩), .pointer (some ⟨l, 0, none⟩), .pointer (some ⟨l, 0, none⟩), .iface tu u] 116 (0, 0))) (gl : w0.heap.size ≤ l) (gf : w0.heap.size ≤ f) (nlf : l ≠ f) (hB : Below w0.heap.size w0 w) :
    Calls Try.prog 65 #[.pointer (some ⟨l, 0, none⟩), .iface ty v, .pointer (some ⟨f, 0, none⟩)] w fun ex w' => ∃ e, w0.heap.size ≤ e ∧ w.heap.size ≤ e ∧ l ≠ e ∧ f ≠ e ∧ ex = .returned (.pointer (some ⟨e, 0, none⟩)) ∧ w'.heap[l]? = some (.cells #[.pointer (some ⟨f, 0, none⟩), .pointer (some ⟨e, 0, none⟩), .pointer none, .nilIface, .int .i64 2] 132 (0, 0)) ∧ w'.heap[f]? = some (.cells #[.pointer (some ⟨e, 0, none⟩), .pointer (some ⟨l, 0, none⟩), .pointer (some ⟨l, 0, none⟩), .iface tu u] 116 (0, 0)) ∧ w'.heap[e]? = some (.cells #[.pointer (some ⟨l, 0, none⟩), .pointer (some ⟨f, 0, none⟩), .pointer (some ⟨l, 0, none⟩), .iface ty v] 116 (0, 0)) ∧ Below w0.heap.size w0 w' ∧ KeepBut w w' l (some f) := by
  have BL := Aside0.mk hL
  have BF := Aside0.mk hF
  have Gl := Aside0.mk gl
  have Gf := Aside0.mk gf
  have HB := Aside0.mk hB
  clear hB hL hF gl gf
  have NLF := Aside0.mk nlf
  clear nlf
  go_enter Try.func65, Try.ntmps65
  go_wp2_with (go_at_call 74; refine (insB l w.heap.size f (.iface ty v) (.iface tu u) w0 w _ (blk_alloc BL.out _) (blk_alloc BF.out _) (blk_new _ _) (Nat.ne_of_lt (blk_lt BL.out)) NLF.out (Nat.ne_of_gt (blk_lt BF.out)) Gl.out (below_size HB.out) Gf.out (below_alloc HB.out _) (KeepBut.of_below (below_alloc (Below.refl _ _) _) _ _) (Nat.le_refl _)).mono ?_; rintro ex w1 ⟨rfl, hl1, hf1, he1, hb, hk⟩)
  go_ret
  exact ⟨w.heap.size, below_size HB.out, Nat.le_refl _, Nat.ne_of_lt (blk_lt BL.out), Nat.ne_of_lt (blk_lt BF.out), by rfl, hl1, hf1, he1, hb, hk⟩
set_option maxHeartbeats 4000000 in
set_option maxRecDepth 100000 in
theorem pushA (l ty : Nat) (v : Value) (w0 w : World) (hL : w.heap[l]? = some (.cells #[.pointer (some ⟨l, 0, none⟩), .pointer (some ⟨l, 0, none⟩), .pointer none, .nilIface, .int .i64 0] 132 (0, 0))) (gl : w0.heap.size ≤ l) (hB : Below w0.heap.size w0 w) :
    Calls Try.prog 56 #[.pointer (some ⟨l, 0, none⟩), .iface ty v] w fun ex w' => ∃ e, w0.heap.size ≤ e ∧ w.heap.size ≤ e ∧ l ≠ e ∧ ex = .returned (.pointer (some ⟨e, 0, none⟩)) ∧ w'.heap[l]? = some (.cells #[.pointer (some ⟨e, 0, none⟩), .pointer (some ⟨e, 0, none⟩), .pointer none, .nilIface, .int .i64 1] 132 (0, 0)) ∧ w'.heap[e]? = some (.cells #[.pointer (some ⟨l, 0, none⟩), .pointer (some ⟨l, 0, none⟩), .pointer (some ⟨l, 0, none⟩), .iface ty v] 116 (0, 0)) ∧ Below w0.heap.size w0 w' ∧ KeepBut w w' l (none) := by
  have BL := Aside0.mk hL
  have Gl := Aside0.mk gl
  have HB := Aside0.mk hB
  clear hB hL gl
  have hcL0 : w.cell? ⟨l, 0, none⟩ = some (.pointer (some ⟨l, 0, none⟩)) := (blk_cell BL.out 0).trans rfl
  have hfL0 : w.frozen? ⟨l, 0, none⟩ = false := blk_frozen BL.out 0
  have hcL1 : w.cell? ⟨l, 1, none⟩ = some (.pointer (some ⟨l, 0, none⟩)) := (blk_cell BL.out 1).trans rfl
  have hfL1 : w.frozen? ⟨l, 1, none⟩ = false := blk_frozen BL.out 1
  have hcL2 : w.cell? ⟨l, 2, none⟩ = some (.pointer none) := (blk_cell BL.out 2).trans rfl
  have hfL2 : w.frozen? ⟨l, 2, none⟩ = false := blk_frozen BL.out 2
  have hcL3 : w.cell? ⟨l, 3, none⟩ = some (.nilIface) := (blk_cell BL.out 3).trans rfl
  have hfL3 : w.frozen? ⟨l, 3, none⟩ = false := blk_frozen BL.out 3
  have hcL4 : w.cell? ⟨l, 4, none⟩ = some (.int .i64 0) := (blk_cell BL.out 4).trans rfl
  have hfL4 : w.frozen? ⟨l, 4, none⟩ = false := blk_frozen BL.out 4
  go_enter Try.func56, Try.ntmps56
  go_wp2_with (first
    | (go_at_call 64; refine (lazy_ l l l 0 _ BL.out).mono ?_; rintro ex w1 ⟨rfl, rfl⟩)
    | (go_at_call 65; refine (valA l ty v w0 _ BL.out Gl.out HB.out).mono ?_; rintro ex w2 ⟨e, h1, h1b, h2, rfl, h3, h4, hb, hk⟩))
  go_ret
  exact ⟨e, h1, h1b, h2, by rfl, h3, h4, hb, hk⟩
set_option maxHeartbeats 4000000 in
set_option maxRecDepth 100000 in
theorem pushB (l f tu ty : Nat) (u v : Value) (w0 w : World) (hL : w.heap[l]? = some (.cells #[.pointer (some ⟨f, 0, none⟩), .pointer (some ⟨f, 0, none⟩), .pointer none, .nilIface, .int .i64 1] 132 (0, 0))) (hF : w.heap[f]? = some (.cells #[.pointer (some ⟨l, 0, none⟩), .pointer (some ⟨l, 0, none⟩), .pointer (some ⟨l, 0, none⟩), .iface tu u] 116 (0, 0))) (gl : w0.heap.size ≤ l) (gf : w0.heap.size ≤ f) (nlf : l ≠ f) (hB : Below w0.heap.size w0 w) :
    Calls Try.prog 56 #[.pointer (some ⟨l, 0, none⟩), .iface ty v] w fun ex w' => ∃ e, w0.heap.size ≤ e ∧ w.heap.size ≤ e ∧ l ≠ e ∧ f ≠ e ∧ ex = .returned (.pointer (some ⟨e, 0, none⟩)) ∧ w'.heap[l]? = some (.cells #[.pointer (some ⟨f, 0, none⟩), .pointer (some ⟨e, 0, none⟩), .pointer none, .nilIface, .int .i64 2] 132 (0, 0)) ∧ w'.heap[f]? = some (.cells #[.pointer (some ⟨e, 0, none⟩), .pointer (some ⟨l, 0, none⟩), .pointer (some ⟨l, 0, none⟩), .iface tu u] 116 (0, 0)) ∧ w'.heap[e]? = some (.cells #[.pointer (some ⟨l, 0, none⟩), .pointer (some ⟨f, 0, none⟩), .pointer (some ⟨l, 0, none⟩), .iface ty v] 116 (0, 0)) ∧ Below w0.heap.size w0 w' ∧ KeepBut w w' l (some f) := by
  have BL := Aside0.mk hL
  have BF := Aside0.mk hF
  have Gl := Aside0.mk gl
  have Gf := Aside0.mk gf
  have HB := Aside0.mk hB
  clear hB hL hF gl gf
  have NLF := Aside0.mk nlf
  clear nlf
  have hcL0 : w.cell? ⟨l, 0, none⟩ = some (.pointer (some ⟨f, 0, none⟩)) := (blk_cell BL.out 0).trans rfl
  have hfL0 : w.frozen? ⟨l, 0, none⟩ = false := blk_frozen BL.out 0
  have hcL1 : w.cell? ⟨l, 1, none⟩ = some (.pointer (some ⟨f, 0, none⟩)) := (blk_cell BL.out 1).trans rfl
  have hfL1 : w.frozen? ⟨l, 1, none⟩ = false := blk_frozen BL.out 1
  have hcL2 : w.cell? ⟨l, 2, none⟩ = some (.pointer none) := (blk_cell BL.out 2).trans rfl
  have hfL2 : w.frozen? ⟨l, 2, none⟩ = false := blk_frozen BL.out 2
  have hcL3 : w.cell? ⟨l, 3, none⟩ = some (.nilIface) := (blk_cell BL.out 3).trans rfl
  have hfL3 : w.frozen? ⟨l, 3, none⟩ = false := blk_frozen BL.out 3
  have hcL4 : w.cell? ⟨l, 4, none⟩ = some (.int .i64 1) := (blk_cell BL.out 4).trans rfl
  have hfL4 : w.frozen? ⟨l, 4, none⟩ = false := blk_frozen BL.out 4
  go_enter Try.func56, Try.ntmps56
  go_wp2_with (first
    | (go_at_call 64; refine (lazy_ l f f 1 _ BL.out).mono ?_; rintro ex w1 ⟨rfl, rfl⟩)
    | (go_at_call 65; refine (valB l f tu ty u v w0 _ BL.out BF.out Gl.out Gf.out NLF.out HB.out).mono ?_; rintro ex w2 ⟨e, h1, h1b, h2, h2b, rfl, h3, h4, h5, hb, hk⟩))
  go_ret
  exact ⟨e, h1, h1b, h2, h2b, by rfl, h3, h4, h5, hb, hk⟩
set_option maxHeartbeats 4000000 in
set_option maxRecDepth 100000 in
theorem front (l f e : Nat) (w : World) (hl : w.heap[l]? = some (.cells #[.pointer (some ⟨f, 0, none⟩), .pointer (some ⟨e, 0, none⟩), .pointer none, .nilIface, .int .i64 2] 132 (0, 0))) : Calls Try.prog 50 #[.pointer (some ⟨l, 0, none⟩)] w fun x w' => x = .returned (.pointer (some ⟨f, 0, none⟩)) ∧ w' = w := by
  have BL := Aside0.mk hl
  clear hl
  have hcL0 : w.cell? ⟨l, 0, none⟩ = some (.pointer (some ⟨f, 0, none⟩)) := (blk_cell BL.out 0).trans rfl
  have hfL0 : w.frozen? ⟨l, 0, none⟩ = false := blk_frozen BL.out 0
  have hcL1 : w.cell? ⟨l, 1, none⟩ = some (.pointer (some ⟨e, 0, none⟩)) := (blk_cell BL.out 1).trans rfl
  have hfL1 : w.frozen? ⟨l, 1, none⟩ = false := blk_frozen BL.out 1
  have hcL2 : w.cell? ⟨l, 2, none⟩ = some (.pointer none) := (blk_cell BL.out 2).trans rfl
  have hfL2 : w.frozen? ⟨l, 2, none⟩ = false := blk_frozen BL.out 2
  have hcL3 : w.cell? ⟨l, 3, none⟩ = some (.nilIface) := (blk_cell BL.out 3).trans rfl
  have hfL3 : w.frozen? ⟨l, 3, none⟩ = false := blk_frozen BL.out 3
  have hcL4 : w.cell? ⟨l, 4, none⟩ = some (.int .i64 2) := (blk_cell BL.out 4).trans rfl
  have hfL4 : w.frozen? ⟨l, 4, none⟩ = false := blk_frozen BL.out 4
  go_enter Try.func50, Try.ntmps50
  go_wp2
  go_ret
  exact ⟨by rfl, rfl⟩
set_option maxHeartbeats 4000000 in
set_option maxRecDepth 100000 in
theorem back (l f e : Nat) (w : World) (hl : w.heap[l]? = some (.cells #[.pointer (some ⟨f, 0, none⟩), .pointer (some ⟨e, 0, none⟩), .pointer none, .nilIface, .int .i64 2] 132 (0, 0))) : Calls Try.prog 51 #[.pointer (some ⟨l, 0, none⟩)] w fun x w' => x = .returned (.pointer (some ⟨e, 0, none⟩)) ∧ w' = w := by
  have BL := Aside0.mk hl
  clear hl
  have hcL0 : w.cell? ⟨l, 0, none⟩ = some (.pointer (some ⟨f, 0, none⟩)) := (blk_cell BL.out 0).trans rfl
  have hfL0 : w.frozen? ⟨l, 0, none⟩ = false := blk_frozen BL.out 0
  have hcL1 : w.cell? ⟨l, 1, none⟩ = some (.pointer (some ⟨e, 0, none⟩)) := (blk_cell BL.out 1).trans rfl
  have hfL1 : w.frozen? ⟨l, 1, none⟩ = false := blk_frozen BL.out 1
  have hcL2 : w.cell? ⟨l, 2, none⟩ = some (.pointer none) := (blk_cell BL.out 2).trans rfl
  have hfL2 : w.frozen? ⟨l, 2, none⟩ = false := blk_frozen BL.out 2
  have hcL3 : w.cell? ⟨l, 3, none⟩ = some (.nilIface) := (blk_cell BL.out 3).trans rfl
  have hfL3 : w.frozen? ⟨l, 3, none⟩ = false := blk_frozen BL.out 3
  have hcL4 : w.cell? ⟨l, 4, none⟩ = some (.int .i64 2) := (blk_cell BL.out 4).trans rfl
  have hfL4 : w.frozen? ⟨l, 4, none⟩ = false := blk_frozen BL.out 4
  go_enter Try.func51, Try.ntmps51
  go_wp2
  go_ret
  exact ⟨by rfl, rfl⟩
set_option maxHeartbeats 4000000 in
set_option maxRecDepth 100000 in
theorem len_ (l f e : Nat) (w : World) (hl : w.heap[l]? = some (.cells #[.pointer (some ⟨f, 0, none⟩), .pointer (some ⟨e, 0, none⟩), .pointer none, .nilIface, .int .i64 2] 132 (0, 0))) : Calls Try.prog 48 #[.pointer (some ⟨l, 0, none⟩)] w fun x w' => x = .returned (.int .i64 2) ∧ w' = w := by
  have BL := Aside0.mk hl
  clear hl
  have hcL0 : w.cell? ⟨l, 0, none⟩ = some (.pointer (some ⟨f, 0, none⟩)) := (blk_cell BL.out 0).trans rfl
  have hfL0 : w.frozen? ⟨l, 0, none⟩ = false := blk_frozen BL.out 0
  have hcL1 : w.cell? ⟨l, 1, none⟩ = some (.pointer (some ⟨e, 0, none⟩)) := (blk_cell BL.out 1).trans rfl
  have hfL1 : w.frozen? ⟨l, 1, none⟩ = false := blk_frozen BL.out 1
  have hcL2 : w.cell? ⟨l, 2, none⟩ = some (.pointer none) := (blk_cell BL.out 2).trans rfl
  have hfL2 : w.frozen? ⟨l, 2, none⟩ = false := blk_frozen BL.out 2
  have hcL3 : w.cell? ⟨l, 3, none⟩ = some (.nilIface) := (blk_cell BL.out 3).trans rfl
  have hfL3 : w.frozen? ⟨l, 3, none⟩ = false := blk_frozen BL.out 3
  have hcL4 : w.cell? ⟨l, 4, none⟩ = some (.int .i64 2) := (blk_cell BL.out 4).trans rfl
  have hfL4 : w.frozen? ⟨l, 4, none⟩ = false := blk_frozen BL.out 4
  go_enter Try.func48, Try.ntmps48
  go_wp2
  go_ret
  exact ⟨by rfl, rfl⟩
end Go.Proofs.Ytjefbpfpobgmaaa.FrQ
