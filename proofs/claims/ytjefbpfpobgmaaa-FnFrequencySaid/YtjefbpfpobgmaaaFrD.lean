/- FnFrequency, walks: a number of the package as one of the thin package. No conditions. -/
import Derived.Test.YtjefbpfpobgmaaaFrB
namespace Go.Proofs.Ytjefbpfpobgmaaa.FrD
open Go.RowKit Go.Proofs.YtjefbpfpobgmaaaW.PrintWords Go.Proofs.YtjefbpfpobgmaaaW.PrintLast Go.Proofs.YtjefbpfpobgmaaaW.PrintMore Go.Proofs.Ytjefbpfpobgmaaa.FrA Go.Proofs.Ytjefbpfpobgmaaa.FrB
set_option linter.unusedVariables false
set_option linter.unusedSimpArgs false
attribute [local go_sem] Flt.run_store_float
set_option maxHeartbeats 2000000 in
set_option maxRecDepth 100000 in
theorem out_num (n : Int) (w : World) : Calls Try.prog 28 #[numI n] w fun e w' => e = .returned (numI n) ∧ Below w.heap.size w w' := by
  have HB := Aside0.mk (Below.refl w.heap.size w)
  go_enter Try.func28, Try.ntmps28
  go_wp2
  refine wp_loop_rounds 1 ?_
  rw [rounds_succ]
  go_wp2
  refine bodyPost_ret (results_cell_row rfl _ _ (w.heap.size + 1) 42 #[.int .i64 1, .float .f64 (fl n), .string ⟨#[]⟩, .slice none 0 0] (0, 0) _ rfl (blk_alloc (by have h_ := blk_new (w.alloc (.cells #[.int .i64 1, .float .f64 (fl n), .string ⟨#[]⟩, .slice none 0 0] 62)) (.cells #[.int .i64 1, .float .f64 (fl n), .string ⟨#[]⟩, .slice none 0 0] 42); rw [World.size_alloc] at h_; exact h_) _) Try.underlying42 rfl (by kernel_rfl)) rfl ?_
  exact ⟨by rfl, below_alloc (below_alloc (below_alloc HB.out _) _) _⟩
end Go.Proofs.Ytjefbpfpobgmaaa.FrD
