/- FnFrequency, walks: a number as the package's argument and back. Conditions: the number's size. -/
import Derived.Test.YtjefbpfpobgmaaaFrB
namespace Go.Proofs.Ytjefbpfpobgmaaa.FrC
open Go.RowKit Go.Proofs.YtjefbpfpobgmaaaW.PrintWords Go.Proofs.YtjefbpfpobgmaaaW.PrintLast Go.Proofs.YtjefbpfpobgmaaaW.PrintMore Go.Proofs.Ytjefbpfpobgmaaa.FrA Go.Proofs.Ytjefbpfpobgmaaa.FrB
set_option linter.unusedVariables false
set_option linter.unusedSimpArgs false
attribute [local go_sem] Flt.run_store_float
set_option maxHeartbeats 2000000 in
set_option maxRecDepth 100000 in
theorem inner_num (n : Int) (h : -500 ≤ n ∧ n ≤ 500) (w : World) : Calls Try.prog 57 #[numI n] w fun e w' => e = .returned (.agg (argN (fl n))) ∧ Below w.heap.size w w' := by
  have HB := Aside0.mk (Below.refl w.heap.size w)
  have A := Aside0.mk (fun W => number n h W)
  clear h
  go_enter Try.func57, Try.ntmps57
  go_wp2_with (go_at_call 53; refine (A.out _).mono ?_; rintro e w2 ⟨rfl, hb⟩; have n0_ := Aside0.mk (below_step (by repeat (first | (with_reducible first | exact HB.out | apply below_alloc | apply pw_below_drewN | apply below_drew1) | exact HB.out)) hb); have h_ := blk_below (blk_new (w.alloc _) _) hb; rw [World.size_alloc] at h_; have BZ := Aside0.mk (show w2.heap[w.heap.size + 1]? = some (.cells #[.string ⟨#[]⟩, .float .f64 0, .string ⟨#[]⟩, .slice none 0 0, .slice none 0 0, .bool false, .string ⟨#[]⟩, .int .u8 0, .pointer none, .pointer none] 96 (0, 0)) from h_); clear h_ hb HB; have HB := n0_; clear n0_; have hc0 : w2.cell? ⟨w.heap.size + 1, 0, none⟩ = some (.string ⟨#[]⟩) := blk_cell BZ.out 0; have hf0 : w2.frozen? ⟨w.heap.size + 1, 0, none⟩ = false := blk_frozen BZ.out 0; have hc1 : w2.cell? ⟨w.heap.size + 1, 1, none⟩ = some (.float .f64 0) := blk_cell BZ.out 1; have hf1 : w2.frozen? ⟨w.heap.size + 1, 1, none⟩ = false := blk_frozen BZ.out 1; have hc2 : w2.cell? ⟨w.heap.size + 1, 2, none⟩ = some (.string ⟨#[]⟩) := blk_cell BZ.out 2; have hf2 : w2.frozen? ⟨w.heap.size + 1, 2, none⟩ = false := blk_frozen BZ.out 2; have hc3 : w2.cell? ⟨w.heap.size + 1, 3, none⟩ = some (.slice none 0 0) := blk_cell BZ.out 3; have hf3 : w2.frozen? ⟨w.heap.size + 1, 3, none⟩ = false := blk_frozen BZ.out 3; have hc4 : w2.cell? ⟨w.heap.size + 1, 4, none⟩ = some (.slice none 0 0) := blk_cell BZ.out 4; have hf4 : w2.frozen? ⟨w.heap.size + 1, 4, none⟩ = false := blk_frozen BZ.out 4; have hc5 : w2.cell? ⟨w.heap.size + 1, 5, none⟩ = some (.bool false) := blk_cell BZ.out 5; have hf5 : w2.frozen? ⟨w.heap.size + 1, 5, none⟩ = false := blk_frozen BZ.out 5; have hc6 : w2.cell? ⟨w.heap.size + 1, 6, none⟩ = some (.string ⟨#[]⟩) := blk_cell BZ.out 6; have hf6 : w2.frozen? ⟨w.heap.size + 1, 6, none⟩ = false := blk_frozen BZ.out 6; have hc7 : w2.cell? ⟨w.heap.size + 1, 7, none⟩ = some (.int .u8 0) := blk_cell BZ.out 7; have hf7 : w2.frozen? ⟨w.heap.size + 1, 7, none⟩ = false := blk_frozen BZ.out 7; have hc8 : w2.cell? ⟨w.heap.size + 1, 8, none⟩ = some (.pointer none) := blk_cell BZ.out 8; have hf8 : w2.frozen? ⟨w.heap.size + 1, 8, none⟩ = false := blk_frozen BZ.out 8; have hc9 : w2.cell? ⟨w.heap.size + 1, 9, none⟩ = some (.pointer none) := blk_cell BZ.out 9; have hf9 : w2.frozen? ⟨w.heap.size + 1, 9, none⟩ = false := blk_frozen BZ.out 9)
  refine bodyPost_ret (results_cell_row rfl _ _ (w.heap.size + 1) 96 (argN (fl n)) (0, 0) _ rfl (show (Flt.sets w2 (w.heap.size + 1) 0 (argN (fl n)).toList).heap[w.heap.size + 1]? = some (.cells (argN (fl n)) 96 (0, 0)) from Flt.sets_all (argN (fl n)).toList BZ.out rfl) Try.underlying96 rfl (by kernel_rfl)) rfl ?_
  exact ⟨by rfl, (show Below w.heap.size w (Flt.sets w2 (w.heap.size + 1) 0 (argN (fl n)).toList) from Flt.sets_below (Nat.le_succ _) _ _ _ HB.out)⟩
set_option maxHeartbeats 2000000 in
set_option maxRecDepth 100000 in
theorem door_num (n : Int) (w : World) : Calls Try.prog 39 #[.agg (argN (fl n))] w fun e w' => e = .returned (numI n) ∧ Below w.heap.size w w' := by
  have HB := Aside0.mk (Below.refl w.heap.size w)
  go_enter Try.func39, Try.ntmps39
  go_wp2
  refine bodyPost_ret (results_cell_row rfl _ _ (w.heap.size + 1) 62 #[.int .i64 1, .float .f64 (fl n), .string ⟨#[]⟩, .slice none 0 0] (0, 0) _ rfl (by have h_ := blk_new (w.alloc (.cells (argN (fl n)) 96)) (.cells #[.int .i64 1, .float .f64 (fl n), .string ⟨#[]⟩, .slice none 0 0] 62); rw [World.size_alloc] at h_; exact h_) Try.underlying62 rfl (by kernel_rfl)) rfl ?_
  exact ⟨by rfl, below_alloc (below_alloc HB.out _) _⟩
end Go.Proofs.Ytjefbpfpobgmaaa.FrC
