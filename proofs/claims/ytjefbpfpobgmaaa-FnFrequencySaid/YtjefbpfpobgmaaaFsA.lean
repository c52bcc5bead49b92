/- FnFrequency, walks: a result is compared with one of the reference: they are the same where they hold the same numbers. Conditions: the numbers' sizes. -/
import Derived.Test.YtjefbpfpobgmaaaFrZ
namespace Go.Proofs.Ytjefbpfpobgmaaa.FsA
open Go.RowKit Go.Proofs.YtjefbpfpobgmaaaW.PrintWords Go.Proofs.YtjefbpfpobgmaaaW.PrintLast Go.Proofs.YtjefbpfpobgmaaaW.PrintMore Go.Proofs.Ytjefbpfpobgmaaa.FrA Go.Proofs.Ytjefbpfpobgmaaa.FrB Go.Proofs.Ytjefbpfpobgmaaa.FrK Go.Proofs.Ytjefbpfpobgmaaa.FrL Go.Proofs.Ytjefbpfpobgmaaa.FrM Go.Proofs.Ytjefbpfpobgmaaa.FrN Go.Proofs.Ytjefbpfpobgmaaa.FrR
set_option linter.unusedVariables false
set_option linter.unusedSimpArgs false
attribute [local go_sem] Flt.run_store_float
set_option maxHeartbeats 4000000 in
set_option maxRecDepth 100000 in
theorem same_num (n : Int) (h : -500 ≤ n ∧ n ≤ 500) (w : World) : Calls Try.prog 16 #[numI n, numV n] w fun e w' => e = .returned (.bool true) ∧ Below w.heap.size w w' := by
  have HB := Aside0.mk (below_alloc (below_alloc (Below.refl w.heap.size w) (.cells #[.int .i64 1, .float .f64 (fl n), .string ⟨#[]⟩, .slice none 0 0] 42)) (.cells #[.int .i64 1, .int .i64 n, .int .i64 1, .string ⟨#[]⟩, .slice none 0 0] 48))
  have B2 := Aside0.mk (blk_alloc (blk_new w (.cells #[.int .i64 1, .float .f64 (fl n), .string ⟨#[]⟩, .slice none 0 0] 42)) (.cells #[.int .i64 1, .int .i64 n, .int .i64 1, .string ⟨#[]⟩, .slice none 0 0] 48))
  have H := Aside0.mk h
  have o1 := (ord_one n h).1
  clear h
  go_enter Try.func16, Try.ntmps16
  go_upto_region 2 with (go_at_call 27; (with_reducible refine (of_num n H.out _).mono ?_); rintro e w2 ⟨rfl, hb⟩; have n0_ := Aside0.mk (below_step HB.out hb); have n1_ := Aside0.mk (blk_below B2.out hb); clear HB B2 hb; have HB := n0_; have B2 := n1_; clear n0_ n1_)
  have B5 := Aside0.mk (blk_new w2 (.cells #[.int .i64 1, .float .f64 (fl n), .string ⟨#[]⟩, .slice none 0 0] 42))
  have n0_ := Aside0.mk (blk_alloc B2.out (.cells #[.int .i64 1, .float .f64 (fl n), .string ⟨#[]⟩, .slice none 0 0] 42))
  have n1_ := Aside0.mk (below_alloc HB.out (.cells #[.int .i64 1, .float .f64 (fl n), .string ⟨#[]⟩, .slice none 0 0] 42))
  clear B2 HB
  have B2 := n0_
  have HB := n1_
  clear n0_ n1_
  generalize w2.alloc (.cells #[.int .i64 1, .float .f64 (fl n), .string ⟨#[]⟩, .slice none 0 0] 42) = w3 at HB B2 B5 ⊢
  have hx0 : w3.cell? ⟨w.heap.size, 0, none⟩ = some (.int .i64 1) := (blk_cell B2.out 0).trans rfl
  have hx1 : w3.cell? ⟨w.heap.size, 1, none⟩ = some (.float .f64 (fl n)) := (blk_cell B2.out 1).trans rfl
  have hx2 : w3.cell? ⟨w.heap.size, 2, none⟩ = some (.string ⟨#[]⟩) := (blk_cell B2.out 2).trans rfl
  have hx3 : w3.cell? ⟨w.heap.size, 3, none⟩ = some (.slice none 0 0) := (blk_cell B2.out 3).trans rfl
  have hy0 : w3.cell? ⟨w2.heap.size, 0, none⟩ = some (.int .i64 1) := (blk_cell B5.out 0).trans rfl
  have hy1 : w3.cell? ⟨w2.heap.size, 1, none⟩ = some (.float .f64 (fl n)) := (blk_cell B5.out 1).trans rfl
  have hy2 : w3.cell? ⟨w2.heap.size, 2, none⟩ = some (.string ⟨#[]⟩) := (blk_cell B5.out 2).trans rfl
  have hy3 : w3.cell? ⟨w2.heap.size, 3, none⟩ = some (.slice none 0 0) := (blk_cell B5.out 3).trans rfl
  go_wp2
  refine wp_loop_rounds 1 ?_
  rw [rounds_succ]
  go_wp2
  go_ret
  exact ⟨by rfl, HB.out⟩
end Go.Proofs.Ytjefbpfpobgmaaa.FsA
