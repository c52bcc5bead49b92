/- FnFrequency, first walks: a number and a table of the reference, and a number of the reference as one of the program. Conditions: the number's size. -/
import Derived.Test.YtjefbpfpobgmaaaWMore
import Derived.Test.YtjefbpfpobgmaaaProg
import Derived.Deep.QuietTactic
import Derived.BigQuiet
import Derived.Deep.LoopGhost
import Derived.Laws.FloatArith
import Derived.Test.YtjefbpfpobgmaaaFlt
namespace Go.Proofs.Ytjefbpfpobgmaaa.FrA
open Go.RowKit Go.Proofs.YtjefbpfpobgmaaaW.PrintWords Go.Proofs.YtjefbpfpobgmaaaW.PrintLast Go.Proofs.YtjefbpfpobgmaaaW.PrintMore
set_option linter.unusedVariables false
set_option linter.unusedSimpArgs false
attribute [local go_sem] Flt.run_store_float
/-- A number, and a table, of the reference. -/
abbrev numV (n : Int) : Value := .agg #[.int .i64 1, .int .i64 n, .int .i64 1, .string ⟨#[]⟩, .slice none 0 0]
abbrev tabV (v : Value) : Value := .agg #[.int .i64 5, .int .i64 0, .int .i64 0, .string ⟨#[]⟩, v]
set_option maxHeartbeats 2000000 in
set_option maxRecDepth 100000 in
theorem int (n : Int) (h : -99999999999 ≤ n ∧ n ≤ 99999999999) (w : World) : Calls Try.prog 31 #[.int .i64 n] w fun e w' => e = .returned (numV n) ∧ Below w.heap.size w w' := by
  have HB := Aside0.mk (Below.refl w.heap.size w)
  have f1 : decide (99999999999 < n) = false := decide_eq_false (by omega)
  have f2 : decide (n < -99999999999) = false := decide_eq_false (by omega)
  have f3 : (99999999999 < n) = False := eq_false (by omega)
  have f4 : (n < -99999999999) = False := eq_false (by omega)
  clear h
  go_enter Try.func31, Try.ntmps31
  go_wp2
  refine bodyPost_ret (results_cell_row rfl _ _ w.heap.size 48 #[.int .i64 1, .int .i64 n, .int .i64 1, .string ⟨#[]⟩, .slice none 0 0] (0, 0) _ rfl (blk_new _ _) Try.underlying48 rfl (by kernel_rfl)) rfl ?_
  exact ⟨by rfl, below_alloc HB.out _⟩
set_option maxHeartbeats 2000000 in
set_option maxRecDepth 100000 in
theorem table (a : Option Addr) (l c : Nat) (w : World) : Calls Try.prog 32 #[.slice a l c] w fun e w' => e = .returned (tabV (.slice a l c)) ∧ Below w.heap.size w w' := by
  have HB := Aside0.mk (Below.refl w.heap.size w)
  go_enter Try.func32, Try.ntmps32
  go_wp2
  refine bodyPost_ret (results_cell_row rfl _ _ w.heap.size 48 #[.int .i64 5, .int .i64 0, .int .i64 0, .string ⟨#[]⟩, .slice a l c] (0, 0) _ rfl (blk_new _ _) Try.underlying48 rfl (by kernel_rfl)) rfl ?_
  exact ⟨by rfl, below_alloc HB.out _⟩
/-- A small whole number as a float; divided by one it is itself. -/
abbrev fl (n : Int) : Nat := floatOfInt .f64 n
def okQuo (i : Nat) : Bool := decide (floatBits .quo .f64 (fl ((i : Int) - 500)) (fl 1) = some (fl ((i : Int) - 500)))
theorem quo_all : ((List.range 1001).all okQuo) = true := by decide +kernel
theorem quo_one (n : Int) (h : -500 ≤ n ∧ n ≤ 500) : floatBits .quo .f64 (fl n) (fl 1) = some (fl n) := by
  have h1 := List.all_eq_true.1 quo_all (n + 500).toNat (List.mem_range.2 (by omega))
  unfold okQuo at h1
  have h2 := of_decide_eq_true h1
  rwa [show (((n + 500).toNat : Nat) : Int) - 500 = n by omega] at h2
abbrev numI (n : Int) : Value := .agg #[.int .i64 1, .float .f64 (fl n), .string ⟨#[]⟩, .slice none 0 0]
set_option maxHeartbeats 2000000 in
set_option maxRecDepth 100000 in
theorem of_num (n : Int) (h : -500 ≤ n ∧ n ≤ 500) (w : World) : Calls Try.prog 27 #[numV n] w fun e w' => e = .returned (numI n) ∧ Below w.heap.size w w' := by
  have HB := Aside0.mk (Below.refl w.heap.size w)
  have hq : ∀ W : World, (binOp .quo 32 (.float .f64 (floatOfInt .f64 n)) (.float .f64 (floatOfInt .f64 1))).run Try.prog W = .ok (.float .f64 (floatOfInt .f64 n)) W := fun W => run_float_arith W .quo 32 .f64 (fl n) (fl 1) (fl n) (quo_one n h)
  clear h
  go_enter Try.func27, Try.ntmps27
  go_wp2
  refine bodyPost_ret (results_cell_row rfl _ _ (w.heap.size + 1) 42 #[.int .i64 1, .float .f64 (fl n), .string ⟨#[]⟩, .slice none 0 0] (0, 0) _ rfl (blk_alloc (by have h_ := blk_new (w.alloc (.cells #[.int .i64 1, .int .i64 n, .int .i64 1, .string ⟨#[]⟩, .slice none 0 0] 48)) (.cells #[.int .i64 1, .float .f64 (fl n), .string ⟨#[]⟩, .slice none 0 0] 42); rw [World.size_alloc] at h_; exact h_) _) Try.underlying42 rfl (by kernel_rfl)) rfl ?_
  exact ⟨by rfl, below_alloc (below_alloc (below_alloc HB.out _) _) _⟩
end Go.Proofs.Ytjefbpfpobgmaaa.FrA
