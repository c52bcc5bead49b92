/- FnFrequency, walks: math.IsNaN at a small whole number, a number and a matrix as the package's arguments. Conditions: the number's size. -/
import Derived.Test.YtjefbpfpobgmaaaFrA
namespace Go.Proofs.Ytjefbpfpobgmaaa.FrB
open Go.RowKit Go.Proofs.YtjefbpfpobgmaaaW.PrintWords Go.Proofs.YtjefbpfpobgmaaaW.PrintLast Go.Proofs.YtjefbpfpobgmaaaW.PrintMore Go.Proofs.Ytjefbpfpobgmaaa.FrA
set_option linter.unusedVariables false
set_option linter.unusedSimpArgs false
attribute [local go_sem] Flt.run_store_float
def okOrd (i : Nat) : Bool := decide (FloatKind.f64.format.order (fl ((i : Int) - 500)) (fl ((i : Int) - 500)) = some .eq ∧ (FloatKind.f64.format.order (fl ((i : Int) - 500)) 0 == some .eq) = decide ((i : Int) - 500 = 0))
theorem ord_all : ((List.range 1001).all okOrd) = true := by decide +kernel
theorem ord_one (n : Int) (h : -500 ≤ n ∧ n ≤ 500) : FloatKind.f64.format.order (fl n) (fl n) = some .eq ∧ (FloatKind.f64.format.order (fl n) 0 == some .eq) = decide (n = 0) := by
  have h1 := List.all_eq_true.1 ord_all (n + 500).toNat (List.mem_range.2 (by omega))
  unfold okOrd at h1
  have h2 := of_decide_eq_true h1
  rwa [show (((n + 500).toNat : Nat) : Int) - 500 = n by omega] at h2
theorem fl_zero : fl 0 = 0 := by decide +kernel
set_option maxHeartbeats 2000000 in
set_option maxRecDepth 100000 in
theorem nan (n : Int) (h : -500 ≤ n ∧ n ≤ 500) (w : World) : Calls Try.prog 62 #[.float .f64 (fl n)] w fun e w' => e = .returned (.bool false) ∧ Drawn0 w w' := by
  have o1 := (ord_one n h).1
  clear h
  go_enter Try.func62, Try.ntmps62
  go_wp2
  go_ret
  exact ⟨by rfl, Drawn0.refl _⟩
/-- A number, and a matrix, as the package's arguments. -/
abbrev argN (x : Nat) : Array Value := #[.string ⟨#[]⟩, .float .f64 x, .string ⟨#[]⟩, .slice none 0 0, .slice none 0 0, .bool false, .string ⟨#[]⟩, .int .u8 1, .pointer none, .pointer none]
abbrev argM (v : Value) : Array Value := #[.string ⟨#[]⟩, .float .f64 0, .string ⟨#[]⟩, .slice none 0 0, v, .bool false, .string ⟨#[]⟩, .int .u8 4, .pointer none, .pointer none]
set_option maxHeartbeats 2000000 in
set_option maxRecDepth 100000 in
theorem number (n : Int) (h : -500 ≤ n ∧ n ≤ 500) (w : World) : Calls Try.prog 53 #[.float .f64 (fl n)] w fun e w' => e = .returned (.agg (argN (fl n))) ∧ Below w.heap.size w w' := by
  have HB := Aside0.mk (Below.refl w.heap.size w)
  have A := Aside0.mk (fun W => nan n h W)
  have o2 := (ord_one n h).2
  clear h
  by_cases hz : n = 0
  · subst hz
    rw [decide_eq_true rfl] at o2
    go_enter Try.func53, Try.ntmps53
    go_wp2_with (go_at_call 62; refine (A.out _).mono ?_; rintro e w' ⟨rfl, ⟨nd, rfl⟩⟩)
    refine bodyPost_ret (results_cell_row rfl _ _ w.heap.size 96 (argN 0) (0, 0) _ rfl (show (Flt.sets ((w.alloc (.cells #[.string ⟨#[]⟩, .float .f64 0, .string ⟨#[]⟩, .slice none 0 0, .slice none 0 0, .bool false, .string ⟨#[]⟩, .int .u8 0, .pointer none, .pointer none] 96)).drewN nd) w.heap.size 0 (argN 0).toList).heap[w.heap.size]? = some (.cells (argN 0) 96 (0, 0)) from Flt.sets_all (argN 0).toList (blk_drewN (blk_new _ _) _) rfl) Try.underlying96 rfl (by kernel_rfl)) rfl ?_
    exact ⟨by rw [fl_zero], (show Below w.heap.size w (Flt.sets ((w.alloc (.cells #[.string ⟨#[]⟩, .float .f64 0, .string ⟨#[]⟩, .slice none 0 0, .slice none 0 0, .bool false, .string ⟨#[]⟩, .int .u8 0, .pointer none, .pointer none] 96)).drewN nd) w.heap.size 0 (argN 0).toList) from Flt.sets_below (Nat.le_refl _) _ _ _ (pw_below_drewN (below_alloc HB.out _) _))⟩
  · rw [decide_eq_false hz] at o2
    go_enter Try.func53, Try.ntmps53
    go_wp2_with (go_at_call 62; refine (A.out _).mono ?_; rintro e w' ⟨rfl, ⟨nd, rfl⟩⟩)
    refine bodyPost_ret (results_cell_row rfl _ _ w.heap.size 96 (argN (fl n)) (0, 0) _ rfl (show (Flt.sets ((w.alloc (.cells #[.string ⟨#[]⟩, .float .f64 0, .string ⟨#[]⟩, .slice none 0 0, .slice none 0 0, .bool false, .string ⟨#[]⟩, .int .u8 0, .pointer none, .pointer none] 96)).drewN nd) w.heap.size 0 (argN (fl n)).toList).heap[w.heap.size]? = some (.cells (argN (fl n)) 96 (0, 0)) from Flt.sets_all (argN (fl n)).toList (blk_drewN (blk_new _ _) _) rfl) Try.underlying96 rfl (by kernel_rfl)) rfl ?_
    exact ⟨by rfl, (show Below w.heap.size w (Flt.sets ((w.alloc (.cells #[.string ⟨#[]⟩, .float .f64 0, .string ⟨#[]⟩, .slice none 0 0, .slice none 0 0, .bool false, .string ⟨#[]⟩, .int .u8 0, .pointer none, .pointer none] 96)).drewN nd) w.heap.size 0 (argN (fl n)).toList) from Flt.sets_below (Nat.le_refl _) _ _ _ (pw_below_drewN (below_alloc HB.out _) _))⟩
set_option maxHeartbeats 2000000 in
set_option maxRecDepth 100000 in
theorem matrix (a : Option Addr) (l c : Nat) (w : World) : Calls Try.prog 54 #[.slice a l c] w fun e w' => e = .returned (.agg (argM (.slice a l c))) ∧ Below w.heap.size w w' := by
  have HB := Aside0.mk (Below.refl w.heap.size w)
  go_enter Try.func54, Try.ntmps54
  go_wp2
  refine bodyPost_ret (results_cell_row rfl _ _ w.heap.size 96 (argM (.slice a l c)) (0, 0) _ rfl (blk_new _ _) Try.underlying96 rfl (by kernel_rfl)) rfl ?_
  exact ⟨by rfl, below_alloc HB.out _⟩
end Go.Proofs.Ytjefbpfpobgmaaa.FrB
