/- Equality of two arrays of four numbers, as one Bool. -/
import Derived.Test.YtfbenlenihlpbaaDoorCellC
import Derived.ChangeKeysEq
namespace Go.Proofs.YtfbenlenihlpbaaDoor.EqArr
open Go Go.RowKit
set_option linter.unusedSimpArgs false
theorem info_int : ∃ i, Tryd.prog.info? 3 = some i := by
  have h := CellC.info_int
  cases hi : Tryd.prog.info? 3 with
  | none => rw [hi] at h; cases h
  | some i => exact ⟨i, rfl⟩
theorem cells_int : Tryd.prog.cellsOf 3 = 1 := by kernel_rfl
theorem eqA22 (d : Nat) (w : World) (x0 y0 x1 y1 x2 y2 x3 y3 : Int) :
    (Op.equalIn (d + 2) 22 (.agg #[.int .i64 x0, .int .i64 x1, .int .i64 x2, .int .i64 x3]) (.agg #[.int .i64 y0, .int .i64 y1, .int .i64 y2, .int .i64 y3])).run Tryd.prog w = .ok (x0 == y0 && (x1 == y1 && (x2 == y2 && (x3 == y3)))) w := by
  obtain ⟨i, hi⟩ := info_int
  rw [run_equalIn_array w (d + 1) _ _ Tryd.underlying22 hi, cells_int]
  have h : ∀ (x y : Int) (w : World), (Op.equalIn (d + 1) 3 (.int .i64 x) (.int .i64 y)).run Tryd.prog w = .ok (x == y) w := by
    intro x y w
    first | (go_simp; done) | (go_simp; rfl)
  simp only [List.range, List.range.loop, Op.eqItems, Nat.mul_one, Nat.one_mul]
  cases e0 : (x0 == y0) <;> cases e1 : (x1 == y1) <;> cases e2 : (x2 == y2) <;> cases e3 : (x3 == y3) <;> go_simp <;> simp [h, e0, e1, e2, e3]
end Go.Proofs.YtfbenlenihlpbaaDoor.EqArr
