/- Rules for the walk: a field read out of a run of columns by value. -/
import Derived.Test.YtjefbpfpobgmaaaProg
import Derived.Test.YtjefbpfpobgmaaaFlt
namespace Go.Proofs.Ytjefbpfpobgmaaa.Fld
open Go
theorem run_field34_2 (w : World) (a b c d e f g : Value) : (Instr.field 34 (.agg #[a, b, c, d, e, f, g]) 2).run Try.prog w = .ok c w := by
  unfold Instr.field
  simp [Try.underlying34, underlying, asAgg, part, isAgg, Try.underlying3]
theorem run_field34_3 (w : World) (a b c d e f g : Value) : (Instr.field 34 (.agg #[a, b, c, d, e, f, g]) 3).run Try.prog w = .ok d w := by
  unfold Instr.field
  simp [Try.underlying34, underlying, asAgg, part, isAgg, Try.underlying3]
theorem run_field34_5 (w : World) (a b c d e f g : Value) : (Instr.field 34 (.agg #[a, b, c, d, e, f, g]) 5).run Try.prog w = .ok f w := by
  unfold Instr.field
  simp [Try.underlying34, underlying, asAgg, part, isAgg, Try.underlying4]
end Go.Proofs.Ytjefbpfpobgmaaa.Fld
