/- Words of the print, cut down by a program of this session (shake.py) to those that this claim names. No conditions. -/
import Derived.Test.YtjefbpfpobgmaaaDoorWInv
import Derived.Test.YtjefbpfpobgmaaaDoorWFootNe
namespace Go.Proofs.YtjefbpfpobgmaaaDoorW.PrintWords
open Go.RowKit
end Go.Proofs.YtjefbpfpobgmaaaDoorW.PrintWords
namespace Go.Proofs.YtjefbpfpobgmaaaDoorW.PrintLast
section
variable {ops : Array Oper} {a : Act} {o og : Oper} {g : Nat} {t : Tmp} {u : Bool}
end
end Go.Proofs.YtjefbpfpobgmaaaDoorW.PrintLast
