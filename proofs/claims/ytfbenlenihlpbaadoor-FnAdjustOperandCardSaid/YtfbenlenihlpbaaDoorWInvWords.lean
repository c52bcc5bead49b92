/- Words of the print, cut down by a program of this session (shake.py) to those that this claim names. No conditions. -/
import Derived.Test.YtfbenlenihlpbaaDoorWInv
import Derived.Test.YtfbenlenihlpbaaDoorWFootNe
namespace Go.Proofs.YtfbenlenihlpbaaDoorW.PrintWords
open Go.RowKit
end Go.Proofs.YtfbenlenihlpbaaDoorW.PrintWords
namespace Go.Proofs.YtfbenlenihlpbaaDoorW.PrintLast
section
variable {ops : Array Oper} {a : Act} {o og : Oper} {g : Nat} {t : Tmp} {u : Bool}
end
end Go.Proofs.YtfbenlenihlpbaaDoorW.PrintLast
