/- Words of the print, cut down by a program of this session (shake.py) to those that this claim names. No conditions. -/
import Derived.Test.YtmcppajgfhmpaaaGreatDoorWInv
import Derived.Test.YtmcppajgfhmpaaaGreatDoorWFootNe
namespace Go.Proofs.YtmcppajgfhmpaaaGreatDoorW.PrintWords
open Go.RowKit
end Go.Proofs.YtmcppajgfhmpaaaGreatDoorW.PrintWords
namespace Go.Proofs.YtmcppajgfhmpaaaGreatDoorW.PrintLast
section
variable {ops : Array Oper} {a : Act} {o og : Oper} {g : Nat} {t : Tmp} {u : Bool}
end
end Go.Proofs.YtmcppajgfhmpaaaGreatDoorW.PrintLast
