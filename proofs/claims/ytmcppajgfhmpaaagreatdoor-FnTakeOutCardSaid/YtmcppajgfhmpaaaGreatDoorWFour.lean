/- Words of the print, cut down by a program of this session (shake.py) to those that this claim names. No conditions. -/
import Derived.Test.YtmcppajgfhmpaaaGreatDoorWTab
/-! ### 56. Four, five, six operations that may come up next, in any order -/
namespace Go.Proofs.YtmcppajgfhmpaaaGreatDoorW.PrintLast
section
variable {P : Program} {ops : Array Oper} {Q : Exit → Act → World → Prop} {md : Region.Mode} {S : World → Prop} {ds : List Nat} {T : Bool × List (List Nat × List Nat)}
end
end Go.Proofs.YtmcppajgfhmpaaaGreatDoorW.PrintLast
