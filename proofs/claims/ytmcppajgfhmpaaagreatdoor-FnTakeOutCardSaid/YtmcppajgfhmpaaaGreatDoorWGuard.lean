/- Words of the print, cut down by a program of this session (shake.py) to those that this claim names. No conditions. -/
import Derived.Test.YtmcppajgfhmpaaaGreatDoorWWords
/-! ### 58. A guarded operation whose guard is known to want it: the same goal without the guard -/
namespace Go.Proofs.YtmcppajgfhmpaaaGreatDoorW.PrintWords
open Go.RowKit
section
variable {P : Program} {ops : Array Oper} {rest : List Oper} {o : Oper} {a : Act} {Q : Exit → Act → World → Prop} {W : World}
end
end Go.Proofs.YtmcppajgfhmpaaaGreatDoorW.PrintWords
