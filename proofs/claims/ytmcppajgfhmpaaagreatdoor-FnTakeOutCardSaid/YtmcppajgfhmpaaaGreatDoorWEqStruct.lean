/- Words of the print, cut down by a program of this session (shake.py) to those that this claim names. No conditions. -/
import Derived.Test.YtmcppajgfhmpaaaGreatDoorWWords
import Derived.Laws.StructEq
/-! ### 53. '==' of structs as_ one Bool -/
namespace Go.Proofs.YtmcppajgfhmpaaaGreatDoorW.PrintWords
open Go.RowKit
section
variable {P : Program} {d : Nat} {xs ys : Array Value} {f : Field} {fs : List Field} {a b : Value} {r s : Bool} {w : World}
end
end Go.Proofs.YtmcppajgfhmpaaaGreatDoorW.PrintWords
