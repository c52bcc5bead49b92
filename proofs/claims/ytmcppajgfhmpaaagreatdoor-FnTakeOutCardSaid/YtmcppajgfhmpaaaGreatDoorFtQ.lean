/- FnTakeOut, words: the pieces of a text that name cells and areas. No conditions. -/
import Derived.Test.YtmcppajgfhmpaaaGreatDoorFtB
import Derived.Test.YtmcppajgfhmpaaaGreatDoorCellC
import Derived.Test.YtmcppajgfhmpaaaGreatDoorPToB
namespace Go.Proofs.YtmcppajgfhmpaaaGreatDoor.FtQ
open Go.RowKit Go.Proofs.YtmcppajgfhmpaaaGreatDoorW.PrintWords Go.Proofs.YtmcppajgfhmpaaaGreatDoorW.PrintLast Go.Proofs.YtmcppajgfhmpaaaGreatDoorW.PrintMore Go.Proofs.YtmcppajgfhmpaaaGreatDoor.Str Go.Proofs.YtmcppajgfhmpaaaGreatDoor.CellB Go.Proofs.YtmcppajgfhmpaaaGreatDoor.PrangeRefToCoordinates Go.Proofs.YtmcppajgfhmpaaaGreatDoor.FtA Go.Proofs.YtmcppajgfhmpaaaGreatDoor.FtB
set_option linter.unusedVariables false
/-- A piece of the text that names one cell. -/
structure One (p : ByteArray) (a : Ar) : Prop where
  row : a.r0 = a.r1
  col : a.c0 = a.c1
  cell : ∃ ls ds k, IsCell p ls ds ∧ colVal ls = a.c0 ∧ rowVal ds = a.r0 ∧ excelize_zzSplit.f k p ⟨#[58]⟩ = some [p]
/-- A piece of the text that names an area by two cells. -/
structure Two (p : ByteArray) (a : Ar) : Prop where
  cells : ∃ s s2 ls ds ls2 ds2 k, IsCell s ls ds ∧ IsCell s2 ls2 ds2 ∧ p.size ≤ 1000 ∧ (bytesOf p).filter (fun x => x != 36) = bytesOf s ++ 58 :: bytesOf s2 ∧ colVal ls = a.c0 ∧ rowVal ds = a.r0 ∧ colVal ls2 = a.c1 ∧ rowVal ds2 = a.r1 ∧ excelize_zzSplit.f k p ⟨#[58]⟩ = some [s, s2]
structure Piece (p : ByteArray) (a : Ar) : Prop where
  ok : a.Ok
  is : One p a ∨ Two p a
end Go.Proofs.YtmcppajgfhmpaaaGreatDoor.FtQ
