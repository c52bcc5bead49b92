/- FnTakeOut: the law over its arguments as they lie in memory: lists of arrays of four numbers. Conditions: the table of white space is the library's own. -/
import Derived.Test.YtmcppajgfhmpaaaGreatDoorFtI
import Derived.Test.YtmcppajgfhmpaaaGreatDoorOpenArs
namespace Go.Proofs.YtmcppajgfhmpaaaGreatDoor.FtJ
open Go.RowKit Go.Proofs.YtmcppajgfhmpaaaGreatDoorW.PrintWords Go.Proofs.YtmcppajgfhmpaaaGreatDoorW.PrintLast Go.Proofs.YtmcppajgfhmpaaaGreatDoorW.PrintMore
set_option linter.unusedVariables false
def S (x : Int × Int × Int × Int) : PTo.S34 := ⟨x.1, x.2.1, x.2.2.1, x.2.2.2⟩
/-- A list of arrays in memory, as the printed functions want it. -/
theorem row_of {w : World} {a : Option Addr} {len cap : Nat} {z : List (Int × Int × Int × Int)} (h : OpenArrs.IsArrs w a len cap z) : ∃ l : List PTo.S34, len = l.length ∧ l.length ≤ cap ∧ Kd.C PTo.k34 w a l.length l := by
  obtain ⟨h1, h2, h3, h4⟩ := h
  refine ⟨z.map S, by rw [List.length_map, h1], by rw [List.length_map, h1]; exact h2, rfl, by rw [List.length_map, h1]; exact h3, fun hn => ?_⟩
  obtain ⟨ad, e, hc⟩ := h4 (by rw [List.length_map, h1] at hn; exact hn)
  refine ⟨ad, e, fun j p hj => ?_⟩
  rw [List.getElem?_map] at hj
  obtain ⟨x, hx, rfl⟩ := Option.map_eq_some_iff.1 hj
  obtain ⟨g0, g1, g2, g3⟩ := hc j x hx
  refine ⟨[.int .i64 x.1, .int .i64 x.2.1, .int .i64 x.2.2.1, .int .i64 x.2.2.2], rfl, PTo.k34_mk w (S x), fun i u hu => ?_⟩
  match i, hu with
  | 0, hu => cases hu; exact g0
  | 1, hu => cases hu; exact g1
  | 2, hu => cases hu; exact g2
  | 3, hu => cases hu; exact g3
theorem law (a0 : Option Addr) (len0 cap0 : Nat) (z0 : List (Int × Int × Int × Int)) (a1 : Option Addr) (len1 cap1 : Nat) (z1 : List (Int × Int × Int × Int)) (w : World) (w0 : OpenArrs.IsArrs w a0 len0 cap0 z0) (w1 : OpenArrs.IsArrs w a1 len1 cap1 z1) (ht : FtH.Tab w) :
    Calls Tryz.prog 3 #[.slice a0 len0 cap0, .slice a1 len1 cap1] w fun e w' => e = .returned (.bool true) ∧ Below w.heap.size w w' := by
  obtain ⟨l0, rfl, hc0, hr0⟩ := row_of w0
  obtain ⟨l1, rfl, hc1, hr1⟩ := row_of w1
  exact FtI.law l0 l1 a0 a1 cap0 cap1 w hr0 hc0 hr1 hc1 ht
end Go.Proofs.YtmcppajgfhmpaaaGreatDoor.FtJ
