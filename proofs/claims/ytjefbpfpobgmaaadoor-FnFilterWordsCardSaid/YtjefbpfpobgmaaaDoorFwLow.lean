/- strings.ToLower, by the library's contract, as a function on texts: it says nothing of a text that is not ASCII or too long. -/
import Derived.Test.YtjefbpfpobgmaaaDoorShLower
import Derived.Test.YtjefbpfpobgmaaaDoorPFvx0
namespace Go.Proofs.YtjefbpfpobgmaaaDoor.FwLow
open Go.RowKit Go.Proofs.YtjefbpfpobgmaaaDoorW.PrintWords Go.Proofs.YtjefbpfpobgmaaaDoorW.PrintLast Go.Proofs.YtjefbpfpobgmaaaDoorW.PrintMore
def ascii (s : ByteArray) : Bool := s.data.toList.all fun b => decide (b.toNat < 128)
def lower (s : ByteArray) : ByteArray := ⟨(Lib.toLowerA s.data.toList).toArray⟩
def strings_ToLower.f (s : ByteArray) : Option ByteArray := if ascii s = true ∧ s.size ≤ 1000000 then some (lower s) else none
theorem strings_ToLower.calls (s : ByteArray) (r : ByteArray) (w : World) (h : strings_ToLower.f s = some r) : Calls Tryd.prog 36 #[.string s] w fun e w' => e = .returned (.string r) ∧ Below w.heap.size w w' := by
  unfold strings_ToLower.f at h
  by_cases hc : ascii s = true ∧ s.size ≤ 1000000
  · rw [if_pos hc] at h
    obtain rfl := Option.some.inj h
    exact Tryd.strings_ToLower_ascii s w (by omega) (fun j b hb => of_decide_eq_true (List.all_eq_true.1 hc.1 b (List.mem_of_getElem? hb)))
  · rw [if_neg hc] at h
    cases h
end Go.Proofs.YtjefbpfpobgmaaaDoor.FwLow
