/- A contract given by hand to the printed texts: a sheet's name of ASCII letters is written as it is. Conditions: the letters' entries of the table unicode.properties are as the program's text lays them. -/
import Derived.Test.YtfbenlenihlpbaaDoorLetters
namespace Go.Proofs.YtfbenlenihlpbaaDoor.Given
open Go.RowKit Go.Proofs.YtfbenlenihlpbaaDoorW.PrintWords Go.Proofs.YtfbenlenihlpbaaDoorW.PrintLast Go.Proofs.YtfbenlenihlpbaaDoorW.PrintMore
open Go.Proofs.YtfbenlenihlpbaaDoor.Letters

def letterB (c : UInt8) : Bool := (decide (65 ≤ c.toNat) && decide (c.toNat ≤ 90)) || (decide (97 ≤ c.toNat) && decide (c.toNat ≤ 122))
def excelize_escapeSheetName.f (s : ByteArray) : Option ByteArray := if s.data.toList.all letterB = true then some s else none
theorem all_letters {s : ByteArray} (h : s.data.toList.all letterB = true) : AllL s := by
  intro i hi
  have hm : s[i] ∈ s.data.toList := by
    show s.data[i] ∈ _
    rw [← Array.getElem_toList]
    exact List.getElem_mem _
  have := List.all_eq_true.1 h _ hm
  unfold letterB at this
  simp only [Bool.or_eq_true, Bool.and_eq_true, decide_eq_true_eq] at this
  exact this
theorem excelize_escapeSheetName.calls (a0 : ByteArray) (r : ByteArray) (w : World) (hU : Props w) (h : excelize_escapeSheetName.f a0 = some r) :
    Calls Tryd.prog 77 #[.string a0] w fun e w' => e = .returned (.string r) ∧ Below w.heap.size w w' := by
  unfold excelize_escapeSheetName.f at h
  split at h
  · rename_i hl
    obtain rfl := Option.some.inj h
    exact escape a0 (all_letters hl) w hU
  · cases h
end Go.Proofs.YtfbenlenihlpbaaDoor.Given
