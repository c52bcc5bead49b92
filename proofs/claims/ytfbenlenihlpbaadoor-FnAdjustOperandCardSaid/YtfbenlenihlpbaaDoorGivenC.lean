/- Contracts given by hand to the printed texts: a column's name of one or two capital letters as a number, and a decimal numeral. No conditions. -/
import Derived.Test.YtfbenlenihlpbaaDoorCellC
namespace Go.Proofs.YtfbenlenihlpbaaDoor.GivenC
open Go.RowKit Go.Proofs.YtfbenlenihlpbaaDoorW.PrintWords Go.Proofs.YtfbenlenihlpbaaDoorW.PrintLast Go.Proofs.YtfbenlenihlpbaaDoorW.PrintMore
open Go.Proofs.YtfbenlenihlpbaaDoor.Str Go.Proofs.YtfbenlenihlpbaaDoor.CellB

def errV : Option Int → Value
  | none => .nilIface
  | some c => .iface 0 (.int .i64 c)
theorem errV_none : errV none = .nilIface := rfl
theorem errV_some (c : Int) : errV (some c) = .iface 0 (.int .i64 c) := rfl
def isCol (s : ByteArray) : Bool := decide (1 ≤ s.size ∧ s.size ≤ 2) && (bytesOf s).all (fun x => decide (65 ≤ x ∧ x ≤ 90))
def excelize_ColumnNameToNumber.f (s : ByteArray) : Option (Int × Option Int) := if isCol s = true then some (colVal (bytesOf s), none) else none
theorem excelize_ColumnNameToNumber.calls (a0 : ByteArray) (r1 : Int) (r2 : Option Int) (w : World) (h : excelize_ColumnNameToNumber.f a0 = some (r1, r2)) :
    Calls Tryd.prog 70 #[.string a0] w fun e w' => e = .returned (.tuple #[.int .i64 r1, errV r2]) ∧ Drawn0 w w' := by
  unfold excelize_ColumnNameToNumber.f at h
  split at h
  · rename_i hc
    simp only [Option.some.injEq, Prod.mk.injEq] at h
    obtain ⟨rfl, rfl⟩ := h
    unfold isCol at hc
    rw [Bool.and_eq_true, decide_eq_true_eq] at hc
    have hu : ∀ x ∈ bytesOf a0, 65 ≤ x ∧ x ≤ 90 := fun x hx => of_decide_eq_true (List.all_eq_true.1 hc.2 x hx)
    have hl : (bytesOf a0).length = a0.size := bytesOf_length a0
    refine column a0 (bytesOf a0) rfl (by omega) (by omega) hu ?_ w
    match hb : bytesOf a0, hu, hl with
    | [a], hu, _ => have := hu a (by simp); simp only [colVal, List.foldl]; omega
    | [a, b], hu, _ => have := hu a (by simp); have := hu b (by simp); simp only [colVal, List.foldl]; omega
    | [], _, hl => simp at hl; omega
    | a :: b :: c :: r, _, hl => simp at hl; omega
  · cases h
def strconv_Atoi.f (s : ByteArray) : Option (Int × Option Int) := if s.size ≤ 18 then (match Lib.atoi s.data.toList with | some n => some (n, none) | none => none) else none
theorem strconv_Atoi.calls (a0 : ByteArray) (r1 : Int) (r2 : Option Int) (w : World) (h : strconv_Atoi.f a0 = some (r1, r2)) :
    Calls Tryd.prog 110 #[.string a0] w fun e w' => e = .returned (.tuple #[.int .i64 r1, errV r2]) ∧ Below w.heap.size w w' := by
  unfold strconv_Atoi.f at h
  split at h
  · rename_i hs
    split at h
    · rename_i n hn
      simp only [Option.some.injEq, Prod.mk.injEq] at h
      obtain ⟨rfl, rfl⟩ := h
      exact atoiCall a0 n hs hn w
    · cases h
  · cases h
end Go.Proofs.YtfbenlenihlpbaaDoor.GivenC
