/- An array of four numbers by value, as a law's argument: what the datum says of the value, and back. No conditions. -/
import Derived.Test.YtfbenlenihlpbaaDoorCards
import Derived.ProofKit
import Derived.OpenShut
import Derived.LaidMore
import Derived.Lay
import Derived.Stop.Joined
import Derived.SevenTiedAt
import Derived.Laws.IdiomArrays
namespace Go.Proofs.YtfbenlenihlpbaaDoor.OpenArr
open Go.ChangeShapes Go.WideShapes Go.ChangeAt Go.RowKit

theorem cells_int : Tryd.prog.cellsOf 3 = 1 := by kernel_rfl
theorem cells_arr : Tryd.prog.cellsOf 22 = 4 := by kernel_rfl
theorem list4 {α : Type} (l : List α) (h : (⟨l⟩ : Array α).size = 4) : ∃ a b c d, l = [a, b, c, d] := by
  match l, h with
  | [a, b, c, d], _ => exact ⟨a, b, c, d, rfl⟩

set_option maxRecDepth 100000 in
/-- An array of four numbers by value: opened. -/
theorem open_arr {H : Type} {enc : TypeId × Value → H} {W : World} {base b0 : Nat} {spare : Nat → Bool} {held : Bool} {v : Value} {d : DataW H} {ps : List MemPlace}
    (hval : Value.okWide Tryd.prog W .any base 22 v) (h : DataW.Trod enc Tryd.prog W b0 spare held 22 v d ps) :
    ∃ a b c e : Int, v = .agg #[.int .i64 a, .int .i64 b, .int .i64 c, .int .i64 e] ∧ d = .agg [.lit (.int .i64 a), .lit (.int .i64 b), .lit (.int .i64 c), .lit (.int .i64 e)] ∧ ps = [] ∧
      ((Lit.int .i64 a).wf = true ∧ (Lit.int .i64 b).wf = true ∧ (Lit.int .i64 c).wf = true ∧ (Lit.int .i64 e).wf = true) := by
  obtain ⟨cs, rfl, hsz, _⟩ : ∃ cs, v = .agg cs ∧ cs.size = Tryd.prog.cellsOf 22 ∧ Row.okWide Tryd.prog W .any base 22 cs := by
    simpa [Value.okWide, Tryd.underlying22] using hval
  rw [cells_arr] at hsz
  obtain ⟨l⟩ := cs
  obtain ⟨c0, c1, c2, c3, rfl⟩ := list4 l hsz
  obtain ⟨fuel, hf⟩ := h
  obtain ⟨y0, y1, y2, y3, m, hx, hy0, hy1, hy2, hy3⟩ := trod_array4 Tryd.underlying22 cells_int hf
  obtain ⟨x0, e0, rfl, w0⟩ := DataW.trod_int Tryd.underlying3 hy0
  obtain ⟨x1, e1, rfl, w1⟩ := DataW.trod_int Tryd.underlying3 hy1
  obtain ⟨x2, e2, rfl, w2⟩ := DataW.trod_int Tryd.underlying3 hy2
  obtain ⟨x3, e3, rfl, w3⟩ := DataW.trod_int Tryd.underlying3 hy3
  simp at e0 e1 e2 e3
  subst e0 e1 e2 e3
  simp only [Prod.mk.injEq] at hx
  obtain ⟨rfl, rfl⟩ := hx
  exact ⟨x0, x1, x2, x3, rfl, rfl, by simp, w0, w1, w2, w3⟩
set_option maxRecDepth 100000 in
/-- .. and shut. -/
theorem shut_arr {H : Type} {enc : TypeId × Value → H} {W : World} {b0 : Nat} {spare : Nat → Bool} {held : Bool} {a b c e : Int}
    (w : (Lit.int .i64 a).wf = true ∧ (Lit.int .i64 b).wf = true ∧ (Lit.int .i64 c).wf = true ∧ (Lit.int .i64 e).wf = true) :
    DataW.Trod enc Tryd.prog W b0 spare held 22 (.agg #[.int .i64 a, .int .i64 b, .int .i64 c, .int .i64 e]) (.agg [.lit (.int .i64 a), .lit (.int .i64 b), .lit (.int .i64 c), .lit (.int .i64 e)]) [] := by
  obtain ⟨w0, w1, w2, w3⟩ := w
  exact ⟨2, by simp [DataW.trod, Value.cells, Tryd.underlying22, Tryd.underlying3, cells_arr, cells_int, w0, w1, w2, w3, show List.range 4 = [0, 1, 2, 3] from rfl]⟩

end Go.Proofs.YtfbenlenihlpbaaDoor.OpenArr
