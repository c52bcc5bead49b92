/- An array of four numbers by value, as a law's argument: what the datum says of the value, and back. No conditions. -/
import Derived.Test.YtmcppajgfhmpaaaGreatDoorCards
import Derived.ProofKit
import Derived.OpenShut
import Derived.LaidMore
import Derived.Lay
import Derived.Stop.Joined
import Derived.SevenTiedAt
import Derived.Laws.IdiomArrays
import Derived.Deep.Slices
section
namespace Go.Proofs.YtmcppajgfhmpaaaGreatDoor.OpenArr
open Go.ChangeShapes Go.WideShapes Go.ChangeAt Go.RowKit

theorem cells_int : Tryz.prog.cellsOf 3 = 1 := by kernel_rfl
theorem cells_arr : Tryz.prog.cellsOf 34 = 4 := by kernel_rfl
theorem list4 {α : Type} (l : List α) (h : (⟨l⟩ : Array α).size = 4) : ∃ a b c d, l = [a, b, c, d] := by
  match l, h with
  | [a, b, c, d], _ => exact ⟨a, b, c, d, rfl⟩

set_option maxRecDepth 100000 in
/-- An array of four numbers by value: opened. -/
theorem open_arr {H : Type} {enc : TypeId × Value → H} {W : World} {base b0 : Nat} {spare : Nat → Bool} {held : Bool} {v : Value} {d : DataW H} {ps : List MemPlace}
    (hval : Value.okWide Tryz.prog W .any base 34 v) (h : DataW.Trod enc Tryz.prog W b0 spare held 34 v d ps) :
    ∃ a b c e : Int, v = .agg #[.int .i64 a, .int .i64 b, .int .i64 c, .int .i64 e] ∧ d = .agg [.lit (.int .i64 a), .lit (.int .i64 b), .lit (.int .i64 c), .lit (.int .i64 e)] ∧ ps = [] ∧
      ((Lit.int .i64 a).wf = true ∧ (Lit.int .i64 b).wf = true ∧ (Lit.int .i64 c).wf = true ∧ (Lit.int .i64 e).wf = true) := by
  obtain ⟨cs, rfl, hsz, _⟩ : ∃ cs, v = .agg cs ∧ cs.size = Tryz.prog.cellsOf 34 ∧ Row.okWide Tryz.prog W .any base 34 cs := by
    simpa [Value.okWide, Tryz.underlying34] using hval
  rw [cells_arr] at hsz
  obtain ⟨l⟩ := cs
  obtain ⟨c0, c1, c2, c3, rfl⟩ := list4 l hsz
  obtain ⟨fuel, hf⟩ := h
  obtain ⟨y0, y1, y2, y3, m, hx, hy0, hy1, hy2, hy3⟩ := trod_array4 Tryz.underlying34 cells_int hf
  obtain ⟨x0, e0, rfl, w0⟩ := DataW.trod_int Tryz.underlying3 hy0
  obtain ⟨x1, e1, rfl, w1⟩ := DataW.trod_int Tryz.underlying3 hy1
  obtain ⟨x2, e2, rfl, w2⟩ := DataW.trod_int Tryz.underlying3 hy2
  obtain ⟨x3, e3, rfl, w3⟩ := DataW.trod_int Tryz.underlying3 hy3
  simp at e0 e1 e2 e3
  subst e0 e1 e2 e3
  simp only [Prod.mk.injEq] at hx
  obtain ⟨rfl, rfl⟩ := hx
  exact ⟨x0, x1, x2, x3, rfl, rfl, by simp, w0, w1, w2, w3⟩
set_option maxRecDepth 100000 in
/-- .. and shut. -/
theorem shut_arr {H : Type} {enc : TypeId × Value → H} {W : World} {b0 : Nat} {spare : Nat → Bool} {held : Bool} {a b c e : Int}
    (w : (Lit.int .i64 a).wf = true ∧ (Lit.int .i64 b).wf = true ∧ (Lit.int .i64 c).wf = true ∧ (Lit.int .i64 e).wf = true) :
    DataW.Trod enc Tryz.prog W b0 spare held 34 (.agg #[.int .i64 a, .int .i64 b, .int .i64 c, .int .i64 e]) (.agg [.lit (.int .i64 a), .lit (.int .i64 b), .lit (.int .i64 c), .lit (.int .i64 e)]) [] := by
  obtain ⟨w0, w1, w2, w3⟩ := w
  exact ⟨2, by simp [DataW.trod, Value.cells, Tryz.underlying34, Tryz.underlying3, cells_arr, cells_int, w0, w1, w2, w3, show List.range 4 = [0, 1, 2, 3] from rfl]⟩

end Go.Proofs.YtmcppajgfhmpaaaGreatDoor.OpenArr
end

section
namespace Go.Proofs.YtmcppajgfhmpaaaGreatDoor.OpenArrs
open Go.ChangeShapes Go.WideShapes Go.ChangeAt Go.RowKit Go.Proofs.YtmcppajgfhmpaaaGreatDoor.OpenArr

/-- Four cells hold an array's numbers. -/
def Holds (W : World) (ad : Addr) (j : Nat) (x : Int × Int × Int × Int) : Prop :=
  W.cell? (ad.add (j * 4 + 0)) = some (.int .i64 x.1) ∧ W.cell? (ad.add (j * 4 + 1)) = some (.int .i64 x.2.1) ∧ W.cell? (ad.add (j * 4 + 2)) = some (.int .i64 x.2.2.1) ∧ W.cell? (ad.add (j * 4 + 3)) = some (.int .i64 x.2.2.2)
/-- A list of arrays in memory. -/
def IsArrs (W : World) (a : Option Addr) (len cap : Nat) (l : List (Int × Int × Int × Int)) : Prop :=
  l.length = len ∧ len ≤ cap ∧ len ≤ 9223372036854775807 ∧ (0 < len → ∃ ad, a = some ad ∧ ∀ j x, l[j]? = some x → Holds W ad j x)
set_option maxRecDepth 100000 in
theorem open_arrs {H : Type} {enc : TypeId × Value → H} {W : World} {b0 : Nat} {spare : Nat → Bool} {held : Bool} {a0 : Option Addr} {len cap : Nat} {d : DataW H} {ps : List MemPlace}
    (h : DataW.Trod enc Tryz.prog W b0 spare held 22 (.slice a0 len cap) d ps) : ∃ l, IsArrs W a0 len cap l := by
  obtain ⟨fuel, hf⟩ := h
  rcases Go.Deep.open_slice Tryz.underlying22 hf with ⟨hcs, _⟩ | ⟨a, len', cap', m, n, D, Pl, hcs, _, hl, hm, hmm, _, hx⟩
  · simp [Value.cells] at hcs
    obtain ⟨rfl, rfl, rfl⟩ := hcs
    exact ⟨[], rfl, Nat.le_refl _, by omega, fun h => absurd h (by omega)⟩
  · simp [Value.cells] at hcs
    obtain ⟨rfl, rfl, rfl⟩ := hcs
    have hlm : len ≤ m := by rw [hmm]; split <;> omega
    have each : ∀ i, i < len → ∃ x, Holds W a i x := by
      intro i hi
      obtain ⟨cs', h1, h2⟩ := hx i (by omega)
      rw [cells_arr] at h1
      obtain ⟨_, hlen, hcell⟩ := World.cells?_some h1
      match cs', hlen with
      | [c0, c1, c2, c3], _ =>
        obtain ⟨y0, y1, y2, y3, m', _, hy0, hy1, hy2, hy3⟩ := trod_array4 Tryz.underlying34 cells_int h2
        obtain ⟨x0, e0, _, _⟩ := DataW.trod_int Tryz.underlying3 hy0
        obtain ⟨x1, e1, _, _⟩ := DataW.trod_int Tryz.underlying3 hy1
        obtain ⟨x2, e2, _, _⟩ := DataW.trod_int Tryz.underlying3 hy2
        obtain ⟨x3, e3, _, _⟩ := DataW.trod_int Tryz.underlying3 hy3
        simp at e0 e1 e2 e3
        subst e0 e1 e2 e3
        have g0 := hcell 0 (by omega)
        have g1 := hcell 1 (by omega)
        have g2 := hcell 2 (by omega)
        have g3 := hcell 3 (by omega)
        rw [Go.Deep.add_add] at g0 g1 g2 g3
        exact ⟨(x0, x1, x2, x3), by simpa using g0, by simpa using g1, by simpa using g2, by simpa using g3⟩
    obtain ⟨f, hf⟩ := Go.Deep.choose_lt each
    refine ⟨(List.range len).map f, by simp, hl, by unfold maxLen at hm; omega, fun _ => ⟨a, rfl, fun j x hj => ?_⟩⟩
    rw [List.getElem?_map] at hj
    obtain ⟨i, hi, rfl⟩ := Option.map_eq_some_iff.1 hj
    rw [List.getElem?_eq_some_iff] at hi
    obtain ⟨hi1, hi2⟩ := hi
    rw [List.getElem_range] at hi2
    subst hi2
    exact hf j (by simpa using hi1)
end Go.Proofs.YtmcppajgfhmpaaaGreatDoor.OpenArrs
end
