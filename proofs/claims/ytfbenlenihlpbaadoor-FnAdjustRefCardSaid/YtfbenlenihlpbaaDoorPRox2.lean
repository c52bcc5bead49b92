/- Contracts of functions that the text "Ro" uses: the call ends in what the plain Lean function says, where that says something. Written by a program of this session. No conditions. -/
import Derived.Test.YtfbenlenihlpbaaDoorPRox0
import Derived.Test.YtfbenlenihlpbaaDoorPRox1
namespace Go.Proofs.YtfbenlenihlpbaaDoor.PRo
open Go.RowKit Go.Proofs.YtfbenlenihlpbaaDoorW.PrintWords Go.Proofs.YtfbenlenihlpbaaDoorW.PrintLast Go.Proofs.YtfbenlenihlpbaaDoorW.PrintMore
attribute [local go_sem] max2_int min2_int max_two min_two max_three min_three max_four min_four   -- for this text's walks alone
set_option linter.unusedVariables false
set_option linter.unusedSimpArgs false

/-! ### spec_Cell: function 55 -/
mutual
def spec_Cell.l0 : Nat → ByteArray → Int → Int → Int → Option (Int × Int × Bool × Bool)
  | 0, _, _, _, _ => none
  | k + 1, x0, x3, x6, x7 => if x7 < (x0.size : Int) then (if 0 ≤ x7 then (if (bt x0 x7) = 36 then (if (bt x0 x7) = 43 then (some (0, 0, false, false)) else (spec_Cell.l0 k x0 x3 (wrap64 (x6 + 1)) (wrap64 (x7 + 1)))) else (if (bt x0 x7) = 43 then (some (0, 0, false, false)) else (spec_Cell.l0 k x0 x3 x6 (wrap64 (x7 + 1))))) else (none)) else (if 0 < (x0.size : Int) then (spec_Cell.j1 k x0 x3 x6 0 ((bt x0 0) == 36)) else (spec_Cell.j1 k x0 x3 x6 0 false))
def spec_Cell.j1 : Nat → ByteArray → Int → Int → Int → Bool → Option (Int × Int × Bool × Bool)
  | 0, _, _, _, _, _ => none
  | k + 1, x0, x3, x6, x8, x37 => if x37 = true then (spec_Cell.j2 k x0 x3 (wrap64 (x6 - 1)) (wrap64 (x8 + 1))) else (spec_Cell.j2 k x0 x3 x6 x8)
def spec_Cell.j2 : Nat → ByteArray → Int → Int → Int → Option (Int × Int × Bool × Bool)
  | 0, _, _, _, _ => none
  | k + 1, x0, x3, x6, x8 => spec_Cell.l1 k x0 x3 x6 x8 x8
def spec_Cell.j4 : Nat → ByteArray → Int → Int → Int → Int → Option (Int × Int × Bool × Bool)
  | 0, _, _, _, _, _ => none
  | k + 1, x0, x3, x6, x8, x9 => if 0 ≤ x9 then (if x9 ≤ x8 then (if x8 ≤ (x0.size : Int) then ((spec_ColumnNumber.f k (x0.extract (x9 : Int).toNat (x8 : Int).toNat)).bind fun bt101 => (if (wrap64 (x8 + 1)) < (x0.size : Int) then (if x8 > x9 then (if 0 ≤ x8 then (if x8 < (x0.size : Int) then (if (bt x0 x8) = 36 then (if 0 ≤ (wrap64 (x8 + 1)) then (if (bt x0 (wrap64 (x8 + 1))) ≥ 48 then (spec_Cell.j5 k x0 bt101.1 x3 x6 x8 bt101.2 (decide ((bt x0 (wrap64 (x8 + 1))) ≤ 57))) else (spec_Cell.j5 k x0 bt101.1 x3 x6 x8 bt101.2 false)) else (none)) else (spec_Cell.j5 k x0 bt101.1 x3 x6 x8 bt101.2 false)) else (none)) else (none)) else (spec_Cell.j5 k x0 bt101.1 x3 x6 x8 bt101.2 false)) else (spec_Cell.j5 k x0 bt101.1 x3 x6 x8 bt101.2 false))) else (none)) else (none)) else (none)
def spec_Cell.j5 : Nat → ByteArray → Int → Int → Int → Int → Bool → Bool → Option (Int × Int × Bool × Bool)
  | 0, _, _, _, _, _, _, _ => none
  | k + 1, x0, x2, x3, x6, x8, x10, x105 => if x105 = true then (spec_Cell.j6 k x0 x2 x3 (wrap64 (x6 - 1)) (wrap64 (x8 + 1)) x10) else (spec_Cell.j6 k x0 x2 x3 x6 x8 x10)
def spec_Cell.j6 : Nat → ByteArray → Int → Int → Int → Int → Bool → Option (Int × Int × Bool × Bool)
  | 0, _, _, _, _, _, _ => none
  | k + 1, x0, x2, x3, x6, x8, x10 => if x6 > 0 then (spec_Cell.j7 k x0 x2 x3 x8 x10 true) else (if x8 < (x0.size : Int) then (if 0 ≤ x8 then (spec_Cell.j7 k x0 x2 x3 x8 x10 ((bt x0 x8) == 48)) else (none)) else (spec_Cell.j7 k x0 x2 x3 x8 x10 false))
def spec_Cell.j7 : Nat → ByteArray → Int → Int → Int → Bool → Bool → Option (Int × Int × Bool × Bool)
  | 0, _, _, _, _, _, _ => none
  | k + 1, x0, x2, x3, x8, x10, x123 => if x123 = true then (some (0, 0, false, false)) else (spec_Cell.l2 k x0 x2 x3 x10 x8)
def spec_Cell.l2 : Nat → ByteArray → Int → Int → Bool → Int → Option (Int × Int × Bool × Bool)
  | 0, _, _, _, _, _ => none
  | k + 1, x0, x2, x3, x10, x11 => if x11 < (x0.size : Int) then (if 0 ≤ x11 then (if (bt x0 x11) < 48 then (spec_Cell.j9 k x0 x2 x3 x10 x11 true) else (spec_Cell.j9 k x0 x2 x3 x10 x11 (decide ((bt x0 x11) > 57)))) else (none)) else (if x10 = true then (if x3 < 1 then (some (0, 0, false, true)) else (if x3 > 1048576 then (some (0, 0, false, true)) else (some (x2, x3, true, true)))) else (some (0, 0, false, true)))
def spec_Cell.j9 : Nat → ByteArray → Int → Int → Bool → Int → Bool → Option (Int × Int × Bool × Bool)
  | 0, _, _, _, _, _, _ => none
  | k + 1, x0, x2, x3, x10, x11, x140 => if x140 = true then (some (0, 0, false, true)) else (if x3 ≤ 1048576 then (if 0 ≤ x11 then (if x11 < (x0.size : Int) then (spec_Cell.l2 k x0 x2 (wrap64 ((wrap64 (10 * x3)) + (((bt x0 x11) - 48) % 256))) x10 (wrap64 (x11 + 1))) else (none)) else (none)) else (spec_Cell.l2 k x0 x2 x3 x10 (wrap64 (x11 + 1))))
def spec_Cell.l1 : Nat → ByteArray → Int → Int → Int → Int → Option (Int × Int × Bool × Bool)
  | 0, _, _, _, _, _ => none
  | k + 1, x0, x3, x6, x8, x9 => if x8 < (x0.size : Int) then (if 0 ≤ x8 then (if (bt x0 x8) ≥ 48 then (if ((bt x0 x8) ≤ 57) then (spec_Cell.j4 k x0 x3 x6 x8 x9) else (if (bt x0 x8) = 36 then (spec_Cell.j4 k x0 x3 x6 x8 x9) else (spec_Cell.l1 k x0 x3 x6 (wrap64 (x8 + 1)) x9))) else (if (bt x0 x8) = 36 then (spec_Cell.j4 k x0 x3 x6 x8 x9) else (spec_Cell.l1 k x0 x3 x6 (wrap64 (x8 + 1)) x9))) else (none)) else (spec_Cell.j4 k x0 x3 x6 x8 x9)
end
def spec_Cell.f (k : Nat) (a0 : ByteArray) : Option (Int × Int × Bool × Bool) := spec_Cell.l0 k a0 0 0 0
theorem spec_Cell.mono_l : ∀ k, (∀ y0 y1 y2 y3, LeO (spec_Cell.l0 k y0 y1 y2 y3) (spec_Cell.l0 (k + 1) y0 y1 y2 y3)) ∧ (∀ y0 y1 y2 y3 y4, LeO (spec_Cell.j1 k y0 y1 y2 y3 y4) (spec_Cell.j1 (k + 1) y0 y1 y2 y3 y4)) ∧ (∀ y0 y1 y2 y3, LeO (spec_Cell.j2 k y0 y1 y2 y3) (spec_Cell.j2 (k + 1) y0 y1 y2 y3)) ∧ (∀ y0 y1 y2 y3 y4, LeO (spec_Cell.j4 k y0 y1 y2 y3 y4) (spec_Cell.j4 (k + 1) y0 y1 y2 y3 y4)) ∧ (∀ y0 y1 y2 y3 y4 y5 y6, LeO (spec_Cell.j5 k y0 y1 y2 y3 y4 y5 y6) (spec_Cell.j5 (k + 1) y0 y1 y2 y3 y4 y5 y6)) ∧ (∀ y0 y1 y2 y3 y4 y5, LeO (spec_Cell.j6 k y0 y1 y2 y3 y4 y5) (spec_Cell.j6 (k + 1) y0 y1 y2 y3 y4 y5)) ∧ (∀ y0 y1 y2 y3 y4 y5, LeO (spec_Cell.j7 k y0 y1 y2 y3 y4 y5) (spec_Cell.j7 (k + 1) y0 y1 y2 y3 y4 y5)) ∧ (∀ y0 y1 y2 y3 y4, LeO (spec_Cell.l2 k y0 y1 y2 y3 y4) (spec_Cell.l2 (k + 1) y0 y1 y2 y3 y4)) ∧ (∀ y0 y1 y2 y3 y4 y5, LeO (spec_Cell.j9 k y0 y1 y2 y3 y4 y5) (spec_Cell.j9 (k + 1) y0 y1 y2 y3 y4 y5)) ∧ (∀ y0 y1 y2 y3 y4, LeO (spec_Cell.l1 k y0 y1 y2 y3 y4) (spec_Cell.l1 (k + 1) y0 y1 y2 y3 y4))
  | 0 => ⟨fun _ _ _ _ r h => by simp [spec_Cell.l0] at h, fun _ _ _ _ _ r h => by simp [spec_Cell.j1] at h, fun _ _ _ _ r h => by simp [spec_Cell.j2] at h, fun _ _ _ _ _ r h => by simp [spec_Cell.j4] at h, fun _ _ _ _ _ _ _ r h => by simp [spec_Cell.j5] at h, fun _ _ _ _ _ _ r h => by simp [spec_Cell.j6] at h, fun _ _ _ _ _ _ r h => by simp [spec_Cell.j7] at h, fun _ _ _ _ _ r h => by simp [spec_Cell.l2] at h, fun _ _ _ _ _ _ r h => by simp [spec_Cell.j9] at h, fun _ _ _ _ _ r h => by simp [spec_Cell.l1] at h⟩
  | k + 1 => by
    obtain ⟨ih0, ih1, ih2, ih3, ih4, ih5, ih6, ih7, ih8, ih9⟩ := spec_Cell.mono_l k
    refine ⟨?_, ?_, ?_, ?_, ?_, ?_, ?_, ?_, ?_, ?_⟩
    · intro y0 y1 y2 y3
      unfold spec_Cell.l0
      repeat' first
      | (with_reducible exact ih0 _ _ _ _)
      | (with_reducible exact ih1 _ _ _ _ _)
      | (with_reducible exact ih2 _ _ _ _)
      | (with_reducible exact ih3 _ _ _ _ _)
      | (with_reducible exact ih4 _ _ _ _ _ _ _)
      | (with_reducible exact ih5 _ _ _ _ _ _)
      | (with_reducible exact ih6 _ _ _ _ _ _)
      | (with_reducible exact ih7 _ _ _ _ _)
      | (with_reducible exact ih8 _ _ _ _ _ _)
      | (with_reducible exact ih9 _ _ _ _ _)
      | (with_reducible exact spec_ColumnNumber.mono _ _)
      | (with_reducible exact LeO.refl _)
      | (with_reducible exact LeO.none _)
      | (with_reducible refine LeO.ite ?_ ?_)
      | (with_reducible refine LeO.bind ?_ (fun _ => ?_))
      | exact ih0 _ _ _ _
      | exact ih1 _ _ _ _ _
      | exact ih2 _ _ _ _
      | exact ih3 _ _ _ _ _
      | exact ih4 _ _ _ _ _ _ _
      | exact ih5 _ _ _ _ _ _
      | exact ih6 _ _ _ _ _ _
      | exact ih7 _ _ _ _ _
      | exact ih8 _ _ _ _ _ _
      | exact ih9 _ _ _ _ _
      | exact spec_ColumnNumber.mono _ _
      | exact LeO.none _
      | refine LeO.ite ?_ ?_
      | refine LeO.bind ?_ (fun _ => ?_)
    · intro y0 y1 y2 y3 y4
      unfold spec_Cell.j1
      repeat' first
      | (with_reducible exact ih0 _ _ _ _)
      | (with_reducible exact ih1 _ _ _ _ _)
      | (with_reducible exact ih2 _ _ _ _)
      | (with_reducible exact ih3 _ _ _ _ _)
      | (with_reducible exact ih4 _ _ _ _ _ _ _)
      | (with_reducible exact ih5 _ _ _ _ _ _)
      | (with_reducible exact ih6 _ _ _ _ _ _)
      | (with_reducible exact ih7 _ _ _ _ _)
      | (with_reducible exact ih8 _ _ _ _ _ _)
      | (with_reducible exact ih9 _ _ _ _ _)
      | (with_reducible exact spec_ColumnNumber.mono _ _)
      | (with_reducible exact LeO.refl _)
      | (with_reducible exact LeO.none _)
      | (with_reducible refine LeO.ite ?_ ?_)
      | (with_reducible refine LeO.bind ?_ (fun _ => ?_))
      | exact ih0 _ _ _ _
      | exact ih1 _ _ _ _ _
      | exact ih2 _ _ _ _
      | exact ih3 _ _ _ _ _
      | exact ih4 _ _ _ _ _ _ _
      | exact ih5 _ _ _ _ _ _
      | exact ih6 _ _ _ _ _ _
      | exact ih7 _ _ _ _ _
      | exact ih8 _ _ _ _ _ _
      | exact ih9 _ _ _ _ _
      | exact spec_ColumnNumber.mono _ _
      | exact LeO.none _
      | refine LeO.ite ?_ ?_
      | refine LeO.bind ?_ (fun _ => ?_)
    · intro y0 y1 y2 y3
      unfold spec_Cell.j2
      repeat' first
      | (with_reducible exact ih0 _ _ _ _)
      | (with_reducible exact ih1 _ _ _ _ _)
      | (with_reducible exact ih2 _ _ _ _)
      | (with_reducible exact ih3 _ _ _ _ _)
      | (with_reducible exact ih4 _ _ _ _ _ _ _)
      | (with_reducible exact ih5 _ _ _ _ _ _)
      | (with_reducible exact ih6 _ _ _ _ _ _)
      | (with_reducible exact ih7 _ _ _ _ _)
      | (with_reducible exact ih8 _ _ _ _ _ _)
      | (with_reducible exact ih9 _ _ _ _ _)
      | (with_reducible exact spec_ColumnNumber.mono _ _)
      | (with_reducible exact LeO.refl _)
      | (with_reducible exact LeO.none _)
      | (with_reducible refine LeO.ite ?_ ?_)
      | (with_reducible refine LeO.bind ?_ (fun _ => ?_))
      | exact ih0 _ _ _ _
      | exact ih1 _ _ _ _ _
      | exact ih2 _ _ _ _
      | exact ih3 _ _ _ _ _
      | exact ih4 _ _ _ _ _ _ _
      | exact ih5 _ _ _ _ _ _
      | exact ih6 _ _ _ _ _ _
      | exact ih7 _ _ _ _ _
      | exact ih8 _ _ _ _ _ _
      | exact ih9 _ _ _ _ _
      | exact spec_ColumnNumber.mono _ _
      | exact LeO.none _
      | refine LeO.ite ?_ ?_
      | refine LeO.bind ?_ (fun _ => ?_)
    · intro y0 y1 y2 y3 y4
      unfold spec_Cell.j4
      repeat' first
      | (with_reducible exact ih0 _ _ _ _)
      | (with_reducible exact ih1 _ _ _ _ _)
      | (with_reducible exact ih2 _ _ _ _)
      | (with_reducible exact ih3 _ _ _ _ _)
      | (with_reducible exact ih4 _ _ _ _ _ _ _)
      | (with_reducible exact ih5 _ _ _ _ _ _)
      | (with_reducible exact ih6 _ _ _ _ _ _)
      | (with_reducible exact ih7 _ _ _ _ _)
      | (with_reducible exact ih8 _ _ _ _ _ _)
      | (with_reducible exact ih9 _ _ _ _ _)
      | (with_reducible exact spec_ColumnNumber.mono _ _)
      | (with_reducible exact LeO.refl _)
      | (with_reducible exact LeO.none _)
      | (with_reducible refine LeO.ite ?_ ?_)
      | (with_reducible refine LeO.bind ?_ (fun _ => ?_))
      | exact ih0 _ _ _ _
      | exact ih1 _ _ _ _ _
      | exact ih2 _ _ _ _
      | exact ih3 _ _ _ _ _
      | exact ih4 _ _ _ _ _ _ _
      | exact ih5 _ _ _ _ _ _
      | exact ih6 _ _ _ _ _ _
      | exact ih7 _ _ _ _ _
      | exact ih8 _ _ _ _ _ _
      | exact ih9 _ _ _ _ _
      | exact spec_ColumnNumber.mono _ _
      | exact LeO.none _
      | refine LeO.ite ?_ ?_
      | refine LeO.bind ?_ (fun _ => ?_)
    · intro y0 y1 y2 y3 y4 y5 y6
      unfold spec_Cell.j5
      repeat' first
      | (with_reducible exact ih0 _ _ _ _)
      | (with_reducible exact ih1 _ _ _ _ _)
      | (with_reducible exact ih2 _ _ _ _)
      | (with_reducible exact ih3 _ _ _ _ _)
      | (with_reducible exact ih4 _ _ _ _ _ _ _)
      | (with_reducible exact ih5 _ _ _ _ _ _)
      | (with_reducible exact ih6 _ _ _ _ _ _)
      | (with_reducible exact ih7 _ _ _ _ _)
      | (with_reducible exact ih8 _ _ _ _ _ _)
      | (with_reducible exact ih9 _ _ _ _ _)
      | (with_reducible exact spec_ColumnNumber.mono _ _)
      | (with_reducible exact LeO.refl _)
      | (with_reducible exact LeO.none _)
      | (with_reducible refine LeO.ite ?_ ?_)
      | (with_reducible refine LeO.bind ?_ (fun _ => ?_))
      | exact ih0 _ _ _ _
      | exact ih1 _ _ _ _ _
      | exact ih2 _ _ _ _
      | exact ih3 _ _ _ _ _
      | exact ih4 _ _ _ _ _ _ _
      | exact ih5 _ _ _ _ _ _
      | exact ih6 _ _ _ _ _ _
      | exact ih7 _ _ _ _ _
      | exact ih8 _ _ _ _ _ _
      | exact ih9 _ _ _ _ _
      | exact spec_ColumnNumber.mono _ _
      | exact LeO.none _
      | refine LeO.ite ?_ ?_
      | refine LeO.bind ?_ (fun _ => ?_)
    · intro y0 y1 y2 y3 y4 y5
      unfold spec_Cell.j6
      repeat' first
      | (with_reducible exact ih0 _ _ _ _)
      | (with_reducible exact ih1 _ _ _ _ _)
      | (with_reducible exact ih2 _ _ _ _)
      | (with_reducible exact ih3 _ _ _ _ _)
      | (with_reducible exact ih4 _ _ _ _ _ _ _)
      | (with_reducible exact ih5 _ _ _ _ _ _)
      | (with_reducible exact ih6 _ _ _ _ _ _)
      | (with_reducible exact ih7 _ _ _ _ _)
      | (with_reducible exact ih8 _ _ _ _ _ _)
      | (with_reducible exact ih9 _ _ _ _ _)
      | (with_reducible exact spec_ColumnNumber.mono _ _)
      | (with_reducible exact LeO.refl _)
      | (with_reducible exact LeO.none _)
      | (with_reducible refine LeO.ite ?_ ?_)
      | (with_reducible refine LeO.bind ?_ (fun _ => ?_))
      | exact ih0 _ _ _ _
      | exact ih1 _ _ _ _ _
      | exact ih2 _ _ _ _
      | exact ih3 _ _ _ _ _
      | exact ih4 _ _ _ _ _ _ _
      | exact ih5 _ _ _ _ _ _
      | exact ih6 _ _ _ _ _ _
      | exact ih7 _ _ _ _ _
      | exact ih8 _ _ _ _ _ _
      | exact ih9 _ _ _ _ _
      | exact spec_ColumnNumber.mono _ _
      | exact LeO.none _
      | refine LeO.ite ?_ ?_
      | refine LeO.bind ?_ (fun _ => ?_)
    · intro y0 y1 y2 y3 y4 y5
      unfold spec_Cell.j7
      repeat' first
      | (with_reducible exact ih0 _ _ _ _)
      | (with_reducible exact ih1 _ _ _ _ _)
      | (with_reducible exact ih2 _ _ _ _)
      | (with_reducible exact ih3 _ _ _ _ _)
      | (with_reducible exact ih4 _ _ _ _ _ _ _)
      | (with_reducible exact ih5 _ _ _ _ _ _)
      | (with_reducible exact ih6 _ _ _ _ _ _)
      | (with_reducible exact ih7 _ _ _ _ _)
      | (with_reducible exact ih8 _ _ _ _ _ _)
      | (with_reducible exact ih9 _ _ _ _ _)
      | (with_reducible exact spec_ColumnNumber.mono _ _)
      | (with_reducible exact LeO.refl _)
      | (with_reducible exact LeO.none _)
      | (with_reducible refine LeO.ite ?_ ?_)
      | (with_reducible refine LeO.bind ?_ (fun _ => ?_))
      | exact ih0 _ _ _ _
      | exact ih1 _ _ _ _ _
      | exact ih2 _ _ _ _
      | exact ih3 _ _ _ _ _
      | exact ih4 _ _ _ _ _ _ _
      | exact ih5 _ _ _ _ _ _
      | exact ih6 _ _ _ _ _ _
      | exact ih7 _ _ _ _ _
      | exact ih8 _ _ _ _ _ _
      | exact ih9 _ _ _ _ _
      | exact spec_ColumnNumber.mono _ _
      | exact LeO.none _
      | refine LeO.ite ?_ ?_
      | refine LeO.bind ?_ (fun _ => ?_)
    · intro y0 y1 y2 y3 y4
      unfold spec_Cell.l2
      repeat' first
      | (with_reducible exact ih0 _ _ _ _)
      | (with_reducible exact ih1 _ _ _ _ _)
      | (with_reducible exact ih2 _ _ _ _)
      | (with_reducible exact ih3 _ _ _ _ _)
      | (with_reducible exact ih4 _ _ _ _ _ _ _)
      | (with_reducible exact ih5 _ _ _ _ _ _)
      | (with_reducible exact ih6 _ _ _ _ _ _)
      | (with_reducible exact ih7 _ _ _ _ _)
      | (with_reducible exact ih8 _ _ _ _ _ _)
      | (with_reducible exact ih9 _ _ _ _ _)
      | (with_reducible exact spec_ColumnNumber.mono _ _)
      | (with_reducible exact LeO.refl _)
      | (with_reducible exact LeO.none _)
      | (with_reducible refine LeO.ite ?_ ?_)
      | (with_reducible refine LeO.bind ?_ (fun _ => ?_))
      | exact ih0 _ _ _ _
      | exact ih1 _ _ _ _ _
      | exact ih2 _ _ _ _
      | exact ih3 _ _ _ _ _
      | exact ih4 _ _ _ _ _ _ _
      | exact ih5 _ _ _ _ _ _
      | exact ih6 _ _ _ _ _ _
      | exact ih7 _ _ _ _ _
      | exact ih8 _ _ _ _ _ _
      | exact ih9 _ _ _ _ _
      | exact spec_ColumnNumber.mono _ _
      | exact LeO.none _
      | refine LeO.ite ?_ ?_
      | refine LeO.bind ?_ (fun _ => ?_)
    · intro y0 y1 y2 y3 y4 y5
      unfold spec_Cell.j9
      repeat' first
      | (with_reducible exact ih0 _ _ _ _)
      | (with_reducible exact ih1 _ _ _ _ _)
      | (with_reducible exact ih2 _ _ _ _)
      | (with_reducible exact ih3 _ _ _ _ _)
      | (with_reducible exact ih4 _ _ _ _ _ _ _)
      | (with_reducible exact ih5 _ _ _ _ _ _)
      | (with_reducible exact ih6 _ _ _ _ _ _)
      | (with_reducible exact ih7 _ _ _ _ _)
      | (with_reducible exact ih8 _ _ _ _ _ _)
      | (with_reducible exact ih9 _ _ _ _ _)
      | (with_reducible exact spec_ColumnNumber.mono _ _)
      | (with_reducible exact LeO.refl _)
      | (with_reducible exact LeO.none _)
      | (with_reducible refine LeO.ite ?_ ?_)
      | (with_reducible refine LeO.bind ?_ (fun _ => ?_))
      | exact ih0 _ _ _ _
      | exact ih1 _ _ _ _ _
      | exact ih2 _ _ _ _
      | exact ih3 _ _ _ _ _
      | exact ih4 _ _ _ _ _ _ _
      | exact ih5 _ _ _ _ _ _
      | exact ih6 _ _ _ _ _ _
      | exact ih7 _ _ _ _ _
      | exact ih8 _ _ _ _ _ _
      | exact ih9 _ _ _ _ _
      | exact spec_ColumnNumber.mono _ _
      | exact LeO.none _
      | refine LeO.ite ?_ ?_
      | refine LeO.bind ?_ (fun _ => ?_)
    · intro y0 y1 y2 y3 y4
      unfold spec_Cell.l1
      repeat' first
      | (with_reducible exact ih0 _ _ _ _)
      | (with_reducible exact ih1 _ _ _ _ _)
      | (with_reducible exact ih2 _ _ _ _)
      | (with_reducible exact ih3 _ _ _ _ _)
      | (with_reducible exact ih4 _ _ _ _ _ _ _)
      | (with_reducible exact ih5 _ _ _ _ _ _)
      | (with_reducible exact ih6 _ _ _ _ _ _)
      | (with_reducible exact ih7 _ _ _ _ _)
      | (with_reducible exact ih8 _ _ _ _ _ _)
      | (with_reducible exact ih9 _ _ _ _ _)
      | (with_reducible exact spec_ColumnNumber.mono _ _)
      | (with_reducible exact LeO.refl _)
      | (with_reducible exact LeO.none _)
      | (with_reducible refine LeO.ite ?_ ?_)
      | (with_reducible refine LeO.bind ?_ (fun _ => ?_))
      | exact ih0 _ _ _ _
      | exact ih1 _ _ _ _ _
      | exact ih2 _ _ _ _
      | exact ih3 _ _ _ _ _
      | exact ih4 _ _ _ _ _ _ _
      | exact ih5 _ _ _ _ _ _
      | exact ih6 _ _ _ _ _ _
      | exact ih7 _ _ _ _ _
      | exact ih8 _ _ _ _ _ _
      | exact ih9 _ _ _ _ _
      | exact spec_ColumnNumber.mono _ _
      | exact LeO.none _
      | refine LeO.ite ?_ ?_
      | refine LeO.bind ?_ (fun _ => ?_)
theorem spec_Cell.mono : ∀ a0 k, LeO (spec_Cell.f k a0) (spec_Cell.f (k + 1) a0) := by
  intro a0 k
  obtain ⟨ih0, ih1, ih2, ih3, ih4, ih5, ih6, ih7, ih8, ih9⟩ := spec_Cell.mono_l k
  unfold spec_Cell.f
  repeat' first
      | (with_reducible exact ih0 _ _ _ _)
      | (with_reducible exact ih1 _ _ _ _ _)
      | (with_reducible exact ih2 _ _ _ _)
      | (with_reducible exact ih3 _ _ _ _ _)
      | (with_reducible exact ih4 _ _ _ _ _ _ _)
      | (with_reducible exact ih5 _ _ _ _ _ _)
      | (with_reducible exact ih6 _ _ _ _ _ _)
      | (with_reducible exact ih7 _ _ _ _ _)
      | (with_reducible exact ih8 _ _ _ _ _ _)
      | (with_reducible exact ih9 _ _ _ _ _)
      | (with_reducible exact spec_ColumnNumber.mono _ _)
      | (with_reducible exact LeO.refl _)
      | (with_reducible exact LeO.none _)
      | (with_reducible refine LeO.ite ?_ ?_)
      | (with_reducible refine LeO.bind ?_ (fun _ => ?_))
      | exact ih0 _ _ _ _
      | exact ih1 _ _ _ _ _
      | exact ih2 _ _ _ _
      | exact ih3 _ _ _ _ _
      | exact ih4 _ _ _ _ _ _ _
      | exact ih5 _ _ _ _ _ _
      | exact ih6 _ _ _ _ _ _
      | exact ih7 _ _ _ _ _
      | exact ih8 _ _ _ _ _ _
      | exact ih9 _ _ _ _ _
      | exact spec_ColumnNumber.mono _ _
      | exact LeO.none _
      | refine LeO.ite ?_ ?_
      | refine LeO.bind ?_ (fun _ => ?_)
set_option maxHeartbeats 8000000 in
set_option maxRecDepth 100000 in
theorem spec_Cell.calls (k : Nat) (a0 : ByteArray) (r1 : Int) (r2 : Int) (r3 : Bool) (r4 : Bool) (w : World) (h : spec_Cell.f k a0 = some (r1, r2, r3, r4)) :
    Calls Tryd.prog 55 #[.string a0] w fun e w' => e = .returned (.tuple #[.int .i64 r1, .int .i64 r2, .bool r3, .bool r4]) ∧ Drawn0 w w' := by
  have H : (spec_Cell.l0 k a0 0 0 0) = some (r1, r2, r3, r4) := h
  clear h
  have H' := Aside0.mk H
  clear H
  go_enter Tryd.func55, Tryd.ntmps55
  go_wp2
  go_loopg [3, 6, 7] k (fun kq v3 v6 v7 w' => ∃ (x3_1 : Int) (x6_1 : Int) (x7_1 : Int), v3 = .int .i64 x3_1 ∧ v6 = .int .i64 x6_1 ∧ v7 = .int .i64 x7_1 ∧ Aside0 (spec_Cell.l0 kq a0 x3_1 x6_1 x7_1 = some (r1, r2, r3, r4)) ∧ Aside0 (kq ≤ k) ∧ Drawn0 w w')
  case atStart => exact ⟨(0), (0), (0), (by first | rfl | (simp; done) | (simp [*]; done) | (simp [wrap64]; done) | (generalize ByteArray.toList _ = l_; cases l_ <;> first | rfl | (simp; done))), (by first | rfl | (simp; done) | (simp [*]; done) | (simp [wrap64]; done) | (generalize ByteArray.toList _ = l_; cases l_ <;> first | rfl | (simp; done))), (by first | rfl | (simp; done) | (simp [*]; done) | (simp [wrap64]; done) | (generalize ByteArray.toList _ = l_; cases l_ <;> first | rfl | (simp; done))), H', ⟨Nat.le_refl _⟩, by repeat (first | exact Drawn0.refl _ | apply Drawn0.step)⟩
  case round =>
    clear H'
    obtain ⟨x3_1, x6_1, x7_1, rfl, rfl, rfl, HA, HK1, ⟨m1, rfl⟩⟩ := hrel
    cases gk with
    | zero => exact absurd HA.out (by simp [spec_Cell.l0])
    | succ k1 =>
      have H := HA.out
      clear HA
      simp only [spec_Cell.l0] at H
      by_cases c2 : x7_1 < (a0.size : Int)
      · rw [if_pos c2] at H
        have c2b0 : decide (x7_1 < (a0.size : Int)) = true := decide_eq_true c2
        clear c2
        by_cases c3 : 0 ≤ x7_1
        · rw [if_pos c3] at H
          have c3b0 : decide (0 ≤ x7_1) = true := decide_eq_true c3
          clear c3
          by_cases c5 : (bt a0 x7_1) = 36
          · rw [if_pos c5] at H
            have c5b0 : ((bt a0 x7_1) == 36) = true := beq_iff_eq.mpr c5
            have c5b1 : ((bt a0 x7_1) != 36) = false := bne_eq_false_iff_eq.mpr c5
            clear c5
            by_cases c7 : (bt a0 x7_1) = 43
            · rw [if_pos c7] at H
              have c7b0 : ((bt a0 x7_1) == 43) = true := beq_iff_eq.mpr c7
              have c7b1 : ((bt a0 x7_1) != 43) = false := bne_eq_false_iff_eq.mpr c7
              clear c7
              simp only [Option.some.injEq, Prod.mk.injEq] at H
              obtain ⟨rfl, rfl, rfl, rfl⟩ := H
              have p4 : 0 ≤ (x7_1 : Int) := of_decide_eq_true (by first | (with_reducible assumption) | assumption)
              have q4 : x7_1 < (a0.size : Int) := of_decide_eq_true (by first | (with_reducible assumption) | assumption)
              have hx4 := bt_at a0 x7_1
              replace p4 := eq_true p4
              replace q4 := eq_true q4
              have p6 : 0 ≤ (x7_1 : Int) := of_decide_eq_true (by first | (with_reducible assumption) | assumption)
              have q6 : x7_1 < (a0.size : Int) := of_decide_eq_true (by first | (with_reducible assumption) | assumption)
              have hx6 := bt_at a0 x7_1
              replace p6 := eq_true p6
              replace q6 := eq_true q6
              go_wp2
              refine bodyPost_ret (results_list (rs := [.tmp 2, .tmp 3, .tmp 4, .tmp 5]) rfl (by simp) (.tmp (.tmp (.tmp (.tmp .nil))))) rfl ?_
              exact ⟨by first | rfl | (simp; done) | (simp [*]; done) | (simp [wrap64]; done) | (generalize ByteArray.toList _ = l_; cases l_ <;> first | rfl | (simp; done)), by repeat (first | exact Drawn0.refl _ | apply Drawn0.step)⟩
            · rw [if_neg c7] at H
              have c7b0 : ((bt a0 x7_1) == 43) = false := beq_eq_false_iff_ne.mpr c7
              have c7b1 : ((bt a0 x7_1) != 43) = true := bne_iff_ne.mpr c7
              have H' := Aside0.mk H
              clear H
              have p4 : 0 ≤ (x7_1 : Int) := of_decide_eq_true (by first | (with_reducible assumption) | assumption)
              have q4 : x7_1 < (a0.size : Int) := of_decide_eq_true (by first | (with_reducible assumption) | assumption)
              have hx4 := bt_at a0 x7_1
              replace p4 := eq_true p4
              replace q4 := eq_true q4
              have p6 : 0 ≤ (x7_1 : Int) := of_decide_eq_true (by first | (with_reducible assumption) | assumption)
              have q6 : x7_1 < (a0.size : Int) := of_decide_eq_true (by first | (with_reducible assumption) | assumption)
              have hx6 := bt_at a0 x7_1
              replace p6 := eq_true p6
              replace q6 := eq_true q6
              go_wp2
              go_roundg k1
              case measure => have := HK1.out; omega
              case rel => exact ⟨(x3_1), (wrap64 (x6_1 + 1)), (wrap64 (x7_1 + 1)), (by first | rfl | (simp; done) | (simp [*]; done) | (simp [wrap64]; done) | (generalize ByteArray.toList _ = l_; cases l_ <;> first | rfl | (simp; done))), (by first | rfl | (simp; done) | (simp [*]; done) | (simp [wrap64]; done) | (generalize ByteArray.toList _ = l_; cases l_ <;> first | rfl | (simp; done))), (by first | rfl | (simp; done) | (simp [*]; done) | (simp [wrap64]; done) | (generalize ByteArray.toList _ = l_; cases l_ <;> first | rfl | (simp; done))), H', ⟨by have := HK1.out; omega⟩, by repeat (first | exact Drawn0.refl _ | apply Drawn0.step)⟩
          · rw [if_neg c5] at H
            have c5b0 : ((bt a0 x7_1) == 36) = false := beq_eq_false_iff_ne.mpr c5
            have c5b1 : ((bt a0 x7_1) != 36) = true := bne_iff_ne.mpr c5
            by_cases c9 : (bt a0 x7_1) = 43
            · rw [if_pos c9] at H
              have c9b0 : ((bt a0 x7_1) == 43) = true := beq_iff_eq.mpr c9
              have c9b1 : ((bt a0 x7_1) != 43) = false := bne_eq_false_iff_eq.mpr c9
              clear c9
              simp only [Option.some.injEq, Prod.mk.injEq] at H
              obtain ⟨rfl, rfl, rfl, rfl⟩ := H
              have p4 : 0 ≤ (x7_1 : Int) := of_decide_eq_true (by first | (with_reducible assumption) | assumption)
              have q4 : x7_1 < (a0.size : Int) := of_decide_eq_true (by first | (with_reducible assumption) | assumption)
              have hx4 := bt_at a0 x7_1
              replace p4 := eq_true p4
              replace q4 := eq_true q4
              have p8 : 0 ≤ (x7_1 : Int) := of_decide_eq_true (by first | (with_reducible assumption) | assumption)
              have q8 : x7_1 < (a0.size : Int) := of_decide_eq_true (by first | (with_reducible assumption) | assumption)
              have hx8 := bt_at a0 x7_1
              replace p8 := eq_true p8
              replace q8 := eq_true q8
              go_wp2
              refine bodyPost_ret (results_list (rs := [.tmp 2, .tmp 3, .tmp 4, .tmp 5]) rfl (by simp) (.tmp (.tmp (.tmp (.tmp .nil))))) rfl ?_
              exact ⟨by first | rfl | (simp; done) | (simp [*]; done) | (simp [wrap64]; done) | (generalize ByteArray.toList _ = l_; cases l_ <;> first | rfl | (simp; done)), by repeat (first | exact Drawn0.refl _ | apply Drawn0.step)⟩
            · rw [if_neg c9] at H
              have c9b0 : ((bt a0 x7_1) == 43) = false := beq_eq_false_iff_ne.mpr c9
              have c9b1 : ((bt a0 x7_1) != 43) = true := bne_iff_ne.mpr c9
              have H' := Aside0.mk H
              clear H
              have p4 : 0 ≤ (x7_1 : Int) := of_decide_eq_true (by first | (with_reducible assumption) | assumption)
              have q4 : x7_1 < (a0.size : Int) := of_decide_eq_true (by first | (with_reducible assumption) | assumption)
              have hx4 := bt_at a0 x7_1
              replace p4 := eq_true p4
              replace q4 := eq_true q4
              have p8 : 0 ≤ (x7_1 : Int) := of_decide_eq_true (by first | (with_reducible assumption) | assumption)
              have q8 : x7_1 < (a0.size : Int) := of_decide_eq_true (by first | (with_reducible assumption) | assumption)
              have hx8 := bt_at a0 x7_1
              replace p8 := eq_true p8
              replace q8 := eq_true q8
              go_wp2
              go_roundg k1
              case measure => have := HK1.out; omega
              case rel => exact ⟨(x3_1), (x6_1), (wrap64 (x7_1 + 1)), (by first | rfl | (simp; done) | (simp [*]; done) | (simp [wrap64]; done) | (generalize ByteArray.toList _ = l_; cases l_ <;> first | rfl | (simp; done))), (by first | rfl | (simp; done) | (simp [*]; done) | (simp [wrap64]; done) | (generalize ByteArray.toList _ = l_; cases l_ <;> first | rfl | (simp; done))), (by first | rfl | (simp; done) | (simp [*]; done) | (simp [wrap64]; done) | (generalize ByteArray.toList _ = l_; cases l_ <;> first | rfl | (simp; done))), H', ⟨by have := HK1.out; omega⟩, by repeat (first | exact Drawn0.refl _ | apply Drawn0.step)⟩
        · rw [if_neg c3] at H
          exact absurd H (by simp)
      · rw [if_neg c2] at H
        have c2b0 : decide (x7_1 < (a0.size : Int)) = false := decide_eq_false c2
        clear c2
        have HC10 := Aside0.mk H
        clear H
        go_upto_region 10 with (fail)
        go_cut [37] (fun v37 wc => ∃ (kq : Nat) (x37_9 : Bool), v37 = .bool x37_9 ∧ Aside0 (spec_Cell.j1 kq a0 x3_1 x6_1 0 x37_9 = some (r1, r2, r3, r4)) ∧ Aside0 (kq ≤ k1) ∧ Drawn0 w wc)
        case first =>
          have H := HC10.out
          clear HC10
          by_cases c11 : 0 < (a0.size : Int)
          · rw [if_pos c11] at H
            have c11b0 : decide (0 < (a0.size : Int)) = true := decide_eq_true c11
            have c11b1 : decide (0 < a0.size) = true := decide_eq_true (by omega)
            clear c11
            (first | rw [c11b0] | (simp only [i64_w, i32_w]; rw [c11b0]) | skip)
            have H' := Aside0.mk H
            clear H
            have p12 : 0 ≤ (0 : Int) := (by omega)
            have q12 : 0 < a0.size := (by have : (0 : Int) < (a0.size : Int) := of_decide_eq_true (by first | (with_reducible assumption) | assumption); omega)
            have hx12 : ∀ h : 0 < a0.size, ((a0[0]'h).toNat : Int) = bt a0 0 := bt_at a0 0
            clear p12
            have qi12 : (0 < (a0.size : Int)) = True := eq_true (of_decide_eq_true (by first | (with_reducible assumption) | assumption))
            replace q12 := eq_true q12
            go_wp2
            go_meet
            case rel => exact ⟨_, (((bt a0 0) == 36)), (by first | rfl | (simp; done) | (simp [*]; done) | (simp [wrap64]; done) | (generalize ByteArray.toList _ = l_; cases l_ <;> first | rfl | (simp; done))), H', ⟨by have := HK1.out; first | omega | exact Nat.le_refl _⟩, by repeat (first | exact Drawn0.refl _ | apply Drawn0.step)⟩
          · rw [if_neg c11] at H
            have c11b0 : decide (0 < (a0.size : Int)) = false := decide_eq_false c11
            have c11b1 : decide (0 < a0.size) = false := decide_eq_false (by omega)
            clear c11
            (first | rw [c11b0] | (simp only [i64_w, i32_w]; rw [c11b0]) | skip)
            have H' := Aside0.mk H
            clear H
            go_wp2
            go_meet
            case rel => exact ⟨_, (false), (by first | rfl | (simp; done) | (simp [*]; done) | (simp [wrap64]; done) | (generalize ByteArray.toList _ = l_; cases l_ <;> first | rfl | (simp; done))), H', ⟨by have := HK1.out; first | omega | exact Nat.le_refl _⟩, by repeat (first | exact Drawn0.refl _ | apply Drawn0.step)⟩
        case rest =>
          clear HC10
          try clear c1
          try clear p1
          try clear q1
          try clear hx1
          try clear qi1
          try clear c2
          try clear c2b0
          try clear p2
          try clear c3
          try clear c3b0
          try clear p4
          try clear q4
          try clear hx4
          try clear c5
          try clear c5b0
          try clear c5b1
          try clear p6
          try clear q6
          try clear hx6
          try clear c7
          try clear c7b0
          try clear c7b1
          try clear p8
          try clear q8
          try clear hx8
          try clear c9
          try clear c9b0
          try clear c9b1
          try clear c11
          try clear c11b0
          try clear c11b1
          try clear p12
          try clear q12
          try clear hx12
          try clear qi12
          try clear p12
          try clear p4
          try clear p6
          try clear p8
          try clear q12
          try clear q4
          try clear q6
          try clear q8
          obtain ⟨kq, x37_9, rfl, HA, HJ9, ⟨mc9, rfl⟩⟩ := hcut
          cases kq with
          | zero => exact absurd HA.out (by simp [spec_Cell.j1])
          | succ kj9 =>
            have H := HA.out
            clear HA
            simp only [spec_Cell.j1] at H
            have HC13 := Aside0.mk H
            clear H
            go_upto_if 37 with (fail)
            go_cut [6, 8] (fun v6 v8 wc => ∃ (kq : Nat) (x6_12 : Int) (x8_12 : Int), v6 = .int .i64 x6_12 ∧ v8 = .int .i64 x8_12 ∧ Aside0 (spec_Cell.j2 kq a0 x3_1 x6_12 x8_12 = some (r1, r2, r3, r4)) ∧ Aside0 (kq ≤ kj9) ∧ Drawn0 w wc)
            case first =>
              have H := HC13.out
              clear HC13
              by_cases c14 : x37_9 = true
              · subst c14
                have H1 : (spec_Cell.j2 kj9 a0 x3_1 (wrap64 (x6_1 - 1)) (wrap64 (0 + 1))) = some (r1, r2, r3, r4) := by rw [if_pos rfl] at H; exact H
                clear H
                have H := H1
                clear H1
                have H' := Aside0.mk H
                clear H
                go_wp2
                go_meet
                case rel => exact ⟨_, (wrap64 (x6_1 - 1)), (wrap64 (0 + 1)), (by first | rfl | (simp; done) | (simp [*]; done) | (simp [wrap64]; done) | (generalize ByteArray.toList _ = l_; cases l_ <;> first | rfl | (simp; done))), (by first | rfl | (simp; done) | (simp [*]; done) | (simp [wrap64]; done) | (generalize ByteArray.toList _ = l_; cases l_ <;> first | rfl | (simp; done))), H', ⟨by have := HK1.out; have := HJ9.out; first | omega | exact Nat.le_refl _⟩, by repeat (first | exact Drawn0.refl _ | apply Drawn0.step)⟩
              · replace c14 := Bool.eq_false_iff.mpr c14
                subst c14
                have H1 : (spec_Cell.j2 kj9 a0 x3_1 x6_1 0) = some (r1, r2, r3, r4) := by rw [if_neg (show ¬ (false = true) by decide)] at H; exact H
                clear H
                have H := H1
                clear H1
                have H' := Aside0.mk H
                clear H
                go_wp2
                go_meet
                case rel => exact ⟨_, (x6_1), (0), (by first | rfl | (simp; done) | (simp [*]; done) | (simp [wrap64]; done) | (generalize ByteArray.toList _ = l_; cases l_ <;> first | rfl | (simp; done))), (by first | rfl | (simp; done) | (simp [*]; done) | (simp [wrap64]; done) | (generalize ByteArray.toList _ = l_; cases l_ <;> first | rfl | (simp; done))), H', ⟨by have := HK1.out; have := HJ9.out; first | omega | exact Nat.le_refl _⟩, by repeat (first | exact Drawn0.refl _ | apply Drawn0.step)⟩
            case rest =>
              clear HC13
              try clear c1
              try clear p1
              try clear q1
              try clear hx1
              try clear qi1
              try clear c2
              try clear c2b0
              try clear p2
              try clear c3
              try clear c3b0
              try clear p4
              try clear q4
              try clear hx4
              try clear c5
              try clear c5b0
              try clear c5b1
              try clear p6
              try clear q6
              try clear hx6
              try clear c7
              try clear c7b0
              try clear c7b1
              try clear p8
              try clear q8
              try clear hx8
              try clear c9
              try clear c9b0
              try clear c9b1
              try clear c11
              try clear c11b0
              try clear c11b1
              try clear p12
              try clear q12
              try clear hx12
              try clear qi12
              try clear c14
              try clear p1
              try clear p12
              try clear p2
              try clear p4
              try clear p6
              try clear p8
              try clear q1
              try clear q12
              try clear q4
              try clear q6
              try clear q8
              obtain ⟨kq, x6_12, x8_12, rfl, rfl, HA, HJ12, ⟨mc12, rfl⟩⟩ := hcut
              cases kq with
              | zero => exact absurd HA.out (by simp [spec_Cell.j2])
              | succ kj12 =>
                have H := HA.out
                clear HA
                simp only [spec_Cell.j2] at H
                have HC15 := Aside0.mk H
                clear H
                go_upto_block 2 with (fail)
                go_cut [8] (fun v8 wc => ∃ (kq : Nat) (x8_14 : Int), v8 = .int .i64 x8_14 ∧ Aside0 (spec_Cell.j4 kq a0 x3_1 x6_12 x8_14 x8_12 = some (r1, r2, r3, r4)) ∧ Aside0 (kq ≤ kj12) ∧ Drawn0 w wc)
                case first =>
                  have H := HC15.out
                  clear HC15
                  have H' := Aside0.mk H
                  clear H
                  go_wp2
                  go_loopg [8] kj12 (fun kq v8 w' => ∃ (x8_4 : Int), v8 = .int .i64 x8_4 ∧ Aside0 (spec_Cell.l1 kq a0 x3_1 x6_12 x8_4 x8_12 = some (r1, r2, r3, r4)) ∧ Aside0 (kq ≤ kj12) ∧ Drawn0 w w')
                  case atStart => exact ⟨(x8_12), (by first | rfl | (simp; done) | (simp [*]; done) | (simp [wrap64]; done) | (generalize ByteArray.toList _ = l_; cases l_ <;> first | rfl | (simp; done))), H', ⟨Nat.le_refl _⟩, by repeat (first | exact Drawn0.refl _ | apply Drawn0.step)⟩
                  case round =>
                    clear H'
                    try clear c1
                    try clear p1
                    try clear q1
                    try clear hx1
                    try clear qi1
                    try clear c2
                    try clear c2b0
                    try clear p2
                    try clear c3
                    try clear c3b0
                    try clear p4
                    try clear q4
                    try clear hx4
                    try clear c5
                    try clear c5b0
                    try clear c5b1
                    try clear p6
                    try clear q6
                    try clear hx6
                    try clear c7
                    try clear c7b0
                    try clear c7b1
                    try clear p8
                    try clear q8
                    try clear hx8
                    try clear c9
                    try clear c9b0
                    try clear c9b1
                    try clear c11
                    try clear c11b0
                    try clear c11b1
                    try clear c12
                    try clear p12
                    try clear q12
                    try clear hx12
                    try clear qi12
                    try clear c14
                    try clear p1
                    try clear p12
                    try clear p2
                    try clear p4
                    try clear p6
                    try clear p8
                    try clear q1
                    try clear q12
                    try clear q4
                    try clear q6
                    try clear q8
                    obtain ⟨x8_4, rfl, HA, HK4, ⟨m4, rfl⟩⟩ := hrel
                    cases gk with
                    | zero => exact absurd HA.out (by simp [spec_Cell.l1])
                    | succ k4 =>
                      have H := HA.out
                      clear HA
                      simp only [spec_Cell.l1] at H
                      by_cases c16 : x8_4 < (a0.size : Int)
                      · rw [if_pos c16] at H
                        have c16b0 : decide (x8_4 < (a0.size : Int)) = true := decide_eq_true c16
                        clear c16
                        (first | rw [c16b0] | (simp only [i64_w, i32_w]; rw [c16b0]) | skip)
                        by_cases c17 : 0 ≤ x8_4
                        · rw [if_pos c17] at H
                          have c17b0 : decide (0 ≤ x8_4) = true := decide_eq_true c17
                          clear c17
                          by_cases c19 : (bt a0 x8_4) ≥ 48
                          · rw [if_pos c19] at H
                            have c19b0 : decide (48 ≤ (bt a0 x8_4)) = true := decide_eq_true c19
                            clear c19
                            by_cases c21 : ((bt a0 x8_4) ≤ 57)
                            · rw [if_pos c21] at H
                              have c21b0 : decide ((bt a0 x8_4) ≤ 57) = true := decide_eq_true c21
                              clear c21
                              have H' := Aside0.mk H
                              clear H
                              have p18 : 0 ≤ (x8_4 : Int) := of_decide_eq_true (by first | (with_reducible assumption) | assumption)
                              have q18 : x8_4 < (a0.size : Int) := of_decide_eq_true (by first | (with_reducible assumption) | assumption)
                              have hx18 := bt_at a0 x8_4
                              replace p18 := eq_true p18
                              replace q18 := eq_true q18
                              have p20 : 0 ≤ (x8_4 : Int) := of_decide_eq_true (by first | (with_reducible assumption) | assumption)
                              have q20 : x8_4 < (a0.size : Int) := of_decide_eq_true (by first | (with_reducible assumption) | assumption)
                              have hx20 := bt_at a0 x8_4
                              replace p20 := eq_true p20
                              replace q20 := eq_true q20
                              go_wp2
                              go_meet
                              case rel => exact ⟨_, (x8_4), (by first | rfl | (simp; done) | (simp [*]; done) | (simp [wrap64]; done) | (generalize ByteArray.toList _ = l_; cases l_ <;> first | rfl | (simp; done))), H', ⟨by have := HK1.out; have := HJ9.out; have := HJ12.out; have := HK4.out; first | omega | exact Nat.le_refl _⟩, by repeat (first | exact Drawn0.refl _ | apply Drawn0.step)⟩
                            · rw [if_neg c21] at H
                              have c21b0 : decide ((bt a0 x8_4) ≤ 57) = false := decide_eq_false c21
                              clear c21
                              by_cases c23 : (bt a0 x8_4) = 36
                              · rw [if_pos c23] at H
                                have c23b0 : ((bt a0 x8_4) == 36) = true := beq_iff_eq.mpr c23
                                have c23b1 : ((bt a0 x8_4) != 36) = false := bne_eq_false_iff_eq.mpr c23
                                clear c23
                                have H' := Aside0.mk H
                                clear H
                                have p18 : 0 ≤ (x8_4 : Int) := of_decide_eq_true (by first | (with_reducible assumption) | assumption)
                                have q18 : x8_4 < (a0.size : Int) := of_decide_eq_true (by first | (with_reducible assumption) | assumption)
                                have hx18 := bt_at a0 x8_4
                                replace p18 := eq_true p18
                                replace q18 := eq_true q18
                                have p20 : 0 ≤ (x8_4 : Int) := of_decide_eq_true (by first | (with_reducible assumption) | assumption)
                                have q20 : x8_4 < (a0.size : Int) := of_decide_eq_true (by first | (with_reducible assumption) | assumption)
                                have hx20 := bt_at a0 x8_4
                                replace p20 := eq_true p20
                                replace q20 := eq_true q20
                                have p22 : 0 ≤ (x8_4 : Int) := of_decide_eq_true (by first | (with_reducible assumption) | assumption)
                                have q22 : x8_4 < (a0.size : Int) := of_decide_eq_true (by first | (with_reducible assumption) | assumption)
                                have hx22 := bt_at a0 x8_4
                                replace p22 := eq_true p22
                                replace q22 := eq_true q22
                                go_wp2
                                go_meet
                                case rel => exact ⟨_, (x8_4), (by first | rfl | (simp; done) | (simp [*]; done) | (simp [wrap64]; done) | (generalize ByteArray.toList _ = l_; cases l_ <;> first | rfl | (simp; done))), H', ⟨by have := HK1.out; have := HJ9.out; have := HJ12.out; have := HK4.out; first | omega | exact Nat.le_refl _⟩, by repeat (first | exact Drawn0.refl _ | apply Drawn0.step)⟩
                              · rw [if_neg c23] at H
                                have c23b0 : ((bt a0 x8_4) == 36) = false := beq_eq_false_iff_ne.mpr c23
                                have c23b1 : ((bt a0 x8_4) != 36) = true := bne_iff_ne.mpr c23
                                have H' := Aside0.mk H
                                clear H
                                have p18 : 0 ≤ (x8_4 : Int) := of_decide_eq_true (by first | (with_reducible assumption) | assumption)
                                have q18 : x8_4 < (a0.size : Int) := of_decide_eq_true (by first | (with_reducible assumption) | assumption)
                                have hx18 := bt_at a0 x8_4
                                replace p18 := eq_true p18
                                replace q18 := eq_true q18
                                have p20 : 0 ≤ (x8_4 : Int) := of_decide_eq_true (by first | (with_reducible assumption) | assumption)
                                have q20 : x8_4 < (a0.size : Int) := of_decide_eq_true (by first | (with_reducible assumption) | assumption)
                                have hx20 := bt_at a0 x8_4
                                replace p20 := eq_true p20
                                replace q20 := eq_true q20
                                have p22 : 0 ≤ (x8_4 : Int) := of_decide_eq_true (by first | (with_reducible assumption) | assumption)
                                have q22 : x8_4 < (a0.size : Int) := of_decide_eq_true (by first | (with_reducible assumption) | assumption)
                                have hx22 := bt_at a0 x8_4
                                replace p22 := eq_true p22
                                replace q22 := eq_true q22
                                go_wp2
                                go_roundg k4
                                case measure => have := HK1.out; have := HJ9.out; have := HJ12.out; have := HK4.out; omega
                                case rel => exact ⟨(wrap64 (x8_4 + 1)), (by first | rfl | (simp; done) | (simp [*]; done) | (simp [wrap64]; done) | (generalize ByteArray.toList _ = l_; cases l_ <;> first | rfl | (simp; done))), H', ⟨by have := HK1.out; have := HJ9.out; have := HJ12.out; have := HK4.out; omega⟩, by repeat (first | exact Drawn0.refl _ | apply Drawn0.step)⟩
                          · rw [if_neg c19] at H
                            have c19b0 : decide (48 ≤ (bt a0 x8_4)) = false := decide_eq_false c19
                            clear c19
                            by_cases c25 : (bt a0 x8_4) = 36
                            · rw [if_pos c25] at H
                              have c25b0 : ((bt a0 x8_4) == 36) = true := beq_iff_eq.mpr c25
                              have c25b1 : ((bt a0 x8_4) != 36) = false := bne_eq_false_iff_eq.mpr c25
                              clear c25
                              have H' := Aside0.mk H
                              clear H
                              have p18 : 0 ≤ (x8_4 : Int) := of_decide_eq_true (by first | (with_reducible assumption) | assumption)
                              have q18 : x8_4 < (a0.size : Int) := of_decide_eq_true (by first | (with_reducible assumption) | assumption)
                              have hx18 := bt_at a0 x8_4
                              replace p18 := eq_true p18
                              replace q18 := eq_true q18
                              have p24 : 0 ≤ (x8_4 : Int) := of_decide_eq_true (by first | (with_reducible assumption) | assumption)
                              have q24 : x8_4 < (a0.size : Int) := of_decide_eq_true (by first | (with_reducible assumption) | assumption)
                              have hx24 := bt_at a0 x8_4
                              replace p24 := eq_true p24
                              replace q24 := eq_true q24
                              go_wp2
                              go_meet
                              case rel => exact ⟨_, (x8_4), (by first | rfl | (simp; done) | (simp [*]; done) | (simp [wrap64]; done) | (generalize ByteArray.toList _ = l_; cases l_ <;> first | rfl | (simp; done))), H', ⟨by have := HK1.out; have := HJ9.out; have := HJ12.out; have := HK4.out; first | omega | exact Nat.le_refl _⟩, by repeat (first | exact Drawn0.refl _ | apply Drawn0.step)⟩
                            · rw [if_neg c25] at H
                              have c25b0 : ((bt a0 x8_4) == 36) = false := beq_eq_false_iff_ne.mpr c25
                              have c25b1 : ((bt a0 x8_4) != 36) = true := bne_iff_ne.mpr c25
                              have H' := Aside0.mk H
                              clear H
                              have p18 : 0 ≤ (x8_4 : Int) := of_decide_eq_true (by first | (with_reducible assumption) | assumption)
                              have q18 : x8_4 < (a0.size : Int) := of_decide_eq_true (by first | (with_reducible assumption) | assumption)
                              have hx18 := bt_at a0 x8_4
                              replace p18 := eq_true p18
                              replace q18 := eq_true q18
                              have p24 : 0 ≤ (x8_4 : Int) := of_decide_eq_true (by first | (with_reducible assumption) | assumption)
                              have q24 : x8_4 < (a0.size : Int) := of_decide_eq_true (by first | (with_reducible assumption) | assumption)
                              have hx24 := bt_at a0 x8_4
                              replace p24 := eq_true p24
                              replace q24 := eq_true q24
                              go_wp2
                              go_roundg k4
                              case measure => have := HK1.out; have := HJ9.out; have := HJ12.out; have := HK4.out; omega
                              case rel => exact ⟨(wrap64 (x8_4 + 1)), (by first | rfl | (simp; done) | (simp [*]; done) | (simp [wrap64]; done) | (generalize ByteArray.toList _ = l_; cases l_ <;> first | rfl | (simp; done))), H', ⟨by have := HK1.out; have := HJ9.out; have := HJ12.out; have := HK4.out; omega⟩, by repeat (first | exact Drawn0.refl _ | apply Drawn0.step)⟩
                        · rw [if_neg c17] at H
                          exact absurd H (by simp)
                      · rw [if_neg c16] at H
                        have c16b0 : decide (x8_4 < (a0.size : Int)) = false := decide_eq_false c16
                        clear c16
                        (first | rw [c16b0] | (simp only [i64_w, i32_w]; rw [c16b0]) | skip)
                        have H' := Aside0.mk H
                        clear H
                        go_wp2
                        go_meet
                        case rel => exact ⟨_, (x8_4), (by first | rfl | (simp; done) | (simp [*]; done) | (simp [wrap64]; done) | (generalize ByteArray.toList _ = l_; cases l_ <;> first | rfl | (simp; done))), H', ⟨by have := HK1.out; have := HJ9.out; have := HJ12.out; have := HK4.out; first | omega | exact Nat.le_refl _⟩, by repeat (first | exact Drawn0.refl _ | apply Drawn0.step)⟩
                case rest =>
                  clear HC15
                  try clear c1
                  try clear p1
                  try clear q1
                  try clear hx1
                  try clear qi1
                  try clear c2
                  try clear c2b0
                  try clear p2
                  try clear q2
                  try clear hx2
                  try clear c3
                  try clear c3b0
                  try clear p4
                  try clear q4
                  try clear hx4
                  try clear c5
                  try clear c5b0
                  try clear c5b1
                  try clear p6
                  try clear q6
                  try clear hx6
                  try clear c7
                  try clear c7b0
                  try clear c7b1
                  try clear p8
                  try clear q8
                  try clear hx8
                  try clear c9
                  try clear c9b0
                  try clear c9b1
                  try clear c11
                  try clear c11b0
                  try clear c11b1
                  try clear c12
                  try clear p12
                  try clear q12
                  try clear hx12
                  try clear qi12
                  try clear c14
                  try clear c16
                  try clear c16b0
                  try clear c17
                  try clear c17b0
                  try clear p18
                  try clear q18
                  try clear hx18
                  try clear c19
                  try clear c19b0
                  try clear p20
                  try clear q20
                  try clear hx20
                  try clear c21
                  try clear c21b0
                  try clear p22
                  try clear q22
                  try clear hx22
                  try clear c23
                  try clear c23b0
                  try clear c23b1
                  try clear p24
                  try clear q24
                  try clear hx24
                  try clear c25
                  try clear c25b0
                  try clear c25b1
                  try clear p1
                  try clear p12
                  try clear p18
                  try clear p2
                  try clear p20
                  try clear p22
                  try clear p24
                  try clear p4
                  try clear p6
                  try clear p8
                  try clear q1
                  try clear q12
                  try clear q18
                  try clear q20
                  try clear q22
                  try clear q24
                  try clear q4
                  try clear q6
                  try clear q8
                  obtain ⟨kq, x8_14, rfl, HA, HJ14, ⟨mc14, rfl⟩⟩ := hcut
                  cases kq with
                  | zero => exact absurd HA.out (by simp [spec_Cell.j4])
                  | succ kj14 =>
                    have H := HA.out
                    clear HA
                    simp only [spec_Cell.j4] at H
                    by_cases c26 : 0 ≤ x8_12
                    · rw [if_pos c26] at H
                      have c26b0 := eq_true c26
                      have c26b1 : decide (0 ≤ x8_12) = true := decide_eq_true c26
                      clear c26
                      by_cases c27 : x8_12 ≤ x8_14
                      · rw [if_pos c27] at H
                        have c27b0 := eq_true c27
                        have c27b1 : decide (x8_12 ≤ x8_14) = true := decide_eq_true c27
                        clear c27
                        by_cases c28 : x8_14 ≤ (a0.size : Int)
                        · rw [if_pos c28] at H
                          have c28b0 := eq_true c28
                          have c28b1 : decide (x8_14 ≤ (a0.size : Int)) = true := decide_eq_true c28
                          clear c28
                          replace H := Option.bind_eq_some_iff.mp H
                          obtain ⟨⟨t101, t102⟩, A290, H⟩ := H
                          replace H : (if (wrap64 (x8_14 + 1)) < (a0.size : Int) then (if x8_14 > x8_12 then (if 0 ≤ x8_14 then (if x8_14 < (a0.size : Int) then (if (bt a0 x8_14) = 36 then (if 0 ≤ (wrap64 (x8_14 + 1)) then (if (bt a0 (wrap64 (x8_14 + 1))) ≥ 48 then (spec_Cell.j5 kj14 a0 t101 x3_1 x6_12 x8_14 t102 (decide ((bt a0 (wrap64 (x8_14 + 1))) ≤ 57))) else (spec_Cell.j5 kj14 a0 t101 x3_1 x6_12 x8_14 t102 false)) else (none)) else (spec_Cell.j5 kj14 a0 t101 x3_1 x6_12 x8_14 t102 false)) else (none)) else (none)) else (spec_Cell.j5 kj14 a0 t101 x3_1 x6_12 x8_14 t102 false)) else (spec_Cell.j5 kj14 a0 t101 x3_1 x6_12 x8_14 t102 false)) = some (r1, r2, r3, r4) := H
                          have A29 := Aside0.mk A290
                          clear A290
                          have HC30 := Aside0.mk H
                          clear H
                          go_upto_region 16 with (first | ((with_reducible refine gate_callee (f := 73) rfl ?_); refine goesL_ (some 73) rfl rfl Tryd.func73 (by kernel_rfl) rfl #[.string (a0.extract (x8_12 : Int).toNat (x8_14 : Int).toNat)] rfl (by (try simp only [List.map_toArray, List.map_cons, List.map_nil]); first | done | rfl | (simp only [List.length_drop, List.length_take]; rfl)) ?_; (with_reducible refine (spec_ColumnNumber.calls kj14 (a0.extract (x8_12 : Int).toNat (x8_14 : Int).toNat) t101 t102 _ A29.out).mono ?_); rintro e w' ⟨rfl, ⟨nd, rfl⟩⟩; refine ⟨_, rfl, ?_⟩))
                          (try simp only [Act.put, List.setIfInBounds_toArray, List.set_cons_zero, List.set_cons_succ])
                          go_cut [105] (fun v105 wc => ∃ (kq : Nat) (x105_29 : Bool), v105 = .bool x105_29 ∧ Aside0 (spec_Cell.j5 kq a0 t101 x3_1 x6_12 x8_14 t102 x105_29 = some (r1, r2, r3, r4)) ∧ Aside0 (kq ≤ kj14) ∧ Drawn0 w wc)
                          case first =>
                            have H := HC30.out
                            clear HC30
                            by_cases c31 : (wrap64 (x8_14 + 1)) < (a0.size : Int)
                            · rw [if_pos c31] at H
                              have c31b0 : decide ((wrap64 (x8_14 + 1)) < (a0.size : Int)) = true := decide_eq_true c31
                              clear c31
                              (first | rw [c31b0] | (simp only [i64_w, i32_w]; rw [c31b0]) | skip)
                              by_cases c32 : x8_14 > x8_12
                              · rw [if_pos c32] at H
                                have c32b0 : decide (x8_12 < x8_14) = true := decide_eq_true c32
                                clear c32
                                by_cases c33 : 0 ≤ x8_14
                                · rw [if_pos c33] at H
                                  have c33b0 : decide (0 ≤ x8_14) = true := decide_eq_true c33
                                  clear c33
                                  by_cases c34 : x8_14 < (a0.size : Int)
                                  · rw [if_pos c34] at H
                                    have c34b0 : decide (x8_14 < (a0.size : Int)) = true := decide_eq_true c34
                                    clear c34
                                    by_cases c36 : (bt a0 x8_14) = 36
                                    · rw [if_pos c36] at H
                                      have c36b0 : ((bt a0 x8_14) == 36) = true := beq_iff_eq.mpr c36
                                      have c36b1 : ((bt a0 x8_14) != 36) = false := bne_eq_false_iff_eq.mpr c36
                                      clear c36
                                      obtain ⟨ji37, hji37⟩ : ∃ j_ : Int, (wrap64 (x8_14 + 1)) = j_ := ⟨_, rfl⟩
                                      replace H : (if 0 ≤ (ji37) then (if (bt a0 (ji37)) ≥ 48 then (spec_Cell.j5 kj14 a0 t101 x3_1 x6_12 x8_14 t102 (decide ((bt a0 (ji37)) ≤ 57))) else (spec_Cell.j5 kj14 a0 t101 x3_1 x6_12 x8_14 t102 false)) else (none)) = some (r1, r2, r3, r4) := by first | (rw [hji37] at H; exact H) | (simp only [hji37] at H ⊢; exact H)
                                      (try rw [hji37] at c31b0)
                                      have hji37w : (IntKind.i64.wrap (x8_14 + 1)) = ji37 := (i64_w _).trans hji37
                                      by_cases c38 : 0 ≤ (ji37)
                                      · rw [if_pos c38] at H
                                        have c38b0 : decide (0 ≤ (ji37)) = true := decide_eq_true c38
                                        clear c38
                                        by_cases c40 : (bt a0 (ji37)) ≥ 48
                                        · rw [if_pos c40] at H
                                          have c40b0 : decide (48 ≤ (bt a0 (ji37))) = true := decide_eq_true c40
                                          clear c40
                                          have H' := Aside0.mk H
                                          clear H
                                          have p35 : 0 ≤ (x8_14 : Int) := of_decide_eq_true (by first | (with_reducible assumption) | assumption)
                                          have q35 : x8_14 < (a0.size : Int) := of_decide_eq_true (by first | (with_reducible assumption) | assumption)
                                          have hx35 := bt_at a0 x8_14
                                          replace p35 := eq_true p35
                                          replace q35 := eq_true q35
                                          have p39 : 0 ≤ ((ji37) : Int) := of_decide_eq_true (by first | (with_reducible assumption) | assumption)
                                          have q39 : (ji37) < (a0.size : Int) := of_decide_eq_true (by first | (with_reducible assumption) | assumption)
                                          have hx39 := bt_at a0 (ji37)
                                          replace p39 := eq_true p39
                                          replace q39 := eq_true q39
                                          have p41 : 0 ≤ ((ji37) : Int) := of_decide_eq_true (by first | (with_reducible assumption) | assumption)
                                          have q41 : (ji37) < (a0.size : Int) := of_decide_eq_true (by first | (with_reducible assumption) | assumption)
                                          have hx41 := bt_at a0 (ji37)
                                          replace p41 := eq_true p41
                                          replace q41 := eq_true q41
                                          go_wp2
                                          go_meet
                                          case rel => exact ⟨_, (decide ((bt a0 (ji37)) ≤ 57)), (by first | rfl | (simp; done) | (simp only [← hji37] <;> (first | rfl | simp)) | (simp [*]; done) | (simp [wrap64]; done) | (generalize ByteArray.toList _ = l_; cases l_ <;> first | rfl | (simp; done))), H', ⟨by have := HK1.out; have := HJ9.out; have := HJ12.out; have := HJ14.out; first | omega | exact Nat.le_refl _⟩, by repeat (first | exact Drawn0.refl _ | apply Drawn0.step)⟩
                                        · rw [if_neg c40] at H
                                          have c40b0 : decide (48 ≤ (bt a0 (ji37))) = false := decide_eq_false c40
                                          clear c40
                                          have H' := Aside0.mk H
                                          clear H
                                          have p35 : 0 ≤ (x8_14 : Int) := of_decide_eq_true (by first | (with_reducible assumption) | assumption)
                                          have q35 : x8_14 < (a0.size : Int) := of_decide_eq_true (by first | (with_reducible assumption) | assumption)
                                          have hx35 := bt_at a0 x8_14
                                          replace p35 := eq_true p35
                                          replace q35 := eq_true q35
                                          have p39 : 0 ≤ ((ji37) : Int) := of_decide_eq_true (by first | (with_reducible assumption) | assumption)
                                          have q39 : (ji37) < (a0.size : Int) := of_decide_eq_true (by first | (with_reducible assumption) | assumption)
                                          have hx39 := bt_at a0 (ji37)
                                          replace p39 := eq_true p39
                                          replace q39 := eq_true q39
                                          go_wp2
                                          go_meet
                                          case rel => exact ⟨_, (false), (by first | rfl | (simp; done) | (simp [*]; done) | (simp [wrap64]; done) | (generalize ByteArray.toList _ = l_; cases l_ <;> first | rfl | (simp; done))), H', ⟨by have := HK1.out; have := HJ9.out; have := HJ12.out; have := HJ14.out; first | omega | exact Nat.le_refl _⟩, by repeat (first | exact Drawn0.refl _ | apply Drawn0.step)⟩
                                      · rw [if_neg c38] at H
                                        exact absurd H (by simp)
                                    · rw [if_neg c36] at H
                                      have c36b0 : ((bt a0 x8_14) == 36) = false := beq_eq_false_iff_ne.mpr c36
                                      have c36b1 : ((bt a0 x8_14) != 36) = true := bne_iff_ne.mpr c36
                                      have H' := Aside0.mk H
                                      clear H
                                      have p35 : 0 ≤ (x8_14 : Int) := of_decide_eq_true (by first | (with_reducible assumption) | assumption)
                                      have q35 : x8_14 < (a0.size : Int) := of_decide_eq_true (by first | (with_reducible assumption) | assumption)
                                      have hx35 := bt_at a0 x8_14
                                      replace p35 := eq_true p35
                                      replace q35 := eq_true q35
                                      go_wp2
                                      go_meet
                                      case rel => exact ⟨_, (false), (by first | rfl | (simp; done) | (simp [*]; done) | (simp [wrap64]; done) | (generalize ByteArray.toList _ = l_; cases l_ <;> first | rfl | (simp; done))), H', ⟨by have := HK1.out; have := HJ9.out; have := HJ12.out; have := HJ14.out; first | omega | exact Nat.le_refl _⟩, by repeat (first | exact Drawn0.refl _ | apply Drawn0.step)⟩
                                  · rw [if_neg c34] at H
                                    exact absurd H (by simp)
                                · rw [if_neg c33] at H
                                  exact absurd H (by simp)
                              · rw [if_neg c32] at H
                                have c32b0 : decide (x8_12 < x8_14) = false := decide_eq_false c32
                                clear c32
                                have H' := Aside0.mk H
                                clear H
                                go_wp2
                                go_meet
                                case rel => exact ⟨_, (false), (by first | rfl | (simp; done) | (simp [*]; done) | (simp [wrap64]; done) | (generalize ByteArray.toList _ = l_; cases l_ <;> first | rfl | (simp; done))), H', ⟨by have := HK1.out; have := HJ9.out; have := HJ12.out; have := HJ14.out; first | omega | exact Nat.le_refl _⟩, by repeat (first | exact Drawn0.refl _ | apply Drawn0.step)⟩
                            · rw [if_neg c31] at H
                              have c31b0 : decide ((wrap64 (x8_14 + 1)) < (a0.size : Int)) = false := decide_eq_false c31
                              clear c31
                              (first | rw [c31b0] | (simp only [i64_w, i32_w]; rw [c31b0]) | skip)
                              have H' := Aside0.mk H
                              clear H
                              go_wp2
                              go_meet
                              case rel => exact ⟨_, (false), (by first | rfl | (simp; done) | (simp [*]; done) | (simp [wrap64]; done) | (generalize ByteArray.toList _ = l_; cases l_ <;> first | rfl | (simp; done))), H', ⟨by have := HK1.out; have := HJ9.out; have := HJ12.out; have := HJ14.out; first | omega | exact Nat.le_refl _⟩, by repeat (first | exact Drawn0.refl _ | apply Drawn0.step)⟩
                          case rest =>
                            clear HC30
                            try clear c1
                            try clear p1
                            try clear q1
                            try clear hx1
                            try clear qi1
                            try clear c2
                            try clear c2b0
                            try clear p2
                            try clear q2
                            try clear hx2
                            try clear c3
                            try clear c3b0
                            try clear p3
                            try clear q3
                            try clear hx3
                            try clear c4
                            try clear p4
                            try clear q4
                            try clear hx4
                            try clear c5
                            try clear c5b0
                            try clear c5b1
                            try clear p6
                            try clear q6
                            try clear hx6
                            try clear c7
                            try clear c7b0
                            try clear c7b1
                            try clear p8
                            try clear q8
                            try clear hx8
                            try clear c9
                            try clear c9b0
                            try clear c9b1
                            try clear c11
                            try clear c11b0
                            try clear c11b1
                            try clear c12
                            try clear p12
                            try clear q12
                            try clear hx12
                            try clear qi12
                            try clear c14
                            try clear c16
                            try clear c16b0
                            try clear c17
                            try clear c17b0
                            try clear p18
                            try clear q18
                            try clear hx18
                            try clear c19
                            try clear c19b0
                            try clear p20
                            try clear q20
                            try clear hx20
                            try clear c21
                            try clear c21b0
                            try clear p22
                            try clear q22
                            try clear hx22
                            try clear c23
                            try clear c23b0
                            try clear c23b1
                            try clear p24
                            try clear q24
                            try clear hx24
                            try clear c25
                            try clear c25b0
                            try clear c25b1
                            try clear c26
                            try clear c26b0
                            try clear c26b1
                            try clear c27
                            try clear c27b0
                            try clear c27b1
                            try clear c28
                            try clear c28b0
                            try clear c28b1
                            try clear c31
                            try clear c31b0
                            try clear c32
                            try clear c32b0
                            try clear c33
                            try clear c33b0
                            try clear c34
                            try clear c34b0
                            try clear p35
                            try clear q35
                            try clear hx35
                            try clear c36
                            try clear c36b0
                            try clear c36b1
                            try clear c38
                            try clear c38b0
                            try clear p39
                            try clear q39
                            try clear hx39
                            try clear c40
                            try clear c40b0
                            try clear p41
                            try clear q41
                            try clear hx41
                            try clear p1
                            try clear p12
                            try clear p18
                            try clear p2
                            try clear p20
                            try clear p22
                            try clear p24
                            try clear p35
                            try clear p39
                            try clear p4
                            try clear p41
                            try clear p6
                            try clear p8
                            try clear q1
                            try clear q12
                            try clear q18
                            try clear q2
                            try clear q20
                            try clear q22
                            try clear q24
                            try clear q35
                            try clear q39
                            try clear q4
                            try clear q41
                            try clear q6
                            try clear q8
                            obtain ⟨kq, x105_29, rfl, HA, HJ29, ⟨mc29, rfl⟩⟩ := hcut
                            cases kq with
                            | zero => exact absurd HA.out (by simp [spec_Cell.j5])
                            | succ kj29 =>
                              have H := HA.out
                              clear HA
                              simp only [spec_Cell.j5] at H
                              have HC42 := Aside0.mk H
                              clear H
                              go_upto_if 105 with (fail)
                              go_cut [6, 8] (fun v6 v8 wc => ∃ (kq : Nat) (x6_41 : Int) (x8_41 : Int), v6 = .int .i64 x6_41 ∧ v8 = .int .i64 x8_41 ∧ Aside0 (spec_Cell.j6 kq a0 t101 x3_1 x6_41 x8_41 t102 = some (r1, r2, r3, r4)) ∧ Aside0 (kq ≤ kj29) ∧ Drawn0 w wc)
                              case first =>
                                have H := HC42.out
                                clear HC42
                                by_cases c43 : x105_29 = true
                                · subst c43
                                  have H1 : (spec_Cell.j6 kj29 a0 t101 x3_1 (wrap64 (x6_12 - 1)) (wrap64 (x8_14 + 1)) t102) = some (r1, r2, r3, r4) := by rw [if_pos rfl] at H; exact H
                                  clear H
                                  have H := H1
                                  clear H1
                                  have H' := Aside0.mk H
                                  clear H
                                  go_wp2
                                  go_meet
                                  case rel => exact ⟨_, (wrap64 (x6_12 - 1)), (wrap64 (x8_14 + 1)), (by first | rfl | (simp; done) | (simp [*]; done) | (simp [wrap64]; done) | (generalize ByteArray.toList _ = l_; cases l_ <;> first | rfl | (simp; done))), (by first | rfl | (simp; done) | (simp [*]; done) | (simp [wrap64]; done) | (generalize ByteArray.toList _ = l_; cases l_ <;> first | rfl | (simp; done))), H', ⟨by have := HK1.out; have := HJ9.out; have := HJ12.out; have := HJ14.out; have := HJ29.out; first | omega | exact Nat.le_refl _⟩, by repeat (first | exact Drawn0.refl _ | apply Drawn0.step)⟩
                                · replace c43 := Bool.eq_false_iff.mpr c43
                                  subst c43
                                  have H1 : (spec_Cell.j6 kj29 a0 t101 x3_1 x6_12 x8_14 t102) = some (r1, r2, r3, r4) := by rw [if_neg (show ¬ (false = true) by decide)] at H; exact H
                                  clear H
                                  have H := H1
                                  clear H1
                                  have H' := Aside0.mk H
                                  clear H
                                  go_wp2
                                  go_meet
                                  case rel => exact ⟨_, (x6_12), (x8_14), (by first | rfl | (simp; done) | (simp [*]; done) | (simp [wrap64]; done) | (generalize ByteArray.toList _ = l_; cases l_ <;> first | rfl | (simp; done))), (by first | rfl | (simp; done) | (simp [*]; done) | (simp [wrap64]; done) | (generalize ByteArray.toList _ = l_; cases l_ <;> first | rfl | (simp; done))), H', ⟨by have := HK1.out; have := HJ9.out; have := HJ12.out; have := HJ14.out; have := HJ29.out; first | omega | exact Nat.le_refl _⟩, by repeat (first | exact Drawn0.refl _ | apply Drawn0.step)⟩
                              case rest =>
                                clear HC42
                                try clear c1
                                try clear p1
                                try clear q1
                                try clear hx1
                                try clear qi1
                                try clear c2
                                try clear c2b0
                                try clear p2
                                try clear q2
                                try clear hx2
                                try clear c3
                                try clear c3b0
                                try clear p3
                                try clear q3
                                try clear hx3
                                try clear c4
                                try clear p4
                                try clear q4
                                try clear hx4
                                try clear c5
                                try clear c5b0
                                try clear c5b1
                                try clear p6
                                try clear q6
                                try clear hx6
                                try clear c7
                                try clear c7b0
                                try clear c7b1
                                try clear p8
                                try clear q8
                                try clear hx8
                                try clear c9
                                try clear c9b0
                                try clear c9b1
                                try clear c11
                                try clear c11b0
                                try clear c11b1
                                try clear c12
                                try clear p12
                                try clear q12
                                try clear hx12
                                try clear qi12
                                try clear c14
                                try clear c16
                                try clear c16b0
                                try clear c17
                                try clear c17b0
                                try clear p18
                                try clear q18
                                try clear hx18
                                try clear c19
                                try clear c19b0
                                try clear p20
                                try clear q20
                                try clear hx20
                                try clear c21
                                try clear c21b0
                                try clear p22
                                try clear q22
                                try clear hx22
                                try clear c23
                                try clear c23b0
                                try clear c23b1
                                try clear p24
                                try clear q24
                                try clear hx24
                                try clear c25
                                try clear c25b0
                                try clear c25b1
                                try clear c26
                                try clear c26b0
                                try clear c26b1
                                try clear c27
                                try clear c27b0
                                try clear c27b1
                                try clear c28
                                try clear c28b0
                                try clear c28b1
                                try clear c29
                                try clear c31
                                try clear c31b0
                                try clear c32
                                try clear c32b0
                                try clear c33
                                try clear c33b0
                                try clear c34
                                try clear c34b0
                                try clear p35
                                try clear q35
                                try clear hx35
                                try clear c36
                                try clear c36b0
                                try clear c36b1
                                try clear c38
                                try clear c38b0
                                try clear p39
                                try clear q39
                                try clear hx39
                                try clear c40
                                try clear c40b0
                                try clear p41
                                try clear q41
                                try clear hx41
                                try clear c43
                                try clear p1
                                try clear p12
                                try clear p18
                                try clear p2
                                try clear p20
                                try clear p22
                                try clear p24
                                try clear p3
                                try clear p35
                                try clear p39
                                try clear p4
                                try clear p41
                                try clear p6
                                try clear p8
                                try clear q1
                                try clear q12
                                try clear q18
                                try clear q2
                                try clear q20
                                try clear q22
                                try clear q24
                                try clear q3
                                try clear q35
                                try clear q39
                                try clear q4
                                try clear q41
                                try clear q6
                                try clear q8
                                obtain ⟨kq, x6_41, x8_41, rfl, rfl, HA, HJ41, ⟨mc41, rfl⟩⟩ := hcut
                                cases kq with
                                | zero => exact absurd HA.out (by simp [spec_Cell.j6])
                                | succ kj41 =>
                                  have H := HA.out
                                  clear HA
                                  simp only [spec_Cell.j6] at H
                                  have HC44 := Aside0.mk H
                                  clear H
                                  go_upto_region 18 with (fail)
                                  go_cut [123] (fun v123 wc => ∃ (kq : Nat) (x123_43 : Bool), v123 = .bool x123_43 ∧ Aside0 (spec_Cell.j7 kq a0 t101 x3_1 x8_41 t102 x123_43 = some (r1, r2, r3, r4)) ∧ Aside0 (kq ≤ kj41) ∧ Drawn0 w wc)
                                  case first =>
                                    have H := HC44.out
                                    clear HC44
                                    by_cases c45 : x6_41 > 0
                                    · rw [if_pos c45] at H
                                      have c45b0 : decide (0 < x6_41) = true := decide_eq_true c45
                                      clear c45
                                      (first | rw [c45b0] | (simp only [i64_w, i32_w]; rw [c45b0]) | skip)
                                      have H' := Aside0.mk H
                                      clear H
                                      go_wp2
                                      go_meet
                                      case rel => exact ⟨_, (true), (by first | rfl | (simp; done) | (simp [*]; done) | (simp [wrap64]; done) | (generalize ByteArray.toList _ = l_; cases l_ <;> first | rfl | (simp; done))), H', ⟨by have := HK1.out; have := HJ9.out; have := HJ12.out; have := HJ14.out; have := HJ29.out; have := HJ41.out; first | omega | exact Nat.le_refl _⟩, by repeat (first | exact Drawn0.refl _ | apply Drawn0.step)⟩
                                    · rw [if_neg c45] at H
                                      have c45b0 : decide (0 < x6_41) = false := decide_eq_false c45
                                      clear c45
                                      (first | rw [c45b0] | (simp only [i64_w, i32_w]; rw [c45b0]) | skip)
                                      by_cases c46 : x8_41 < (a0.size : Int)
                                      · rw [if_pos c46] at H
                                        have c46b0 : decide (x8_41 < (a0.size : Int)) = true := decide_eq_true c46
                                        clear c46
                                        by_cases c47 : 0 ≤ x8_41
                                        · rw [if_pos c47] at H
                                          have c47b0 : decide (0 ≤ x8_41) = true := decide_eq_true c47
                                          clear c47
                                          have H' := Aside0.mk H
                                          clear H
                                          have p48 : 0 ≤ (x8_41 : Int) := of_decide_eq_true (by first | (with_reducible assumption) | assumption)
                                          have q48 : x8_41 < (a0.size : Int) := of_decide_eq_true (by first | (with_reducible assumption) | assumption)
                                          have hx48 := bt_at a0 x8_41
                                          replace p48 := eq_true p48
                                          replace q48 := eq_true q48
                                          go_wp2
                                          go_meet
                                          case rel => exact ⟨_, (((bt a0 x8_41) == 48)), (by first | rfl | (simp; done) | (simp [*]; done) | (simp [wrap64]; done) | (generalize ByteArray.toList _ = l_; cases l_ <;> first | rfl | (simp; done))), H', ⟨by have := HK1.out; have := HJ9.out; have := HJ12.out; have := HJ14.out; have := HJ29.out; have := HJ41.out; first | omega | exact Nat.le_refl _⟩, by repeat (first | exact Drawn0.refl _ | apply Drawn0.step)⟩
                                        · rw [if_neg c47] at H
                                          exact absurd H (by simp)
                                      · rw [if_neg c46] at H
                                        have c46b0 : decide (x8_41 < (a0.size : Int)) = false := decide_eq_false c46
                                        clear c46
                                        have H' := Aside0.mk H
                                        clear H
                                        go_wp2
                                        go_meet
                                        case rel => exact ⟨_, (false), (by first | rfl | (simp; done) | (simp [*]; done) | (simp [wrap64]; done) | (generalize ByteArray.toList _ = l_; cases l_ <;> first | rfl | (simp; done))), H', ⟨by have := HK1.out; have := HJ9.out; have := HJ12.out; have := HJ14.out; have := HJ29.out; have := HJ41.out; first | omega | exact Nat.le_refl _⟩, by repeat (first | exact Drawn0.refl _ | apply Drawn0.step)⟩
                                  case rest =>
                                    clear HC44
                                    try clear c1
                                    try clear p1
                                    try clear q1
                                    try clear hx1
                                    try clear qi1
                                    try clear c2
                                    try clear c2b0
                                    try clear p2
                                    try clear q2
                                    try clear hx2
                                    try clear c3
                                    try clear c3b0
                                    try clear p3
                                    try clear q3
                                    try clear hx3
                                    try clear c4
                                    try clear p4
                                    try clear q4
                                    try clear hx4
                                    try clear c5
                                    try clear c5b0
                                    try clear c5b1
                                    try clear p6
                                    try clear q6
                                    try clear hx6
                                    try clear c7
                                    try clear c7b0
                                    try clear c7b1
                                    try clear p8
                                    try clear q8
                                    try clear hx8
                                    try clear c9
                                    try clear c9b0
                                    try clear c9b1
                                    try clear c11
                                    try clear c11b0
                                    try clear c11b1
                                    try clear c12
                                    try clear p12
                                    try clear q12
                                    try clear hx12
                                    try clear qi12
                                    try clear c14
                                    try clear c16
                                    try clear c16b0
                                    try clear c17
                                    try clear c17b0
                                    try clear p18
                                    try clear q18
                                    try clear hx18
                                    try clear c19
                                    try clear c19b0
                                    try clear p20
                                    try clear q20
                                    try clear hx20
                                    try clear c21
                                    try clear c21b0
                                    try clear p22
                                    try clear q22
                                    try clear hx22
                                    try clear c23
                                    try clear c23b0
                                    try clear c23b1
                                    try clear p24
                                    try clear q24
                                    try clear hx24
                                    try clear c25
                                    try clear c25b0
                                    try clear c25b1
                                    try clear c26
                                    try clear c26b0
                                    try clear c26b1
                                    try clear c27
                                    try clear c27b0
                                    try clear c27b1
                                    try clear c28
                                    try clear c28b0
                                    try clear c28b1
                                    try clear c29
                                    try clear c31
                                    try clear c31b0
                                    try clear c32
                                    try clear c32b0
                                    try clear c33
                                    try clear c33b0
                                    try clear c34
                                    try clear c34b0
                                    try clear p35
                                    try clear q35
                                    try clear hx35
                                    try clear c36
                                    try clear c36b0
                                    try clear c36b1
                                    try clear c38
                                    try clear c38b0
                                    try clear p39
                                    try clear q39
                                    try clear hx39
                                    try clear c40
                                    try clear c40b0
                                    try clear c41
                                    try clear p41
                                    try clear q41
                                    try clear hx41
                                    try clear c43
                                    try clear c45
                                    try clear c45b0
                                    try clear c46
                                    try clear c46b0
                                    try clear c47
                                    try clear c47b0
                                    try clear p48
                                    try clear q48
                                    try clear hx48
                                    try clear p1
                                    try clear p12
                                    try clear p18
                                    try clear p2
                                    try clear p20
                                    try clear p22
                                    try clear p24
                                    try clear p3
                                    try clear p35
                                    try clear p39
                                    try clear p4
                                    try clear p41
                                    try clear p48
                                    try clear p6
                                    try clear p8
                                    try clear q1
                                    try clear q12
                                    try clear q18
                                    try clear q2
                                    try clear q20
                                    try clear q22
                                    try clear q24
                                    try clear q3
                                    try clear q35
                                    try clear q39
                                    try clear q4
                                    try clear q41
                                    try clear q48
                                    try clear q6
                                    try clear q8
                                    obtain ⟨kq, x123_43, rfl, HA, HJ43, ⟨mc43, rfl⟩⟩ := hcut
                                    cases kq with
                                    | zero => exact absurd HA.out (by simp [spec_Cell.j7])
                                    | succ kj43 =>
                                      have H := HA.out
                                      clear HA
                                      simp only [spec_Cell.j7] at H
                                      by_cases c49 : x123_43 = true
                                      · subst c49
                                        have H1 : (some (0, 0, false, false)) = some (r1, r2, r3, r4) := by rw [if_pos rfl] at H; exact H
                                        clear H
                                        have H := H1
                                        clear H1
                                        simp only [Option.some.injEq, Prod.mk.injEq] at H
                                        obtain ⟨rfl, rfl, rfl, rfl⟩ := H
                                        go_wp2
                                        refine bodyPost_ret (results_list (rs := [.tmp 2, .tmp 3, .tmp 4, .tmp 5]) rfl (by simp) (.tmp (.tmp (.tmp (.tmp .nil))))) rfl ?_
                                        exact ⟨by first | rfl | (simp; done) | (simp [*]; done) | (simp [wrap64]; done) | (generalize ByteArray.toList _ = l_; cases l_ <;> first | rfl | (simp; done)), by repeat (first | exact Drawn0.refl _ | apply Drawn0.step)⟩
                                      · replace c49 := Bool.eq_false_iff.mpr c49
                                        subst c49
                                        have H1 : (spec_Cell.l2 kj43 a0 t101 x3_1 t102 x8_41) = some (r1, r2, r3, r4) := by rw [if_neg (show ¬ (false = true) by decide)] at H; exact H
                                        clear H
                                        have H := H1
                                        clear H1
                                        have H' := Aside0.mk H
                                        clear H
                                        go_wp2
                                        go_loopg [2, 3, 11] kj43 (fun kq v2 v3 v11 w' => ∃ (x2_8 : Int) (x3_8 : Int) (x11_8 : Int), v2 = .int .i64 x2_8 ∧ v3 = .int .i64 x3_8 ∧ v11 = .int .i64 x11_8 ∧ Aside0 (spec_Cell.l2 kq a0 x2_8 x3_8 t102 x11_8 = some (r1, r2, r3, r4)) ∧ Aside0 (kq ≤ kj43) ∧ Drawn0 w w')
                                        case atStart => exact ⟨(t101), (x3_1), (x8_41), (by first | rfl | (simp; done) | (simp [*]; done) | (simp [wrap64]; done) | (generalize ByteArray.toList _ = l_; cases l_ <;> first | rfl | (simp; done))), (by first | rfl | (simp; done) | (simp [*]; done) | (simp [wrap64]; done) | (generalize ByteArray.toList _ = l_; cases l_ <;> first | rfl | (simp; done))), (by first | rfl | (simp; done) | (simp [*]; done) | (simp [wrap64]; done) | (generalize ByteArray.toList _ = l_; cases l_ <;> first | rfl | (simp; done))), H', ⟨Nat.le_refl _⟩, by repeat (first | exact Drawn0.refl _ | apply Drawn0.step)⟩
                                        case round =>
                                          clear H'
                                          try clear c1
                                          try clear p1
                                          try clear q1
                                          try clear hx1
                                          try clear qi1
                                          try clear c2
                                          try clear c2b0
                                          try clear p2
                                          try clear q2
                                          try clear hx2
                                          try clear c3
                                          try clear c3b0
                                          try clear p3
                                          try clear q3
                                          try clear hx3
                                          try clear c4
                                          try clear p4
                                          try clear q4
                                          try clear hx4
                                          try clear c5
                                          try clear c5b0
                                          try clear c5b1
                                          try clear p6
                                          try clear q6
                                          try clear hx6
                                          try clear c7
                                          try clear c7b0
                                          try clear c7b1
                                          try clear p8
                                          try clear q8
                                          try clear hx8
                                          try clear c9
                                          try clear c9b0
                                          try clear c9b1
                                          try clear c11
                                          try clear c11b0
                                          try clear c11b1
                                          try clear c12
                                          try clear p12
                                          try clear q12
                                          try clear hx12
                                          try clear qi12
                                          try clear c14
                                          try clear c16
                                          try clear c16b0
                                          try clear c17
                                          try clear c17b0
                                          try clear p18
                                          try clear q18
                                          try clear hx18
                                          try clear c19
                                          try clear c19b0
                                          try clear p20
                                          try clear q20
                                          try clear hx20
                                          try clear c21
                                          try clear c21b0
                                          try clear p22
                                          try clear q22
                                          try clear hx22
                                          try clear c23
                                          try clear c23b0
                                          try clear c23b1
                                          try clear p24
                                          try clear q24
                                          try clear hx24
                                          try clear c25
                                          try clear c25b0
                                          try clear c25b1
                                          try clear c26
                                          try clear c26b0
                                          try clear c26b1
                                          try clear c27
                                          try clear c27b0
                                          try clear c27b1
                                          try clear c28
                                          try clear c28b0
                                          try clear c28b1
                                          try clear c29
                                          try clear c31
                                          try clear c31b0
                                          try clear c32
                                          try clear c32b0
                                          try clear c33
                                          try clear c33b0
                                          try clear c34
                                          try clear c34b0
                                          try clear p35
                                          try clear q35
                                          try clear hx35
                                          try clear c36
                                          try clear c36b0
                                          try clear c36b1
                                          try clear c38
                                          try clear c38b0
                                          try clear p39
                                          try clear q39
                                          try clear hx39
                                          try clear c40
                                          try clear c40b0
                                          try clear c41
                                          try clear p41
                                          try clear q41
                                          try clear hx41
                                          try clear c43
                                          try clear c45
                                          try clear c45b0
                                          try clear c46
                                          try clear c46b0
                                          try clear c47
                                          try clear c47b0
                                          try clear p48
                                          try clear q48
                                          try clear hx48
                                          try clear c49
                                          try clear p1
                                          try clear p12
                                          try clear p18
                                          try clear p2
                                          try clear p20
                                          try clear p22
                                          try clear p24
                                          try clear p3
                                          try clear p35
                                          try clear p39
                                          try clear p4
                                          try clear p41
                                          try clear p48
                                          try clear p6
                                          try clear p8
                                          try clear q1
                                          try clear q12
                                          try clear q18
                                          try clear q2
                                          try clear q20
                                          try clear q22
                                          try clear q24
                                          try clear q3
                                          try clear q35
                                          try clear q39
                                          try clear q4
                                          try clear q41
                                          try clear q48
                                          try clear q6
                                          try clear q8
                                          obtain ⟨x2_8, x3_8, x11_8, rfl, rfl, rfl, HA, HK8, ⟨m8, rfl⟩⟩ := hrel
                                          cases gk with
                                          | zero => exact absurd HA.out (by simp [spec_Cell.l2])
                                          | succ k8 =>
                                            have H := HA.out
                                            clear HA
                                            simp only [spec_Cell.l2] at H
                                            by_cases c50 : x11_8 < (a0.size : Int)
                                            · rw [if_pos c50] at H
                                              have c50b0 : decide (x11_8 < (a0.size : Int)) = true := decide_eq_true c50
                                              clear c50
                                              have HC51 := Aside0.mk H
                                              clear H
                                              go_upto_region 23 with (fail)
                                              go_cut [140] (fun v140 wc => ∃ (kq : Nat) (x140_50 : Bool), v140 = .bool x140_50 ∧ Aside0 (spec_Cell.j9 kq a0 x2_8 x3_8 t102 x11_8 x140_50 = some (r1, r2, r3, r4)) ∧ Aside0 (kq ≤ k8) ∧ Drawn0 w wc)
                                              case first =>
                                                have H := HC51.out
                                                clear HC51
                                                by_cases c52 : 0 ≤ x11_8
                                                · rw [if_pos c52] at H
                                                  have c52b0 : decide (0 ≤ x11_8) = true := decide_eq_true c52
                                                  clear c52
                                                  (first | rw [c52b0] | (simp only [i64_w, i32_w]; rw [c52b0]) | skip)
                                                  by_cases c54 : (bt a0 x11_8) < 48
                                                  · rw [if_pos c54] at H
                                                    have c54b0 : decide ((bt a0 x11_8) < 48) = true := decide_eq_true c54
                                                    clear c54
                                                    have H' := Aside0.mk H
                                                    clear H
                                                    have p53 : 0 ≤ (x11_8 : Int) := of_decide_eq_true (by first | (with_reducible assumption) | assumption)
                                                    have q53 : x11_8 < (a0.size : Int) := of_decide_eq_true (by first | (with_reducible assumption) | assumption)
                                                    have hx53 := bt_at a0 x11_8
                                                    replace p53 := eq_true p53
                                                    replace q53 := eq_true q53
                                                    go_wp2
                                                    go_meet
                                                    case rel => exact ⟨_, (true), (by first | rfl | (simp; done) | (simp [*]; done) | (simp [wrap64]; done) | (generalize ByteArray.toList _ = l_; cases l_ <;> first | rfl | (simp; done))), H', ⟨by have := HK1.out; have := HJ9.out; have := HJ12.out; have := HJ14.out; have := HJ29.out; have := HJ41.out; have := HJ43.out; have := HK8.out; first | omega | exact Nat.le_refl _⟩, by repeat (first | exact Drawn0.refl _ | apply Drawn0.step)⟩
                                                  · rw [if_neg c54] at H
                                                    have c54b0 : decide ((bt a0 x11_8) < 48) = false := decide_eq_false c54
                                                    clear c54
                                                    have H' := Aside0.mk H
                                                    clear H
                                                    have p53 : 0 ≤ (x11_8 : Int) := of_decide_eq_true (by first | (with_reducible assumption) | assumption)
                                                    have q53 : x11_8 < (a0.size : Int) := of_decide_eq_true (by first | (with_reducible assumption) | assumption)
                                                    have hx53 := bt_at a0 x11_8
                                                    replace p53 := eq_true p53
                                                    replace q53 := eq_true q53
                                                    have p55 : 0 ≤ (x11_8 : Int) := of_decide_eq_true (by first | (with_reducible assumption) | assumption)
                                                    have q55 : x11_8 < (a0.size : Int) := of_decide_eq_true (by first | (with_reducible assumption) | assumption)
                                                    have hx55 := bt_at a0 x11_8
                                                    replace p55 := eq_true p55
                                                    replace q55 := eq_true q55
                                                    go_wp2
                                                    go_meet
                                                    case rel => exact ⟨_, (decide ((bt a0 x11_8) > 57)), (by first | rfl | (simp; done) | (simp [*]; done) | (simp [wrap64]; done) | (generalize ByteArray.toList _ = l_; cases l_ <;> first | rfl | (simp; done))), H', ⟨by have := HK1.out; have := HJ9.out; have := HJ12.out; have := HJ14.out; have := HJ29.out; have := HJ41.out; have := HJ43.out; have := HK8.out; first | omega | exact Nat.le_refl _⟩, by repeat (first | exact Drawn0.refl _ | apply Drawn0.step)⟩
                                                · rw [if_neg c52] at H
                                                  exact absurd H (by simp)
                                              case rest =>
                                                clear HC51
                                                try clear c1
                                                try clear p1
                                                try clear q1
                                                try clear hx1
                                                try clear qi1
                                                try clear c2
                                                try clear c2b0
                                                try clear p2
                                                try clear q2
                                                try clear hx2
                                                try clear c3
                                                try clear c3b0
                                                try clear p3
                                                try clear q3
                                                try clear hx3
                                                try clear c4
                                                try clear p4
                                                try clear q4
                                                try clear hx4
                                                try clear c5
                                                try clear c5b0
                                                try clear c5b1
                                                try clear p5
                                                try clear q5
                                                try clear hx5
                                                try clear p6
                                                try clear q6
                                                try clear hx6
                                                try clear c7
                                                try clear c7b0
                                                try clear c7b1
                                                try clear p8
                                                try clear q8
                                                try clear hx8
                                                try clear c9
                                                try clear c9b0
                                                try clear c9b1
                                                try clear c11
                                                try clear c11b0
                                                try clear c11b1
                                                try clear c12
                                                try clear p12
                                                try clear q12
                                                try clear hx12
                                                try clear qi12
                                                try clear c14
                                                try clear c16
                                                try clear c16b0
                                                try clear c17
                                                try clear c17b0
                                                try clear p18
                                                try clear q18
                                                try clear hx18
                                                try clear c19
                                                try clear c19b0
                                                try clear p20
                                                try clear q20
                                                try clear hx20
                                                try clear c21
                                                try clear c21b0
                                                try clear p22
                                                try clear q22
                                                try clear hx22
                                                try clear c23
                                                try clear c23b0
                                                try clear c23b1
                                                try clear p24
                                                try clear q24
                                                try clear hx24
                                                try clear c25
                                                try clear c25b0
                                                try clear c25b1
                                                try clear c26
                                                try clear c26b0
                                                try clear c26b1
                                                try clear c27
                                                try clear c27b0
                                                try clear c27b1
                                                try clear c28
                                                try clear c28b0
                                                try clear c28b1
                                                try clear c29
                                                try clear c31
                                                try clear c31b0
                                                try clear c32
                                                try clear c32b0
                                                try clear c33
                                                try clear c33b0
                                                try clear c34
                                                try clear c34b0
                                                try clear p35
                                                try clear q35
                                                try clear hx35
                                                try clear c36
                                                try clear c36b0
                                                try clear c36b1
                                                try clear c38
                                                try clear c38b0
                                                try clear p39
                                                try clear q39
                                                try clear hx39
                                                try clear c40
                                                try clear c40b0
                                                try clear c41
                                                try clear p41
                                                try clear q41
                                                try clear hx41
                                                try clear c43
                                                try clear c45
                                                try clear c45b0
                                                try clear c46
                                                try clear c46b0
                                                try clear c47
                                                try clear c47b0
                                                try clear p48
                                                try clear q48
                                                try clear hx48
                                                try clear c49
                                                try clear c50
                                                try clear c50b0
                                                try clear c52
                                                try clear c52b0
                                                try clear p53
                                                try clear q53
                                                try clear hx53
                                                try clear c54
                                                try clear c54b0
                                                try clear p55
                                                try clear q55
                                                try clear hx55
                                                try clear p1
                                                try clear p12
                                                try clear p18
                                                try clear p2
                                                try clear p20
                                                try clear p22
                                                try clear p24
                                                try clear p3
                                                try clear p35
                                                try clear p39
                                                try clear p4
                                                try clear p41
                                                try clear p48
                                                try clear p53
                                                try clear p55
                                                try clear p6
                                                try clear p8
                                                try clear q1
                                                try clear q12
                                                try clear q18
                                                try clear q2
                                                try clear q20
                                                try clear q22
                                                try clear q24
                                                try clear q3
                                                try clear q35
                                                try clear q39
                                                try clear q4
                                                try clear q41
                                                try clear q48
                                                try clear q53
                                                try clear q55
                                                try clear q6
                                                try clear q8
                                                obtain ⟨kq, x140_50, rfl, HA, HJ50, ⟨mc50, rfl⟩⟩ := hcut
                                                cases kq with
                                                | zero => exact absurd HA.out (by simp [spec_Cell.j9])
                                                | succ kj50 =>
                                                  have H := HA.out
                                                  clear HA
                                                  simp only [spec_Cell.j9] at H
                                                  by_cases c56 : x140_50 = true
                                                  · subst c56
                                                    have H1 : (some (0, 0, false, true)) = some (r1, r2, r3, r4) := by rw [if_pos rfl] at H; exact H
                                                    clear H
                                                    have H := H1
                                                    clear H1
                                                    simp only [Option.some.injEq, Prod.mk.injEq] at H
                                                    obtain ⟨rfl, rfl, rfl, rfl⟩ := H
                                                    go_wp2
                                                    refine bodyPost_ret (results_list (rs := [.tmp 2, .tmp 3, .tmp 4, .tmp 5]) rfl (by simp) (.tmp (.tmp (.tmp (.tmp .nil))))) rfl ?_
                                                    exact ⟨by first | rfl | (simp; done) | (simp [*]; done) | (simp [wrap64]; done) | (generalize ByteArray.toList _ = l_; cases l_ <;> first | rfl | (simp; done)), by repeat (first | exact Drawn0.refl _ | apply Drawn0.step)⟩
                                                  · replace c56 := Bool.eq_false_iff.mpr c56
                                                    subst c56
                                                    have H1 : (if x3_8 ≤ 1048576 then (if 0 ≤ x11_8 then (if x11_8 < (a0.size : Int) then (spec_Cell.l2 kj50 a0 x2_8 (wrap64 ((wrap64 (10 * x3_8)) + (((bt a0 x11_8) - 48) % 256))) t102 (wrap64 (x11_8 + 1))) else (none)) else (none)) else (spec_Cell.l2 kj50 a0 x2_8 x3_8 t102 (wrap64 (x11_8 + 1)))) = some (r1, r2, r3, r4) := by rw [if_neg (show ¬ (false = true) by decide)] at H; exact H
                                                    clear H
                                                    have H := H1
                                                    clear H1
                                                    by_cases c57 : x3_8 ≤ 1048576
                                                    · rw [if_pos c57] at H
                                                      have c57b0 : decide (x3_8 ≤ 1048576) = true := decide_eq_true c57
                                                      clear c57
                                                      by_cases c58 : 0 ≤ x11_8
                                                      · rw [if_pos c58] at H
                                                        have c58b0 : decide (0 ≤ x11_8) = true := decide_eq_true c58
                                                        clear c58
                                                        by_cases c59 : x11_8 < (a0.size : Int)
                                                        · rw [if_pos c59] at H
                                                          have c59b0 : decide (x11_8 < (a0.size : Int)) = true := decide_eq_true c59
                                                          clear c59
                                                          have H' := Aside0.mk H
                                                          clear H
                                                          have p60 : 0 ≤ (x11_8 : Int) := of_decide_eq_true (by first | (with_reducible assumption) | assumption)
                                                          have q60 : x11_8 < (a0.size : Int) := of_decide_eq_true (by first | (with_reducible assumption) | assumption)
                                                          have hx60 := bt_at a0 x11_8
                                                          replace p60 := eq_true p60
                                                          replace q60 := eq_true q60
                                                          go_wp2
                                                          go_roundg kj50
                                                          case measure => have := HK1.out; have := HJ9.out; have := HJ12.out; have := HJ14.out; have := HJ29.out; have := HJ41.out; have := HJ43.out; have := HK8.out; have := HJ50.out; omega
                                                          case rel => exact ⟨(x2_8), (wrap64 ((wrap64 (10 * x3_8)) + (((bt a0 x11_8) - 48) % 256))), (wrap64 (x11_8 + 1)), (by first | rfl | (simp; done) | (simp [*]; done) | (simp [wrap64]; done) | (generalize ByteArray.toList _ = l_; cases l_ <;> first | rfl | (simp; done))), (by first | rfl | (simp; done) | (simp [*]; done) | (simp [wrap64]; done) | (generalize ByteArray.toList _ = l_; cases l_ <;> first | rfl | (simp; done))), (by first | rfl | (simp; done) | (simp [*]; done) | (simp [wrap64]; done) | (generalize ByteArray.toList _ = l_; cases l_ <;> first | rfl | (simp; done))), H', ⟨by have := HK1.out; have := HJ9.out; have := HJ12.out; have := HJ14.out; have := HJ29.out; have := HJ41.out; have := HJ43.out; have := HK8.out; have := HJ50.out; omega⟩, by repeat (first | exact Drawn0.refl _ | apply Drawn0.step)⟩
                                                        · rw [if_neg c59] at H
                                                          exact absurd H (by simp)
                                                      · rw [if_neg c58] at H
                                                        exact absurd H (by simp)
                                                    · rw [if_neg c57] at H
                                                      have c57b0 : decide (x3_8 ≤ 1048576) = false := decide_eq_false c57
                                                      clear c57
                                                      have H' := Aside0.mk H
                                                      clear H
                                                      go_wp2
                                                      go_roundg kj50
                                                      case measure => have := HK1.out; have := HJ9.out; have := HJ12.out; have := HJ14.out; have := HJ29.out; have := HJ41.out; have := HJ43.out; have := HK8.out; have := HJ50.out; omega
                                                      case rel => exact ⟨(x2_8), (x3_8), (wrap64 (x11_8 + 1)), (by first | rfl | (simp; done) | (simp [*]; done) | (simp [wrap64]; done) | (generalize ByteArray.toList _ = l_; cases l_ <;> first | rfl | (simp; done))), (by first | rfl | (simp; done) | (simp [*]; done) | (simp [wrap64]; done) | (generalize ByteArray.toList _ = l_; cases l_ <;> first | rfl | (simp; done))), (by first | rfl | (simp; done) | (simp [*]; done) | (simp [wrap64]; done) | (generalize ByteArray.toList _ = l_; cases l_ <;> first | rfl | (simp; done))), H', ⟨by have := HK1.out; have := HJ9.out; have := HJ12.out; have := HJ14.out; have := HJ29.out; have := HJ41.out; have := HJ43.out; have := HK8.out; have := HJ50.out; omega⟩, by repeat (first | exact Drawn0.refl _ | apply Drawn0.step)⟩
                                            · rw [if_neg c50] at H
                                              have c50b0 : decide (x11_8 < (a0.size : Int)) = false := decide_eq_false c50
                                              clear c50
                                              by_cases c61 : t102 = true
                                              · subst c61
                                                have H1 : (if x3_8 < 1 then (some (0, 0, false, true)) else (if x3_8 > 1048576 then (some (0, 0, false, true)) else (some (x2_8, x3_8, true, true)))) = some (r1, r2, r3, r4) := by rw [if_pos rfl] at H; exact H
                                                clear H
                                                have H := H1
                                                clear H1
                                                by_cases c62 : x3_8 < 1
                                                · rw [if_pos c62] at H
                                                  have c62b0 : decide (x3_8 < 1) = true := decide_eq_true c62
                                                  clear c62
                                                  simp only [Option.some.injEq, Prod.mk.injEq] at H
                                                  obtain ⟨rfl, rfl, rfl, rfl⟩ := H
                                                  go_wp2
                                                  refine bodyPost_ret (results_list (rs := [.tmp 2, .tmp 3, .tmp 4, .tmp 5]) rfl (by simp) (.tmp (.tmp (.tmp (.tmp .nil))))) rfl ?_
                                                  exact ⟨by first | rfl | (simp; done) | (simp [*]; done) | (simp [wrap64]; done) | (generalize ByteArray.toList _ = l_; cases l_ <;> first | rfl | (simp; done)), by repeat (first | exact Drawn0.refl _ | apply Drawn0.step)⟩
                                                · rw [if_neg c62] at H
                                                  have c62b0 : decide (x3_8 < 1) = false := decide_eq_false c62
                                                  clear c62
                                                  by_cases c63 : x3_8 > 1048576
                                                  · rw [if_pos c63] at H
                                                    have c63b0 : decide (1048576 < x3_8) = true := decide_eq_true c63
                                                    clear c63
                                                    simp only [Option.some.injEq, Prod.mk.injEq] at H
                                                    obtain ⟨rfl, rfl, rfl, rfl⟩ := H
                                                    go_wp2
                                                    refine bodyPost_ret (results_list (rs := [.tmp 2, .tmp 3, .tmp 4, .tmp 5]) rfl (by simp) (.tmp (.tmp (.tmp (.tmp .nil))))) rfl ?_
                                                    exact ⟨by first | rfl | (simp; done) | (simp [*]; done) | (simp [wrap64]; done) | (generalize ByteArray.toList _ = l_; cases l_ <;> first | rfl | (simp; done)), by repeat (first | exact Drawn0.refl _ | apply Drawn0.step)⟩
                                                  · rw [if_neg c63] at H
                                                    have c63b0 : decide (1048576 < x3_8) = false := decide_eq_false c63
                                                    clear c63
                                                    simp only [Option.some.injEq, Prod.mk.injEq] at H
                                                    obtain ⟨rfl, rfl, rfl, rfl⟩ := H
                                                    go_wp2
                                                    refine bodyPost_ret (results_list (rs := [.tmp 2, .tmp 3, .tmp 4, .tmp 5]) rfl (by simp) (.tmp (.tmp (.tmp (.tmp .nil))))) rfl ?_
                                                    exact ⟨by first | rfl | (simp; done) | (simp [*]; done) | (simp [wrap64]; done) | (generalize ByteArray.toList _ = l_; cases l_ <;> first | rfl | (simp; done)), by repeat (first | exact Drawn0.refl _ | apply Drawn0.step)⟩
                                              · replace c61 := Bool.eq_false_iff.mpr c61
                                                subst c61
                                                have H1 : (some (0, 0, false, true)) = some (r1, r2, r3, r4) := by rw [if_neg (show ¬ (false = true) by decide)] at H; exact H
                                                clear H
                                                have H := H1
                                                clear H1
                                                simp only [Option.some.injEq, Prod.mk.injEq] at H
                                                obtain ⟨rfl, rfl, rfl, rfl⟩ := H
                                                go_wp2
                                                refine bodyPost_ret (results_list (rs := [.tmp 2, .tmp 3, .tmp 4, .tmp 5]) rfl (by simp) (.tmp (.tmp (.tmp (.tmp .nil))))) rfl ?_
                                                exact ⟨by first | rfl | (simp; done) | (simp [*]; done) | (simp [wrap64]; done) | (generalize ByteArray.toList _ = l_; cases l_ <;> first | rfl | (simp; done)), by repeat (first | exact Drawn0.refl _ | apply Drawn0.step)⟩
                        · rw [if_neg c28] at H
                          exact absurd H (by simp)
                      · rw [if_neg c27] at H
                        exact absurd H (by simp)
                    · rw [if_neg c26] at H
                      exact absurd H (by simp)

end Go.Proofs.YtfbenlenihlpbaaDoor.PRo
