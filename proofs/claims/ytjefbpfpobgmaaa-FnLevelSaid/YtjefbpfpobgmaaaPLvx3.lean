/- Contracts of functions that the text "Lv" uses: the call ends in what the plain Lean function says, where that says something. Written by a program of this session. No conditions. -/
import Derived.Test.YtjefbpfpobgmaaaPLvx0
import Derived.Test.YtjefbpfpobgmaaaPLvx1
import Derived.Test.YtjefbpfpobgmaaaPLvx2
namespace Go.Proofs.Ytjefbpfpobgmaaa.PLv
open Go.RowKit Go.Proofs.YtjefbpfpobgmaaaW.PrintWords Go.Proofs.YtjefbpfpobgmaaaW.PrintLast Go.Proofs.YtjefbpfpobgmaaaW.PrintMore
attribute [local go_sem] Go.Proofs.Ytjefbpfpobgmaaa.Flt.run_store_float max2_int min2_int max_two min_two max_three min_three max_four min_four   -- for this text's walks alone
set_option linter.unusedVariables false
set_option linter.unusedSimpArgs false

/-! ### excelize_flatCols: function 44 -/
mutual
def excelize_flatCols.l0 : Nat → List (S103) → List (S103) → Int → Int → Int → Nat → Bool → Int → Int → Bool → Option ((List (S103)))
  | 0, _, _, _, _, _, _, _, _, _, _ => none
  | k + 1, x1, x7, x8, x107000, x107001, x107002, x107003, x107004, x107005, x107006 => if x8 ≤ (mn 16384 x107001) then (if x7.length < 2513169434916 then (excelize_flatCols.l0 k x1 (x7 ++ [(⟨x8, x8, x107002, x107003, x107004, x107005, x107006⟩ : S103)]) (wrap64 (x8 + 1)) x107000 x107001 x107002 x107003 x107004 x107005 x107006) else (none)) else (excelize_flatCols.l1 k x7 x1 (x1.length : Int) 0)
def excelize_flatCols.l1 : Nat → List (S103) → List (S103) → Int → Int → Option ((List (S103)))
  | 0, _, _, _, _ => none
  | k + 1, x7, x36, x37, x38 => if x38 < x37 then (if 0 ≤ x38 then (if x38 < (x36.length : Int) then (excelize_flatCols.l2 k x7 (mx 1 ((rd_T103 x36 x38).f0)) x36 x37 x38 ((rd_T103 x36 x38).f0) ((rd_T103 x36 x38).f1) ((rd_T103 x36 x38).f2) ((rd_T103 x36 x38).f3) ((rd_T103 x36 x38).f4) ((rd_T103 x36 x38).f5) ((rd_T103 x36 x38).f6)) else (none)) else (none)) else (some x7)
def excelize_flatCols.l2 : Nat → List (S103) → Int → List (S103) → Int → Int → Int → Int → Nat → Bool → Int → Int → Bool → Option ((List (S103)))
  | 0, _, _, _, _, _, _, _, _, _, _, _, _ => none
  | k + 1, x7, x13, x36, x37, x38, x113000, x113001, x113002, x113003, x113004, x113005, x113006 => if x13 ≤ (mn 16384 x113001) then ((excelize_flatCols_1.f k x13 x7).bind fun bt113 => (if bt113.2 = true then (if 0 ≤ bt113.1 then (if bt113.1 < (x7.length : Int) then ((excelize_xlsxWorksheet_setColOutlineLevel_1.f ((rd_T103 x7 bt113.1).f0) ((rd_T103 x7 bt113.1).f1) ((rd_T103 x7 bt113.1).f2) ((rd_T103 x7 bt113.1).f3) ((rd_T103 x7 bt113.1).f4) ((rd_T103 x7 bt113.1).f5) ((rd_T103 x7 bt113.1).f6) x113000 x113001 x113002 x113003 x113004 x113005 x113006).bind fun bt116 => (excelize_flatCols.l2 k (x7.set (bt113.1 : Int).toNat (⟨bt116.1, bt116.2.1, bt116.2.2.1, bt116.2.2.2.1, bt116.2.2.2.2.1, bt116.2.2.2.2.2.1, bt116.2.2.2.2.2.2⟩ : S103)) (wrap64 (x13 + 1)) x36 x37 x38 x113000 x113001 x113002 x113003 x113004 x113005 x113006)) else (none)) else (none)) else (if x7.length < 2513169434916 then (excelize_flatCols.l2 k (x7 ++ [(⟨x13, x13, x113002, x113003, x113004, x113005, x113006⟩ : S103)]) (wrap64 (x13 + 1)) x36 x37 x38 x113000 x113001 x113002 x113003 x113004 x113005 x113006) else (none)))) else (excelize_flatCols.l1 k x7 x36 x37 (wrap64 (x38 + 1)))
end
def excelize_flatCols.f (k : Nat) (a0_0 : Int) (a0_1 : Int) (a0_2 : Nat) (a0_3 : Bool) (a0_4 : Int) (a0_5 : Int) (a0_6 : Bool) (l1 : List (S103)) (a2 : Unit) : Option ((List (S103))) := excelize_flatCols.l0 k l1 ([] : List (S103)) (mx 1 a0_0) a0_0 a0_1 a0_2 a0_3 a0_4 a0_5 a0_6
theorem excelize_flatCols.mono_l : ∀ k, (∀ y0 y1 y2 y3 y4 y5 y6 y7 y8 y9, LeO (excelize_flatCols.l0 k y0 y1 y2 y3 y4 y5 y6 y7 y8 y9) (excelize_flatCols.l0 (k + 1) y0 y1 y2 y3 y4 y5 y6 y7 y8 y9)) ∧ (∀ y0 y1 y2 y3, LeO (excelize_flatCols.l1 k y0 y1 y2 y3) (excelize_flatCols.l1 (k + 1) y0 y1 y2 y3)) ∧ (∀ y0 y1 y2 y3 y4 y5 y6 y7 y8 y9 y10 y11, LeO (excelize_flatCols.l2 k y0 y1 y2 y3 y4 y5 y6 y7 y8 y9 y10 y11) (excelize_flatCols.l2 (k + 1) y0 y1 y2 y3 y4 y5 y6 y7 y8 y9 y10 y11))
  | 0 => ⟨fun _ _ _ _ _ _ _ _ _ _ r h => by simp [excelize_flatCols.l0] at h, fun _ _ _ _ r h => by simp [excelize_flatCols.l1] at h, fun _ _ _ _ _ _ _ _ _ _ _ _ r h => by simp [excelize_flatCols.l2] at h⟩
  | k + 1 => by
    obtain ⟨ih0, ih1, ih2⟩ := excelize_flatCols.mono_l k
    refine ⟨?_, ?_, ?_⟩
    · intro y0 y1 y2 y3 y4 y5 y6 y7 y8 y9
      unfold excelize_flatCols.l0
      repeat' first
      | (with_reducible exact ih0 _ _ _ _ _ _ _ _ _ _)
      | (with_reducible exact ih1 _ _ _ _)
      | (with_reducible exact ih2 _ _ _ _ _ _ _ _ _ _ _ _)
      | (with_reducible exact excelize_flatCols_1.mono _ _ _)
      | (with_reducible exact LeO.refl _)
      | (with_reducible exact LeO.none _)
      | (with_reducible refine LeO.ite ?_ ?_)
      | (with_reducible refine LeO.bind ?_ (fun _ => ?_))
      | exact ih0 _ _ _ _ _ _ _ _ _ _
      | exact ih1 _ _ _ _
      | exact ih2 _ _ _ _ _ _ _ _ _ _ _ _
      | exact excelize_flatCols_1.mono _ _ _
      | exact LeO.none _
      | refine LeO.ite ?_ ?_
      | refine LeO.bind ?_ (fun _ => ?_)
    · intro y0 y1 y2 y3
      unfold excelize_flatCols.l1
      repeat' first
      | (with_reducible exact ih0 _ _ _ _ _ _ _ _ _ _)
      | (with_reducible exact ih1 _ _ _ _)
      | (with_reducible exact ih2 _ _ _ _ _ _ _ _ _ _ _ _)
      | (with_reducible exact excelize_flatCols_1.mono _ _ _)
      | (with_reducible exact LeO.refl _)
      | (with_reducible exact LeO.none _)
      | (with_reducible refine LeO.ite ?_ ?_)
      | (with_reducible refine LeO.bind ?_ (fun _ => ?_))
      | exact ih0 _ _ _ _ _ _ _ _ _ _
      | exact ih1 _ _ _ _
      | exact ih2 _ _ _ _ _ _ _ _ _ _ _ _
      | exact excelize_flatCols_1.mono _ _ _
      | exact LeO.none _
      | refine LeO.ite ?_ ?_
      | refine LeO.bind ?_ (fun _ => ?_)
    · intro y0 y1 y2 y3 y4 y5 y6 y7 y8 y9 y10 y11
      unfold excelize_flatCols.l2
      repeat' first
      | (with_reducible exact ih0 _ _ _ _ _ _ _ _ _ _)
      | (with_reducible exact ih1 _ _ _ _)
      | (with_reducible exact ih2 _ _ _ _ _ _ _ _ _ _ _ _)
      | (with_reducible exact excelize_flatCols_1.mono _ _ _)
      | (with_reducible exact LeO.refl _)
      | (with_reducible exact LeO.none _)
      | (with_reducible refine LeO.ite ?_ ?_)
      | (with_reducible refine LeO.bind ?_ (fun _ => ?_))
      | exact ih0 _ _ _ _ _ _ _ _ _ _
      | exact ih1 _ _ _ _
      | exact ih2 _ _ _ _ _ _ _ _ _ _ _ _
      | exact excelize_flatCols_1.mono _ _ _
      | exact LeO.none _
      | refine LeO.ite ?_ ?_
      | refine LeO.bind ?_ (fun _ => ?_)
theorem excelize_flatCols.mono : ∀ a0 a1 a2 a3 a4 a5 a6 a7 a8 k, LeO (excelize_flatCols.f k a0 a1 a2 a3 a4 a5 a6 a7 a8) (excelize_flatCols.f (k + 1) a0 a1 a2 a3 a4 a5 a6 a7 a8) := by
  intro a0 a1 a2 a3 a4 a5 a6 a7 a8 k
  obtain ⟨ih0, ih1, ih2⟩ := excelize_flatCols.mono_l k
  unfold excelize_flatCols.f
  repeat' first
      | (with_reducible exact ih0 _ _ _ _ _ _ _ _ _ _)
      | (with_reducible exact ih1 _ _ _ _)
      | (with_reducible exact ih2 _ _ _ _ _ _ _ _ _ _ _ _)
      | (with_reducible exact excelize_flatCols_1.mono _ _ _)
      | (with_reducible exact LeO.refl _)
      | (with_reducible exact LeO.none _)
      | (with_reducible refine LeO.ite ?_ ?_)
      | (with_reducible refine LeO.bind ?_ (fun _ => ?_))
      | exact ih0 _ _ _ _ _ _ _ _ _ _
      | exact ih1 _ _ _ _
      | exact ih2 _ _ _ _ _ _ _ _ _ _ _ _
      | exact excelize_flatCols_1.mono _ _ _
      | exact LeO.none _
      | refine LeO.ite ?_ ?_
      | refine LeO.bind ?_ (fun _ => ?_)
def excelize_flatCols.T17 : Bool × List (List Nat × List Nat) := (true, [([], []), ([], []), ([], []), ([], []), ([], []), ([3, 4], [3, 4]), ([5], [5]), ([], []), ([2, 6, 7], [2, 6, 7]), ([0, 1, 0, 1, 2, 3, 4, 5, 6, 7, 8], [0, 1]), ([9, 8, 8, 0, 1, 2, 3, 4, 5, 6, 7, 8], [8, 9])])
def excelize_flatCols.B17 : List Nat := [0, 0, 0, 0, 0, 24, 56, 0, 252, 511, 1023]
theorem excelize_flatCols.tab17 : rtab .any (opsOf Try.f44 17) = excelize_flatCols.T17 := by kernel_rfl
theorem excelize_flatCols.bits17 : waitsOk excelize_flatCols.T17.2 excelize_flatCols.B17 = true := by kernel_rfl

end Go.Proofs.Ytjefbpfpobgmaaa.PLv
