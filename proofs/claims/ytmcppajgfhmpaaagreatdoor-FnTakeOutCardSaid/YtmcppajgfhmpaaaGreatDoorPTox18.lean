/- Contracts of functions that the text "To" uses: the call ends in what the plain Lean function says, where that says something. Written by a program of this session. No conditions. -/
import Derived.Test.YtmcppajgfhmpaaaGreatDoorPToA
import Derived.Test.YtmcppajgfhmpaaaGreatDoorPToB
namespace Go.Proofs.YtmcppajgfhmpaaaGreatDoor.PTo
open Go.RowKit Go.Proofs.YtmcppajgfhmpaaaGreatDoorW.PrintWords Go.Proofs.YtmcppajgfhmpaaaGreatDoorW.PrintLast Go.Proofs.YtmcppajgfhmpaaaGreatDoorW.PrintMore
attribute [local go_sem] max2_int min2_int max_two min_two max_three min_three max_four min_four   -- for this text's walks alone
set_option linter.unusedVariables false
set_option linter.unusedSimpArgs false

theorem excelize_squashSqref.at_X {w : World} {A : Option Addr} {n : Nat} {xs : List (List Int)} (h : Kd.C (Full.exact 3 (Kd.int .i64)) w A n xs) (i : Int) (h0 : 0 ≤ i) (h1 : i < n) : ∃ ad A0 c0, A = some ad ∧ w.cell? (ad.add i.toNat) = some (.slice A0 (rd_L3 xs i).length c0) ∧ c0 = (rd_L3 xs i).length ∧ (Kd.int .i64).C w A0 (rd_L3 xs i).length (rd_L3 xs i) := Full.at_exact h i h0 h1
/-! ### excelize_squashSqref: function 38 -/
mutual
def excelize_squashSqref.l0 : Nat → List (List Int) → List ByteArray → Int → Int → Int → Option (List ByteArray)
  | 0, _, _, _, _, _ => none
  | k + 1, x0, x5, x6, x7, x8 => if x8 < (x0.length : Int) then (if 0 ≤ x8 then (if 0 < ((rd_L3 x0 x8).length : Int) then (if 0 ≤ x7 then (if x7 < (x0.length : Int) then (if 0 < ((rd_L3 x0 x7).length : Int) then (if (rd (rd_L3 x0 x8) 0) = (rd (rd_L3 x0 x7) 0) then (if 1 < ((rd_L3 x0 x8).length : Int) then (if 1 < ((rd_L3 x0 x7).length : Int) then (excelize_squashSqref.j1 k x0 x5 x6 x7 x8 (decide ((wrap64 ((rd (rd_L3 x0 x8) 1) - (rd (rd_L3 x0 x7) 1))) > 1))) else (none)) else (none)) else (excelize_squashSqref.j1 k x0 x5 x6 x7 x8 false)) else (none)) else (none)) else (none)) else (none)) else (none)) else (if 0 ≤ x6 then (if x6 < (x0.length : Int) then (if 0 ≤ x7 then (if x7 < (x0.length : Int) then (if 0 < ((rd_L3 x0 x6).length : Int) then (if 0 < ((rd_L3 x0 x7).length : Int) then (if (rd_L3 x0 x6).length + (rd_L3 x0 x7).length < 17592186044416 then ((excelize_coordinatesToRangeRef.f k ((rd_L3 x0 x6) ++ (rd_L3 x0 x7)) ([] : List Bool)).bind fun bt221 => (if x6 = x7 then (if 1 < ((rd_L3 x0 x6).length : Int) then ((excelize_CoordinatesToCellName.f k (rd (rd_L3 x0 x6) 0) (rd (rd_L3 x0 x6) 1) ([] : List Bool)).bind fun bt227 => (if x5.length < 8796093022208 then (some (x5 ++ [bt227.1])) else (none))) else (none)) else (if x5.length < 8796093022208 then (some (x5 ++ [bt221.1])) else (none)))) else (none)) else (none)) else (none)) else (none)) else (none)) else (none)) else (none))
def excelize_squashSqref.j1 : Nat → List (List Int) → List ByteArray → Int → Int → Int → Bool → Option (List ByteArray)
  | 0, _, _, _, _, _, _ => none
  | k + 1, x0, x5, x6, x7, x8, x70 => if x70 = true then (if 0 ≤ x6 then (if x6 < (x0.length : Int) then (if 0 ≤ x7 then (if x7 < (x0.length : Int) then (if 0 < ((rd_L3 x0 x6).length : Int) then (if 0 < ((rd_L3 x0 x7).length : Int) then (if (rd_L3 x0 x6).length + (rd_L3 x0 x7).length < 17592186044416 then ((excelize_coordinatesToRangeRef.f k ((rd_L3 x0 x6) ++ (rd_L3 x0 x7)) ([] : List Bool)).bind fun bt202 => (if x6 = x7 then (if 1 < ((rd_L3 x0 x6).length : Int) then ((excelize_CoordinatesToCellName.f k (rd (rd_L3 x0 x6) 0) (rd (rd_L3 x0 x6) 1) ([] : List Bool)).bind fun bt208 => (if x5.length < 8796093022208 then (excelize_squashSqref.l0 k x0 (x5 ++ [bt208.1]) x8 x8 (wrap64 (x8 + 1))) else (none))) else (none)) else (if x5.length < 8796093022208 then (excelize_squashSqref.l0 k x0 (x5 ++ [bt202.1]) x8 x8 (wrap64 (x8 + 1))) else (none)))) else (none)) else (none)) else (none)) else (none)) else (none)) else (none)) else (none)) else (excelize_squashSqref.l0 k x0 x5 x6 (wrap64 (x7 + 1)) (wrap64 (x8 + 1)))
end
def excelize_squashSqref.f (k : Nat) (l0 : List (List Int)) : Option (List ByteArray) := if (l0.length : Int) = 1 then (if 0 < (l0.length : Int) then (if 0 < ((rd_L3 l0 0).length : Int) then (if 1 < ((rd_L3 l0 0).length : Int) then ((excelize_CoordinatesToCellName.f k (rd (rd_L3 l0 0) 0) (rd (rd_L3 l0 0) 1) ([] : List Bool)).bind fun bt181 => (some (([bt181.1] : List ByteArray)))) else (none)) else (none)) else (none)) else (if (l0.length : Int) = 0 then (some (([] : List ByteArray))) else (excelize_squashSqref.l0 k l0 ([] : List ByteArray) 0 0 1))
theorem excelize_squashSqref.mono_l : ∀ k, (∀ y0 y1 y2 y3 y4, LeO (excelize_squashSqref.l0 k y0 y1 y2 y3 y4) (excelize_squashSqref.l0 (k + 1) y0 y1 y2 y3 y4)) ∧ (∀ y0 y1 y2 y3 y4 y5, LeO (excelize_squashSqref.j1 k y0 y1 y2 y3 y4 y5) (excelize_squashSqref.j1 (k + 1) y0 y1 y2 y3 y4 y5))
  | 0 => ⟨fun _ _ _ _ _ r h => by simp [excelize_squashSqref.l0] at h, fun _ _ _ _ _ _ r h => by simp [excelize_squashSqref.j1] at h⟩
  | k + 1 => by
    obtain ⟨ih0, ih1⟩ := excelize_squashSqref.mono_l k
    refine ⟨?_, ?_⟩
    · intro y0 y1 y2 y3 y4
      unfold excelize_squashSqref.l0
      repeat' first
      | (with_reducible exact ih0 _ _ _ _ _)
      | (with_reducible exact ih1 _ _ _ _ _ _)
      | (with_reducible exact excelize_CoordinatesToCellName.mono _ _ _ _)
      | (with_reducible exact excelize_coordinatesToRangeRef.mono _ _ _)
      | (with_reducible exact LeO.refl _)
      | (with_reducible exact LeO.none _)
      | (with_reducible refine LeO.ite ?_ ?_)
      | (with_reducible refine LeO.bind ?_ (fun _ => ?_))
      | exact ih0 _ _ _ _ _
      | exact ih1 _ _ _ _ _ _
      | exact excelize_CoordinatesToCellName.mono _ _ _ _
      | exact excelize_coordinatesToRangeRef.mono _ _ _
      | exact LeO.none _
      | refine LeO.ite ?_ ?_
      | refine LeO.bind ?_ (fun _ => ?_)
    · intro y0 y1 y2 y3 y4 y5
      unfold excelize_squashSqref.j1
      repeat' first
      | (with_reducible exact ih0 _ _ _ _ _)
      | (with_reducible exact ih1 _ _ _ _ _ _)
      | (with_reducible exact excelize_CoordinatesToCellName.mono _ _ _ _)
      | (with_reducible exact excelize_coordinatesToRangeRef.mono _ _ _)
      | (with_reducible exact LeO.refl _)
      | (with_reducible exact LeO.none _)
      | (with_reducible refine LeO.ite ?_ ?_)
      | (with_reducible refine LeO.bind ?_ (fun _ => ?_))
      | exact ih0 _ _ _ _ _
      | exact ih1 _ _ _ _ _ _
      | exact excelize_CoordinatesToCellName.mono _ _ _ _
      | exact excelize_coordinatesToRangeRef.mono _ _ _
      | exact LeO.none _
      | refine LeO.ite ?_ ?_
      | refine LeO.bind ?_ (fun _ => ?_)
theorem excelize_squashSqref.mono : ∀ a0 k, LeO (excelize_squashSqref.f k a0) (excelize_squashSqref.f (k + 1) a0) := by
  intro a0 k
  obtain ⟨ih0, ih1⟩ := excelize_squashSqref.mono_l k
  unfold excelize_squashSqref.f
  repeat' first
      | (with_reducible exact ih0 _ _ _ _ _)
      | (with_reducible exact ih1 _ _ _ _ _ _)
      | (with_reducible exact excelize_CoordinatesToCellName.mono _ _ _ _)
      | (with_reducible exact excelize_coordinatesToRangeRef.mono _ _ _)
      | (with_reducible exact LeO.refl _)
      | (with_reducible exact LeO.none _)
      | (with_reducible refine LeO.ite ?_ ?_)
      | (with_reducible refine LeO.bind ?_ (fun _ => ?_))
      | exact ih0 _ _ _ _ _
      | exact ih1 _ _ _ _ _ _
      | exact excelize_CoordinatesToCellName.mono _ _ _ _
      | exact excelize_coordinatesToRangeRef.mono _ _ _
      | exact LeO.none _
      | refine LeO.ite ?_ ?_
      | refine LeO.bind ?_ (fun _ => ?_)
def excelize_squashSqref.T2 : Bool × List (List Nat × List Nat) := (true, [([], []), ([0], [0]), ([1], [1]), ([2], [2]), ([3], [3]), ([], []), ([5], [5]), ([6], [6]), ([7], [7]), ([8], [8]), ([4, 9], [4, 9]), ([10], [10]), ([11], [11]), ([11], [11]), ([12, 10, 0, 1, 2, 3, 4, 5, 6, 7, 8, 9, 10, 11, 12], [12]), ([13, 14, 0, 1, 2, 3, 4, 5, 6, 7, 8, 9, 10, 11, 12, 13, 14], [13])])
def excelize_squashSqref.B2 : List Nat := [0, 1, 3, 7, 15, 0, 32, 96, 224, 480, 1023, 2047, 4095, 4095, 8191, 32767]
theorem excelize_squashSqref.tab2 : rtab .any (opsOf Tryz.f38 2) = excelize_squashSqref.T2 := by kernel_rfl
theorem excelize_squashSqref.bits2 : waitsOk excelize_squashSqref.T2.2 excelize_squashSqref.B2 = true := by kernel_rfl
def excelize_squashSqref.T11 : Bool × List (List Nat × List Nat) := (true, [([], []), ([], []), ([0, 1], [0, 1]), ([2], [2]), ([3], [3]), ([4], [4]), ([], []), ([], []), ([6, 7], [6, 7]), ([8], [8]), ([9], [9]), ([10], [10]), ([5, 11], [5, 11]), ([12], [12]), ([13], [13]), ([13], [13]), ([14, 15, 13], [13, 14, 15]), ([16, 13], [13, 16]), ([17, 13], [13, 17]), ([18, 13], [13, 18]), ([13], [13]), ([13], [13]), ([20, 21, 13], [13, 20, 21]), ([22, 13], [13, 22]), ([23, 13], [13, 23]), ([24, 13], [13, 24]), ([19, 25, 13], [13, 19, 25]), ([26, 13], [13, 26]), ([13, 27], [13, 27])])
def excelize_squashSqref.B11 : List Nat := [0, 0, 3, 7, 15, 31, 0, 0, 192, 448, 960, 1984, 4095, 8191, 16383, 16383, 65535, 131071, 262143, 524287, 16383, 16383, 3162111, 7356415, 15745023, 32522239, 67108863, 134217727, 268435455]
theorem excelize_squashSqref.tab11 : rtab .any (opsOf Tryz.f38 11) = excelize_squashSqref.T11 := by kernel_rfl
theorem excelize_squashSqref.bits11 : waitsOk excelize_squashSqref.T11.2 excelize_squashSqref.B11 = true := by kernel_rfl
def excelize_squashSqref.T12 : Bool × List (List Nat × List Nat) := (true, [([], []), ([], []), ([0, 1], [0, 1]), ([2], [2]), ([], []), ([], []), ([4, 5], [4, 5]), ([6], [6]), ([3, 7], [3, 7]), ([8, 8], [8]), ([9], [9]), ([10], [10]), ([10], [10]), ([11, 9, 0, 1, 2, 3, 4, 5, 6, 7, 8, 9, 10, 11], [11]), ([12, 13, 0, 1, 2, 3, 4, 5, 6, 7, 8, 9, 10, 11, 12, 13], [12])])
def excelize_squashSqref.B12 : List Nat := [0, 0, 3, 7, 0, 0, 48, 112, 255, 511, 1023, 2047, 2047, 4095, 16383]
theorem excelize_squashSqref.tab12 : rtab .any (opsOf Tryz.f38 12) = excelize_squashSqref.T12 := by kernel_rfl
theorem excelize_squashSqref.bits12 : waitsOk excelize_squashSqref.T12.2 excelize_squashSqref.B12 = true := by kernel_rfl
def excelize_squashSqref.T14 : Bool × List (List Nat × List Nat) := (true, [([], []), ([], []), ([0, 1], [0, 1]), ([2], [2]), ([3], [3]), ([4], [4]), ([], []), ([], []), ([6, 7], [6, 7]), ([8], [8]), ([9], [9]), ([10], [10]), ([5, 11], [5, 11]), ([12], [12]), ([13], [13]), ([13], [13]), ([14, 12, 0, 1, 2, 3, 4, 5, 6, 7, 8, 9, 10, 11, 12, 13, 14], [14])])
def excelize_squashSqref.B14 : List Nat := [0, 0, 3, 7, 15, 31, 0, 0, 192, 448, 960, 1984, 4095, 8191, 16383, 16383, 32767]
theorem excelize_squashSqref.tab14 : rtab .any (opsOf Tryz.f38 14) = excelize_squashSqref.T14 := by kernel_rfl
theorem excelize_squashSqref.bits14 : waitsOk excelize_squashSqref.T14.2 excelize_squashSqref.B14 = true := by kernel_rfl
def excelize_squashSqref.T18 : Bool × List (List Nat × List Nat) := (true, [([], []), ([], []), ([0, 1], [0, 1]), ([2], [2]), ([], []), ([], []), ([4, 5], [4, 5]), ([6], [6]), ([3, 7], [3, 7]), ([8, 8], [8]), ([9], [9]), ([10], [10]), ([10], [10]), ([11, 9, 0, 1, 2, 3, 4, 5, 6, 7, 8, 9, 10, 11], [11]), ([12, 13, 0, 1, 2, 3, 4, 5, 6, 7, 8, 9, 10, 11, 12, 13], [12])])
def excelize_squashSqref.B18 : List Nat := [0, 0, 3, 7, 0, 0, 48, 112, 255, 511, 1023, 2047, 2047, 4095, 16383]
theorem excelize_squashSqref.tab18 : rtab .any (opsOf Tryz.f38 18) = excelize_squashSqref.T18 := by kernel_rfl
theorem excelize_squashSqref.bits18 : waitsOk excelize_squashSqref.T18.2 excelize_squashSqref.B18 = true := by kernel_rfl
def excelize_squashSqref.T20 : Bool × List (List Nat × List Nat) := (true, [([], []), ([], []), ([0, 1], [0, 1]), ([2], [2]), ([3], [3]), ([4], [4]), ([], []), ([], []), ([6, 7], [6, 7]), ([8], [8]), ([9], [9]), ([10], [10]), ([5, 11], [5, 11]), ([12], [12]), ([13], [13]), ([13], [13]), ([14, 12, 0, 1, 2, 3, 4, 5, 6, 7, 8, 9, 10, 11, 12, 13, 14], [14])])
def excelize_squashSqref.B20 : List Nat := [0, 0, 3, 7, 15, 31, 0, 0, 192, 448, 960, 1984, 4095, 8191, 16383, 16383, 32767]
theorem excelize_squashSqref.tab20 : rtab .any (opsOf Tryz.f38 20) = excelize_squashSqref.T20 := by kernel_rfl
theorem excelize_squashSqref.bits20 : waitsOk excelize_squashSqref.T20.2 excelize_squashSqref.B20 = true := by kernel_rfl
set_option maxHeartbeats 8000000 in
set_option maxRecDepth 100000 in
theorem excelize_squashSqref.calls (k : Nat) (A0 : Option Addr) (c0 : Nat) (l0 : List (List Int)) (r : List ByteArray) (w : World) (hr0 : Kd.C (Full.exact 3 (Kd.int .i64)) w A0 l0.length l0) (hc0 : l0.length ≤ c0) (h : excelize_squashSqref.f k l0 = some r) :
    Calls Tryz.prog 38 #[.slice A0 l0.length c0] w fun e w' => ∃ v0_ : Value, e = .returned (v0_) ∧ Kd.R Kd.string 9 w' w.heap.size (fun _ => True) v0_ r ∧ Below w.heap.size w w' := by
  have HR0 := Aside0.mk hr0
  have HC0 := Aside0.mk hc0
  clear hr0 hc0
  have HB := Aside0.mk (Below.refl w.heap.size w)
  have H : (if (l0.length : Int) = 1 then (if 0 < (l0.length : Int) then (if 0 < ((rd_L3 l0 0).length : Int) then (if 1 < ((rd_L3 l0 0).length : Int) then ((excelize_CoordinatesToCellName.f k (rd (rd_L3 l0 0) 0) (rd (rd_L3 l0 0) 1) ([] : List Bool)).bind fun bt181 => (some (([bt181.1] : List ByteArray)))) else (none)) else (none)) else (none)) else (if (l0.length : Int) = 0 then (some (([] : List ByteArray))) else (excelize_squashSqref.l0 k l0 ([] : List ByteArray) 0 0 1))) = some r := h
  clear h
  by_cases c2 : (l0.length : Int) = 1
  · rw [if_pos c2] at H
    have c2b0 : ((l0.length : Int) == 1) = true := beq_iff_eq.mpr c2
    have c2b1 : ((l0.length : Int) != 1) = false := bne_eq_false_iff_eq.mpr c2
    clear c2
    by_cases c3 : 0 < (l0.length : Int)
    · rw [if_pos c3] at H
      have c3b0 : decide (0 < (l0.length : Int)) = true := decide_eq_true c3
      have c3b1 : decide (0 < l0.length) = true := decide_eq_true (by omega)
      clear c3
      by_cases c4 : 0 < ((rd_L3 l0 0).length : Int)
      · rw [if_pos c4] at H
        have c4b0 : decide (0 < ((rd_L3 l0 0).length : Int)) = true := decide_eq_true c4
        have c4b1 : decide (0 < (rd_L3 l0 0).length) = true := decide_eq_true (by omega)
        clear c4
        by_cases c5 : 1 < ((rd_L3 l0 0).length : Int)
        · rw [if_pos c5] at H
          have c5b0 : decide (1 < ((rd_L3 l0 0).length : Int)) = true := decide_eq_true c5
          have c5b1 : decide (1 < (rd_L3 l0 0).length) = true := decide_eq_true (by omega)
          clear c5
          replace H := Option.bind_eq_some_iff.mp H
          obtain ⟨⟨t181, t182⟩, A60, H⟩ := H
          replace H : (some (([t181] : List ByteArray))) = some r := H
          have A6 := Aside0.mk A60
          clear A60
          obtain ⟨y183, hy183⟩ : ∃ y_ : List ByteArray, y_ = (([t181] : List ByteArray)) := ⟨_, rfl⟩
          replace H : (some y183) = some r := by first | (rw [hy183]; with_reducible exact H) | (have H2_ := (Option.bind_some _ _).symm.trans H; rw [hy183]; with_reducible exact H2_) | (have H2_ := (Option.bind_some _ _).symm.trans H; with_reducible exact H2_) | with_reducible exact H | (rw [hy183]; exact H) | exact H
          have Ny183 := Aside0.mk hy183
          clear hy183
          obtain rfl := Option.some.inj H
          go_enter Tryz.func38, Tryz.ntmps38
          try go_wp2
          have n0_ := Aside0.mk (below_drew1 HB.out)
          clear HB
          have HB := n0_
          clear n0_
          have p177 : 0 ≤ (0 : Int) := (by omega)
          have q177 : 0 < (l0.length : Int) := of_decide_eq_true (by first | (with_reducible assumption) | assumption)
          obtain ⟨ad177, A177_0, c177_0, e177, hx177_0, hl177_0, hi177_0⟩ := excelize_squashSqref.at_X HR0.out 0 p177 q177
          have hw177_0 := hx177_0
          (try rw [show ((0 : Int)).toNat = 0 from rfl] at hw177_0)
          (try rw [show 0 * 1 = 0 from rfl] at hw177_0)
          (try rw [Addr.add_zero'] at hw177_0)
          cases e177
          have qi177 : (0 < l0.length) = True := eq_true (by omega)
          (try rw [show ((0 : Int)).toNat = 0 from rfl] at hx177_0)
          (try rw [Addr.add_zero'] at hx177_0)
          replace hx177_0 := (HB.out.cell (World.block_lt_of_cell? w _ hx177_0)).trans hx177_0
          have HR177_0 := Aside0.mk hi177_0
          have HC177_0 := Aside0.mk hl177_0
          clear hi177_0 hl177_0
          replace p177 := eq_true p177
          replace q177 := eq_true q177
          have p178 : 0 ≤ (0 : Int) := (by omega)
          have q178 : 0 < ((rd_L3 l0 0).length : Int) := of_decide_eq_true (by first | (with_reducible assumption) | assumption)
          obtain ⟨ad178, e178, hx178_0⟩ := Kd.at_int HR177_0.out 0 p178 q178
          have hw178_0 := hx178_0
          (try rw [show ((0 : Int)).toNat = 0 from rfl] at hw178_0)
          (try rw [show 0 * 1 = 0 from rfl] at hw178_0)
          (try rw [Addr.add_zero'] at hw178_0)
          cases e178
          have qi178 : (0 < (rd_L3 l0 0).length) = True := eq_true (by omega)
          (try rw [show ((0 : Int)).toNat = 0 from rfl] at hx178_0)
          (try rw [Addr.add_zero'] at hx178_0)
          replace hx178_0 := (HB.out.cell (World.block_lt_of_cell? w _ hx178_0)).trans hx178_0
          replace p178 := eq_true p178
          replace q178 := eq_true q178
          have p179 : 0 ≤ (0 : Int) := (by omega)
          have q179 : 0 < (l0.length : Int) := of_decide_eq_true (by first | (with_reducible assumption) | assumption)
          obtain ⟨ad179, A179_0, c179_0, e179, hx179_0, hl179_0, hi179_0⟩ := excelize_squashSqref.at_X HR0.out 0 p179 q179
          have hw179_0 := hx179_0
          (try rw [show ((0 : Int)).toNat = 0 from rfl] at hw179_0)
          (try rw [show 0 * 1 = 0 from rfl] at hw179_0)
          (try rw [Addr.add_zero'] at hw179_0)
          obtain rfl : ad177 = ad179 := (by injection e179)
          have qi179 : (0 < l0.length) = True := eq_true (by omega)
          (try rw [show ((0 : Int)).toNat = 0 from rfl] at hx179_0)
          (try rw [Addr.add_zero'] at hx179_0)
          replace hx179_0 := (HB.out.cell (World.block_lt_of_cell? w _ hx179_0)).trans hx179_0
          have HR179_0 := Aside0.mk hi179_0
          have HC179_0 := Aside0.mk hl179_0
          clear hi179_0 hl179_0
          replace p179 := eq_true p179
          replace q179 := eq_true q179
          have ea_ := Option.some.inj (hx177_0.symm.trans hx179_0)
          injection ea_ with ea_ en_ ec_
          subst ea_
          subst ec_
          clear en_
          have p180 : 0 ≤ (1 : Int) := (by omega)
          have q180 : 1 < ((rd_L3 l0 0).length : Int) := of_decide_eq_true (by first | (with_reducible assumption) | assumption)
          obtain ⟨ad180, e180, hx180_0⟩ := Kd.at_int HR179_0.out 1 p180 q180
          have hw180_0 := hx180_0
          (try rw [show ((1 : Int)).toNat = 1 from rfl] at hw180_0)
          (try rw [show 1 * 1 = 1 from rfl] at hw180_0)
          (try simp only [Nat.reduceMul, Nat.reduceEqDiff, Go.Addr.add, ↓reduceIte] at hw180_0)
          cases e180
          (try simp only [show (1 : Int).toNat = 1 from rfl, Nat.reduceMul, Nat.reduceEqDiff, Go.Addr.add, ↓reduceIte] at hx180_0)
          have qi180 : (1 < (rd_L3 l0 0).length) = True := eq_true (by omega)
          (try rw [show ((1 : Int)).toNat = 1 from rfl] at hx180_0)
          replace hx180_0 := (HB.out.cell (World.block_lt_of_cell? w _ hx180_0)).trans hx180_0
          replace p180 := eq_true p180
          replace q180 := eq_true q180
          refine start_ (n := 16) (S := fun w' => w'.cell? ad177 = some (.slice (some ad178) (rd_L3 l0 0).length c177_0) ∧ w'.cell? ad178 = some (.int .i64 (rd (rd_L3 l0 0) 0)) ∧ w'.cell? ad177 = some (.slice (some ad178) (rd_L3 l0 0).length c177_0) ∧ w'.cell? ⟨ad178.block, ad178.off + 1, none⟩ = some (.int .i64 (rd (rd_L3 l0 0) 1))) (ds := []) #[false, false, false, false, false, false, false, false, false, false, false, false, false, false, false, false] (by kernel_rfl) rfl rfl ⟨((HB.out.cell (World.block_lt_of_cell? w _ hw177_0)).trans hw177_0), ((HB.out.cell (World.block_lt_of_cell? w _ hw178_0)).trans hw178_0), ((HB.out.cell (World.block_lt_of_cell? w _ hw179_0)).trans hw179_0), ((HB.out.cell (World.block_lt_of_cell? w _ hw180_0)).trans hw180_0)⟩ (fun hHeld => ?_); refine with_tabW excelize_squashSqref.tab2 excelize_squashSqref.bits2 (fun HT_ HW_ => ?_)
          generalize w.drew = w7 at HB HR177_0 HR179_0 hx177_0 hx178_0 hx179_0 hx180_0 hHeld ⊢
          refine pure_ (i := 0) (N := some 17) (v := ?_) (a' := ?_) #[true, false, false, false, false, false, false, false, false, false, false, false, false, false, false, false] rfl rfl (any_of HT_.out (by kernel_rfl)) (fun _ _ _ h => h) (Or.inl ⟨by rfl, ?_⟩) ?_ ?_
          rotate_left
          · intro w'
            go_simp
            with_reducible rfl
          rotate_left
          · simp only [Act.put, List.setIfInBounds_toArray, List.set_cons_zero, List.set_cons_succ, i64_w, i32_w]
            rfl
          refine pure_ (i := 1) (N := some 18) (v := ?_) (a' := ?_) #[true, true, false, false, false, false, false, false, false, false, false, false, false, false, false, false] rfl rfl (any_of HT_.out (by kernel_rfl)) (fun _ _ _ h => h) (Or.inl ⟨by rfl, ?_⟩) ?_ ?_
          rotate_left
          · intro w'
            go_simp
            with_reducible rfl
          rotate_left
          · simp only [Act.put, List.setIfInBounds_toArray, List.set_cons_zero, List.set_cons_succ, i64_w, i32_w]
            rfl
          refine pure_ (i := 5) (N := some 22) (v := ?_) (a' := ?_) #[true, true, false, false, false, true, false, false, false, false, false, false, false, false, false, false] rfl rfl (any_of HT_.out (by kernel_rfl)) (fun _ _ _ h => h) (Or.inl ⟨by rfl, ?_⟩) ?_ ?_
          rotate_left
          · intro w'
            go_simp
            with_reducible rfl
          rotate_left
          · simp only [Act.put, List.setIfInBounds_toArray, List.set_cons_zero, List.set_cons_succ, i64_w, i32_w]
            rfl
          refine pure_ (i := 6) (N := some 23) (v := ?_) (a' := ?_) #[true, true, false, false, false, true, true, false, false, false, false, false, false, false, false, false] rfl rfl (any_of HT_.out (by kernel_rfl)) (fun _ _ _ h => h) (Or.inl ⟨by rfl, ?_⟩) ?_ ?_
          rotate_left
          · intro w'
            go_simp
            with_reducible rfl
          rotate_left
          · simp only [Act.put, List.setIfInBounds_toArray, List.set_cons_zero, List.set_cons_succ, i64_w, i32_w]
            rfl
          refine take_ (i := 2) (N := some 19) (v := ?_) (a' := ?_) #[true, true, true, false, false, true, true, false, false, false, false, false, false, false, false, false] rfl rfl (take_ofW HT_.out HW_.out (by kernel_rfl)) (fun _ _ _ h => h) (Or.inl ⟨by rfl, ?_⟩) hHeld ?_ ?_
          rotate_left
          · rintro w' ⟨s0, s1, s2, s3⟩
            go_simp
            with_reducible rfl
          rotate_left
          · simp only [Act.put, List.setIfInBounds_toArray, List.set_cons_zero, List.set_cons_succ, i64_w, i32_w]
            rfl
          refine pure_ (i := 3) (N := some 20) (v := ?_) (a' := ?_) #[true, true, true, true, false, true, true, false, false, false, false, false, false, false, false, false] rfl rfl (any_of HT_.out (by kernel_rfl)) (fun _ _ _ h => h) (Or.inl ⟨by rfl, ?_⟩) ?_ ?_
          rotate_left
          · intro w'
            go_simp
            with_reducible rfl
          rotate_left
          · simp only [Act.put, List.setIfInBounds_toArray, List.set_cons_zero, List.set_cons_succ, i64_w, i32_w]
            rfl
          refine take_ (i := 4) (N := some 21) (v := ?_) (a' := ?_) #[true, true, true, true, true, true, true, false, false, false, false, false, false, false, false, false] rfl rfl (take_ofW HT_.out HW_.out (by kernel_rfl)) (fun _ _ _ h => h) (Or.inl ⟨by rfl, ?_⟩) hHeld ?_ ?_
          rotate_left
          · rintro w' ⟨s0, s1, s2, s3⟩
            go_simp
            with_reducible rfl
          rotate_left
          · simp only [Act.put, List.setIfInBounds_toArray, List.set_cons_zero, List.set_cons_succ, i64_w, i32_w]
            rfl
          refine take_ (i := 7) (N := some 24) (v := ?_) (a' := ?_) #[true, true, true, true, true, true, true, true, false, false, false, false, false, false, false, false] rfl rfl (take_ofW HT_.out HW_.out (by kernel_rfl)) (fun _ _ _ h => h) (Or.inl ⟨by rfl, ?_⟩) hHeld ?_ ?_
          rotate_left
          · rintro w' ⟨s0, s1, s2, s3⟩
            go_simp
            with_reducible rfl
          rotate_left
          · simp only [Act.put, List.setIfInBounds_toArray, List.set_cons_zero, List.set_cons_succ, i64_w, i32_w]
            rfl
          refine pure_ (i := 8) (N := some 25) (v := ?_) (a' := ?_) #[true, true, true, true, true, true, true, true, true, false, false, false, false, false, false, false] rfl rfl (any_of HT_.out (by kernel_rfl)) (fun _ _ _ h => h) (Or.inl ⟨by rfl, ?_⟩) ?_ ?_
          rotate_left
          · intro w'
            go_simp
            with_reducible rfl
          rotate_left
          · simp only [Act.put, List.setIfInBounds_toArray, List.set_cons_zero, List.set_cons_succ, i64_w, i32_w]
            rfl
          refine take_ (i := 9) (N := some 26) (v := ?_) (a' := ?_) #[true, true, true, true, true, true, true, true, true, true, false, false, false, false, false, false] rfl rfl (take_ofW HT_.out HW_.out (by kernel_rfl)) (fun _ _ _ h => h) (Or.inl ⟨by rfl, ?_⟩) hHeld ?_ ?_
          rotate_left
          · rintro w' ⟨s0, s1, s2, s3⟩
            go_simp
            with_reducible rfl
          rotate_left
          · simp only [Act.put, List.setIfInBounds_toArray, List.set_cons_zero, List.set_cons_succ, i64_w, i32_w]
            rfl
          refine one_ (i := 10) (N := some 27) #[true, true, true, true, true, true, true, true, true, true, true, false, false, false, false, false] rfl rfl (one_of HT_.out (by kernel_rfl)) (by decide) (fun K hK => ?_)
          refine goes_ Tryz.func55 (by kernel_rfl) rfl #[.int .i64 (rd (rd_L3 l0 0) 0), .int .i64 (rd (rd_L3 l0 0) 1), .slice none 0 0] (by rfl) rfl rfl (by (try simp only [List.map_toArray, List.map_cons, List.map_nil]); first | done | rfl | (simp only [List.length_drop, List.length_take]; rfl)) ?_
          refine (excelize_CoordinatesToCellName.calls k (rd (rd_L3 l0 0) 0) (rd (rd_L3 l0 0) 1) _ _ ([] : List Bool) t181 t182 _ ?side1 ?side2 A6.out).mono ?_
          (case side1 => exact Kd.C_nil _ _)
          (case side2 => exact Nat.le_refl _)
          rintro e w8 ⟨rfl, hb⟩
          refine ⟨_, rfl, ?_⟩
          have n0_ := Aside0.mk (below_step (by repeat (first | (with_reducible first | exact HB.out | apply below_alloc | apply pw_below_drewN | apply below_drew1) | exact HB.out)) hb)
          clear HB
          have HB := n0_
          clear n0_
          (try clear hb)
          (try clear hb2)
          (try clear hk)
          (try clear hi)
          (try simp only [errW_none, errW_some])
          refine hK.out _ _ ⟨((HB.out.cell (World.block_lt_of_cell? w _ hw177_0)).trans hw177_0), ((HB.out.cell (World.block_lt_of_cell? w _ hw178_0)).trans hw178_0), ((HB.out.cell (World.block_lt_of_cell? w _ hw179_0)).trans hw179_0), ((HB.out.cell (World.block_lt_of_cell? w _ hw180_0)).trans hw180_0)⟩ (fun hHeld => ?_)
          clear hK K
          refine norm_ (a' := ?_) ?_ ?_
          rotate_left
          · show Act.put _ (some 27) _ = _
            simp only [Act.put, List.setIfInBounds_toArray, List.set_cons_zero, List.set_cons_succ, i64_w, i32_w]
            rfl
          refine pure_ (i := 11) (N := some 16) (v := ?_) (a' := ?_) #[true, true, true, true, true, true, true, true, true, true, true, true, false, false, false, false] rfl rfl (any_of HT_.out (by kernel_rfl)) (fun _ _ _ h => h) (Or.inl ⟨by rfl, ?_⟩) ?_ ?_
          rotate_left
          · intro w'
            go_simp
            with_reducible rfl
          rotate_left
          · simp only [Act.put, List.setIfInBounds_toArray, List.set_cons_zero, List.set_cons_succ, i64_w, i32_w]
            rfl
          refine pure_ (i := 12) (N := some 28) (v := ?_) (a' := ?_) #[true, true, true, true, true, true, true, true, true, true, true, true, true, false, false, false] rfl rfl (any_of HT_.out (by kernel_rfl)) (fun _ _ _ h => h) (Or.inl ⟨by rfl, ?_⟩) ?_ ?_
          rotate_left
          · intro w'
            go_simp
            with_reducible rfl
          rotate_left
          · simp only [Act.put, List.setIfInBounds_toArray, List.set_cons_zero, List.set_cons_succ, i64_w, i32_w]
            rfl
          refine pure_ (i := 13) (N := some 29) (v := ?_) (a' := ?_) #[true, true, true, true, true, true, true, true, true, true, true, true, true, true, false, false] rfl rfl (any_of HT_.out (by kernel_rfl)) (fun _ _ _ h => h) (Or.inl ⟨by rfl, ?_⟩) ?_ ?_
          rotate_left
          · intro w'
            go_simp
            with_reducible rfl
          rotate_left
          · simp only [Act.put, List.setIfInBounds_toArray, List.set_cons_zero, List.set_cons_succ, i64_w, i32_w]
            rfl
          refine pure_ (i := 14) (N := some 3) (v := ?_) (a' := ?_) #[true, true, true, true, true, true, true, true, true, true, true, true, true, true, true, false] rfl rfl (any_of HT_.out (by kernel_rfl)) (fun _ _ _ h => h) (Or.inl ⟨by rfl, ?_⟩) ?_ ?_
          rotate_left
          · intro w'
            go_simp
            with_reducible rfl
          rotate_left
          · simp only [Act.put, List.setIfInBounds_toArray, List.set_cons_zero, List.set_cons_succ, i64_w, i32_w]
            rfl
          refine pure_ (i := 15) (N := some 4) (v := ?_) (a' := ?_) #[true, true, true, true, true, true, true, true, true, true, true, true, true, true, true, true] rfl rfl (any_of HT_.out (by kernel_rfl)) (fun _ _ _ h => h) (Or.inl ⟨by rfl, ?_⟩) ?_ ?_
          rotate_left
          · intro w'
            go_simp
            with_reducible rfl
          rotate_left
          · simp only [Act.put, List.setIfInBounds_toArray, List.set_cons_zero, List.set_cons_succ, i64_w, i32_w]
            rfl
          refine done_ (done_of HT_.out (by kernel_rfl)) ?_
          try go_wp2_with (first | ((with_reducible refine gate_dst (N := 31) rfl ?_); refine Kd.R_lit Kd.string _ 9 ?hg (N := 31) ?hd (xs := ([t181] : List ByteArray)) (inner := [.string t181]) (ok := fun _ => True) (okp := fun _ => True) ?hr ?hp (fun _ hk => hk) trivial (Below.refl _ _) (Nat.le_refl _) (by simp) ?_; (case hd => rfl); (case hg => rfl); (case hr => first | (go_simp; done) | (go_simp; rfl)); (case hp => exact (Reps.one (show Kd.M Kd.string _ _ _ t181 [.string t181] from rfl) (Reps.none _ _))); intro v184 w9 ho10 hb hg_ hnew_; clear hg_ hnew_; (first | rw [← Ny183.out] at ho10 | (simp only [Int.reduceToNat] at ho10; rw [← Ny183.out] at ho10)); have n0_ := Aside0.mk (Kd.R_lower ho10 (below_size (by repeat (first | (with_reducible first | exact HB.out | apply below_alloc | apply pw_below_drewN | apply below_drew1) | exact HB.out)))); have n1_ := Aside0.mk (below_step (by repeat (first | (with_reducible first | exact HB.out | apply below_alloc | apply pw_below_drewN | apply below_drew1) | exact HB.out)) hb); clear HB; have HO185 := n0_; have HB := n1_; clear n0_ n1_; clear hb ho10))
          go_ret
          exact ⟨_, by first | rfl | (simp [errW_none, errW_some] <;> rfl) | (simp [*, errW_none, errW_some] <;> rfl), by (with_reducible repeat (first | apply Kd.R_alloc | apply Kd.R_drewN | apply Kd.R_drew)); exact HO185.out, by repeat (first | (with_reducible first | exact HB.out | apply below_alloc | apply pw_below_drewN | apply below_drew1) | exact HB.out)⟩
        · rw [if_neg c5] at H
          exact absurd H (by simp)
      · rw [if_neg c4] at H
        exact absurd H (by simp)
    · rw [if_neg c3] at H
      exact absurd H (by simp)
  · rw [if_neg c2] at H
    have c2b0 : ((l0.length : Int) == 1) = false := beq_eq_false_iff_ne.mpr c2
    have c2b1 : ((l0.length : Int) != 1) = true := bne_iff_ne.mpr c2
    by_cases c11 : (l0.length : Int) = 0
    · rw [if_pos c11] at H
      have c11b0 : ((l0.length : Int) == 0) = true := beq_iff_eq.mpr c11
      have c11b1 : ((l0.length : Int) != 0) = false := bne_eq_false_iff_eq.mpr c11
      clear c11
      obtain ⟨y186, hy186⟩ : ∃ y_ : List ByteArray, y_ = (([] : List ByteArray)) := ⟨_, rfl⟩
      replace H : (some y186) = some r := by first | (rw [hy186]; with_reducible exact H) | (have H2_ := (Option.bind_some _ _).symm.trans H; rw [hy186]; with_reducible exact H2_) | (have H2_ := (Option.bind_some _ _).symm.trans H; with_reducible exact H2_) | with_reducible exact H | (rw [hy186]; exact H) | exact H
      have Ny186 := Aside0.mk hy186
      clear hy186
      obtain rfl := Option.some.inj H
      go_enter Tryz.func38, Tryz.ntmps38
      go_wp2_with (first | ((with_reducible refine gate_dst (N := 35) rfl ?_); refine Kd.R_lit Kd.string _ 9 ?hg (N := 35) ?hd (xs := ([] : List ByteArray)) (inner := []) (ok := fun _ => True) (okp := fun _ => True) ?hr ?hp (fun _ hk => hk) trivial (Below.refl _ _) (Nat.le_refl _) (by simp) ?_; (case hd => rfl); (case hg => rfl); (case hr => first | (go_simp; done) | (go_simp; rfl)); (case hp => exact (Reps.none _ _)); intro v187 w12 ho13 hb hg_ hnew_; clear hg_ hnew_; (first | rw [← Ny186.out] at ho13 | (simp only [Int.reduceToNat] at ho13; rw [← Ny186.out] at ho13)); have n0_ := Aside0.mk (Kd.R_lower ho13 (below_size (by repeat (first | (with_reducible first | exact HB.out | apply below_alloc | apply pw_below_drewN | apply below_drew1) | exact HB.out)))); have n1_ := Aside0.mk (below_step (by repeat (first | (with_reducible first | exact HB.out | apply below_alloc | apply pw_below_drewN | apply below_drew1) | exact HB.out)) hb); clear HB; have HO188 := n0_; have HB := n1_; clear n0_ n1_; clear hb ho13))
      go_ret
      exact ⟨_, by first | rfl | (simp [errW_none, errW_some] <;> rfl) | (simp [*, errW_none, errW_some] <;> rfl), by (with_reducible repeat (first | apply Kd.R_alloc | apply Kd.R_drewN | apply Kd.R_drew)); exact HO188.out, by repeat (first | (with_reducible first | exact HB.out | apply below_alloc | apply pw_below_drewN | apply below_drew1) | exact HB.out)⟩
    · rw [if_neg c11] at H
      have c11b0 : ((l0.length : Int) == 0) = false := beq_eq_false_iff_ne.mpr c11
      have c11b1 : ((l0.length : Int) != 0) = true := bne_iff_ne.mpr c11
      have c11b2 : ¬ (l0 = []) := fun h_ => c11 (by rw [h_]; rfl)
      have H' := Aside0.mk H
      clear H
      go_enter Tryz.func38, Tryz.ntmps38
      go_wp2
      go_loopg [5, 6, 7, 8] k (fun kq v5 v6 v7 v8 w' => ∃ (x5_1 : List ByteArray) (x6_1 : Int) (x7_1 : Int) (x8_1 : Int), v6 = .int .i64 x6_1 ∧ v7 = .int .i64 x7_1 ∧ v8 = .int .i64 x8_1 ∧ Aside0 (excelize_squashSqref.l0 kq l0 x5_1 x6_1 x7_1 x8_1 = some r) ∧ Aside0 (kq ≤ k) ∧ Aside0 (Kd.R Kd.string 9 w' w.heap.size (fun _ => True) v5 x5_1) ∧ Aside0 (Below w.heap.size w w'))
      case atStart => exact ⟨(([] : List ByteArray)), (0), (0), (1), (by first | rfl | (simp; done) | (simp [*]; done)), (by first | rfl | (simp; done) | (simp [*]; done)), (by first | rfl | (simp; done) | (simp [*]; done)), H', ⟨Nat.le_refl _⟩, ⟨by first | exact Kd.R_nil _ _ _ _ _ | exact Kd.N_nil _ _ _ _ _ | exact Kd.V_nil _ _ _ _ _ | exact Kd.Q_nil _ _ _ _ _ | exact Kd.S_nil _ _ _ _ _⟩, ⟨by repeat (first | (with_reducible first | exact HB.out | apply below_alloc | apply pw_below_drewN | apply below_drew1) | exact HB.out)⟩⟩
      case round =>
        clear H'
        try clear c1
        try clear p1
        try clear q1
        try clear hx1
        try clear qi1
        try clear c2
        try clear c2b0
        try clear c2b1
        try clear p2
        try clear c3
        try clear c3b0
        try clear c3b1
        try clear c4
        try clear c4b0
        try clear c4b1
        try clear c5
        try clear c5b0
        try clear c5b1
        try clear c11
        try clear c11b0
        try clear c11b1
        try clear c11b2
        try clear hx177_0
        try clear hx178_0
        try clear hx179_0
        try clear hx180_0
        try clear p177
        try clear p178
        try clear p179
        try clear p180
        try clear q177
        try clear q178
        try clear q179
        try clear q180
        obtain ⟨x5_1, x6_1, x7_1, x8_1, rfl, rfl, rfl, HA, HK1, HO_5, HB⟩ := hrel
        cases gk with
        | zero => exact absurd HA.out (by simp [excelize_squashSqref.l0])
        | succ k1 =>
          have H := HA.out
          clear HA
          simp only [excelize_squashSqref.l0] at H
          by_cases c14 : x8_1 < (l0.length : Int)
          · rw [if_pos c14] at H
            have c14b0 : decide (x8_1 < (l0.length : Int)) = true := decide_eq_true c14
            clear c14
            have HC15 := Aside0.mk H
            clear H
            go_upto_region 11 with (fail)
            go_cut [70] (fun v70 wc => ∃ (kq : Nat) (x70_14 : Bool), v70 = .bool x70_14 ∧ Aside0 (excelize_squashSqref.j1 kq l0 x5_1 x6_1 x7_1 x8_1 x70_14 = some r) ∧ Aside0 (kq ≤ k1) ∧ Aside0 (Kd.R Kd.string 9 wc w.heap.size (fun _ => True) u5 x5_1) ∧ Aside0 (Below w.heap.size w wc))
            case first =>
              have H := HC15.out
              clear HC15
              by_cases c16 : 0 ≤ x8_1
              · rw [if_pos c16] at H
                have c16b0 : decide (0 ≤ x8_1) = true := decide_eq_true c16
                clear c16
                (first | rw [c16b0] | (simp only [i64_w, i32_w]; rw [c16b0]) | skip)
                by_cases c17 : 0 < ((rd_L3 l0 x8_1).length : Int)
                · rw [if_pos c17] at H
                  have c17b0 : decide (0 < ((rd_L3 l0 x8_1).length : Int)) = true := decide_eq_true c17
                  have c17b1 : decide (0 < (rd_L3 l0 x8_1).length) = true := decide_eq_true (by omega)
                  clear c17
                  by_cases c18 : 0 ≤ x7_1
                  · rw [if_pos c18] at H
                    have c18b0 : decide (0 ≤ x7_1) = true := decide_eq_true c18
                    clear c18
                    by_cases c19 : x7_1 < (l0.length : Int)
                    · rw [if_pos c19] at H
                      have c19b0 : decide (x7_1 < (l0.length : Int)) = true := decide_eq_true c19
                      clear c19
                      by_cases c20 : 0 < ((rd_L3 l0 x7_1).length : Int)
                      · rw [if_pos c20] at H
                        have c20b0 : decide (0 < ((rd_L3 l0 x7_1).length : Int)) = true := decide_eq_true c20
                        have c20b1 : decide (0 < (rd_L3 l0 x7_1).length) = true := decide_eq_true (by omega)
                        clear c20
                        by_cases c21 : (rd (rd_L3 l0 x8_1) 0) = (rd (rd_L3 l0 x7_1) 0)
                        · rw [if_pos c21] at H
                          have c21b0 : ((rd (rd_L3 l0 x8_1) 0) == (rd (rd_L3 l0 x7_1) 0)) = true := beq_iff_eq.mpr c21
                          have c21b1 : ((rd (rd_L3 l0 x8_1) 0) != (rd (rd_L3 l0 x7_1) 0)) = false := bne_eq_false_iff_eq.mpr c21
                          clear c21
                          by_cases c22 : 1 < ((rd_L3 l0 x8_1).length : Int)
                          · rw [if_pos c22] at H
                            have c22b0 : decide (1 < ((rd_L3 l0 x8_1).length : Int)) = true := decide_eq_true c22
                            have c22b1 : decide (1 < (rd_L3 l0 x8_1).length) = true := decide_eq_true (by omega)
                            clear c22
                            by_cases c23 : 1 < ((rd_L3 l0 x7_1).length : Int)
                            · rw [if_pos c23] at H
                              have c23b0 : decide (1 < ((rd_L3 l0 x7_1).length : Int)) = true := decide_eq_true c23
                              have c23b1 : decide (1 < (rd_L3 l0 x7_1).length) = true := decide_eq_true (by omega)
                              clear c23
                              have H' := Aside0.mk H
                              clear H
                              try go_wp2
                              have n0_ := Aside0.mk (Kd.R_drew HO_5.out)
                              have n1_ := Aside0.mk (below_drew1 HB.out)
                              clear HO_5
                              clear HB
                              have HO_5 := n0_
                              have HB := n1_
                              clear n0_ n1_
                              have p189 : 0 ≤ (x8_1 : Int) := of_decide_eq_true (by first | (with_reducible assumption) | assumption)
                              have q189 : x8_1 < (l0.length : Int) := of_decide_eq_true (by first | (with_reducible assumption) | assumption)
                              obtain ⟨ad189, A189_0, c189_0, e189, hx189_0, hl189_0, hi189_0⟩ := excelize_squashSqref.at_X HR0.out x8_1 p189 q189
                              have hw189_0 := hx189_0
                              cases e189
                              replace hx189_0 := (HB.out.cell (World.block_lt_of_cell? w _ hx189_0)).trans hx189_0
                              have HR189_0 := Aside0.mk hi189_0
                              have HC189_0 := Aside0.mk hl189_0
                              clear hi189_0 hl189_0
                              replace p189 := eq_true p189
                              replace q189 := eq_true q189
                              have p190 : 0 ≤ (0 : Int) := (by omega)
                              have q190 : 0 < ((rd_L3 l0 x8_1).length : Int) := of_decide_eq_true (by first | (with_reducible assumption) | assumption)
                              obtain ⟨ad190, e190, hx190_0⟩ := Kd.at_int HR189_0.out 0 p190 q190
                              have hw190_0 := hx190_0
                              (try rw [show ((0 : Int)).toNat = 0 from rfl] at hw190_0)
                              (try rw [show 0 * 1 = 0 from rfl] at hw190_0)
                              (try rw [Addr.add_zero'] at hw190_0)
                              cases e190
                              have qi190 : (0 < (rd_L3 l0 x8_1).length) = True := eq_true (by omega)
                              (try rw [show ((0 : Int)).toNat = 0 from rfl] at hx190_0)
                              (try rw [Addr.add_zero'] at hx190_0)
                              replace hx190_0 := (HB.out.cell (World.block_lt_of_cell? w _ hx190_0)).trans hx190_0
                              replace p190 := eq_true p190
                              replace q190 := eq_true q190
                              have p191 : 0 ≤ (x7_1 : Int) := of_decide_eq_true (by first | (with_reducible assumption) | assumption)
                              have q191 : x7_1 < (l0.length : Int) := of_decide_eq_true (by first | (with_reducible assumption) | assumption)
                              obtain ⟨ad191, A191_0, c191_0, e191, hx191_0, hl191_0, hi191_0⟩ := excelize_squashSqref.at_X HR0.out x7_1 p191 q191
                              have hw191_0 := hx191_0
                              obtain rfl : ad189 = ad191 := (by injection e191)
                              replace hx191_0 := (HB.out.cell (World.block_lt_of_cell? w _ hx191_0)).trans hx191_0
                              have HR191_0 := Aside0.mk hi191_0
                              have HC191_0 := Aside0.mk hl191_0
                              clear hi191_0 hl191_0
                              replace p191 := eq_true p191
                              replace q191 := eq_true q191
                              have p192 : 0 ≤ (0 : Int) := (by omega)
                              have q192 : 0 < ((rd_L3 l0 x7_1).length : Int) := of_decide_eq_true (by first | (with_reducible assumption) | assumption)
                              obtain ⟨ad192, e192, hx192_0⟩ := Kd.at_int HR191_0.out 0 p192 q192
                              have hw192_0 := hx192_0
                              (try rw [show ((0 : Int)).toNat = 0 from rfl] at hw192_0)
                              (try rw [show 0 * 1 = 0 from rfl] at hw192_0)
                              (try rw [Addr.add_zero'] at hw192_0)
                              cases e192
                              have qi192 : (0 < (rd_L3 l0 x7_1).length) = True := eq_true (by omega)
                              (try rw [show ((0 : Int)).toNat = 0 from rfl] at hx192_0)
                              (try rw [Addr.add_zero'] at hx192_0)
                              replace hx192_0 := (HB.out.cell (World.block_lt_of_cell? w _ hx192_0)).trans hx192_0
                              replace p192 := eq_true p192
                              replace q192 := eq_true q192
                              have p193 : 0 ≤ (x8_1 : Int) := of_decide_eq_true (by first | (with_reducible assumption) | assumption)
                              have q193 : x8_1 < (l0.length : Int) := of_decide_eq_true (by first | (with_reducible assumption) | assumption)
                              obtain ⟨ad193, A193_0, c193_0, e193, hx193_0, hl193_0, hi193_0⟩ := excelize_squashSqref.at_X HR0.out x8_1 p193 q193
                              have hw193_0 := hx193_0
                              obtain rfl : ad189 = ad193 := (by injection e193)
                              replace hx193_0 := (HB.out.cell (World.block_lt_of_cell? w _ hx193_0)).trans hx193_0
                              have HR193_0 := Aside0.mk hi193_0
                              have HC193_0 := Aside0.mk hl193_0
                              clear hi193_0 hl193_0
                              replace p193 := eq_true p193
                              replace q193 := eq_true q193
                              have ea_ := Option.some.inj (hx189_0.symm.trans hx193_0)
                              injection ea_ with ea_ en_ ec_
                              subst ea_
                              subst ec_
                              clear en_
                              have p194 : 0 ≤ (1 : Int) := (by omega)
                              have q194 : 1 < ((rd_L3 l0 x8_1).length : Int) := of_decide_eq_true (by first | (with_reducible assumption) | assumption)
                              obtain ⟨ad194, e194, hx194_0⟩ := Kd.at_int HR193_0.out 1 p194 q194
                              have hw194_0 := hx194_0
                              (try rw [show ((1 : Int)).toNat = 1 from rfl] at hw194_0)
                              (try rw [show 1 * 1 = 1 from rfl] at hw194_0)
                              (try simp only [Nat.reduceMul, Nat.reduceEqDiff, Go.Addr.add, ↓reduceIte] at hw194_0)
                              cases e194
                              (try simp only [show (1 : Int).toNat = 1 from rfl, Nat.reduceMul, Nat.reduceEqDiff, Go.Addr.add, ↓reduceIte] at hx194_0)
                              have qi194 : (1 < (rd_L3 l0 x8_1).length) = True := eq_true (by omega)
                              (try rw [show ((1 : Int)).toNat = 1 from rfl] at hx194_0)
                              replace hx194_0 := (HB.out.cell (World.block_lt_of_cell? w _ hx194_0)).trans hx194_0
                              replace p194 := eq_true p194
                              replace q194 := eq_true q194
                              have p195 : 0 ≤ (x7_1 : Int) := of_decide_eq_true (by first | (with_reducible assumption) | assumption)
                              have q195 : x7_1 < (l0.length : Int) := of_decide_eq_true (by first | (with_reducible assumption) | assumption)
                              obtain ⟨ad195, A195_0, c195_0, e195, hx195_0, hl195_0, hi195_0⟩ := excelize_squashSqref.at_X HR0.out x7_1 p195 q195
                              have hw195_0 := hx195_0
                              obtain rfl : ad189 = ad195 := (by injection e195)
                              replace hx195_0 := (HB.out.cell (World.block_lt_of_cell? w _ hx195_0)).trans hx195_0
                              have HR195_0 := Aside0.mk hi195_0
                              have HC195_0 := Aside0.mk hl195_0
                              clear hi195_0 hl195_0
                              replace p195 := eq_true p195
                              replace q195 := eq_true q195
                              have ea_ := Option.some.inj (hx191_0.symm.trans hx195_0)
                              injection ea_ with ea_ en_ ec_
                              subst ea_
                              subst ec_
                              clear en_
                              have p196 : 0 ≤ (1 : Int) := (by omega)
                              have q196 : 1 < ((rd_L3 l0 x7_1).length : Int) := of_decide_eq_true (by first | (with_reducible assumption) | assumption)
                              obtain ⟨ad196, e196, hx196_0⟩ := Kd.at_int HR195_0.out 1 p196 q196
                              have hw196_0 := hx196_0
                              (try rw [show ((1 : Int)).toNat = 1 from rfl] at hw196_0)
                              (try rw [show 1 * 1 = 1 from rfl] at hw196_0)
                              (try simp only [Nat.reduceMul, Nat.reduceEqDiff, Go.Addr.add, ↓reduceIte] at hw196_0)
                              cases e196
                              (try simp only [show (1 : Int).toNat = 1 from rfl, Nat.reduceMul, Nat.reduceEqDiff, Go.Addr.add, ↓reduceIte] at hx196_0)
                              have qi196 : (1 < (rd_L3 l0 x7_1).length) = True := eq_true (by omega)
                              (try rw [show ((1 : Int)).toNat = 1 from rfl] at hx196_0)
                              replace hx196_0 := (HB.out.cell (World.block_lt_of_cell? w _ hx196_0)).trans hx196_0
                              replace p196 := eq_true p196
                              replace q196 := eq_true q196
                              refine start_ (n := 29) (S := fun w' => w'.cell? (ad189.add (x8_1).toNat) = some (.slice (some ad190) (rd_L3 l0 x8_1).length c189_0) ∧ w'.cell? ad190 = some (.int .i64 (rd (rd_L3 l0 x8_1) 0)) ∧ w'.cell? (ad189.add (x7_1).toNat) = some (.slice (some ad192) (rd_L3 l0 x7_1).length c191_0) ∧ w'.cell? ad192 = some (.int .i64 (rd (rd_L3 l0 x7_1) 0)) ∧ w'.cell? (ad189.add (x8_1).toNat) = some (.slice (some ad190) (rd_L3 l0 x8_1).length c189_0) ∧ w'.cell? ⟨ad190.block, ad190.off + 1, none⟩ = some (.int .i64 (rd (rd_L3 l0 x8_1) 1)) ∧ w'.cell? (ad189.add (x7_1).toNat) = some (.slice (some ad192) (rd_L3 l0 x7_1).length c191_0) ∧ w'.cell? ⟨ad192.block, ad192.off + 1, none⟩ = some (.int .i64 (rd (rd_L3 l0 x7_1) 1))) (ds := []) #[false, false, false, false, false, false, false, false, false, false, false, false, false, false, false, false, false, false, false, false, false, false, false, false, false, false, false, false, false] (by kernel_rfl) rfl rfl ⟨((HB.out.cell (World.block_lt_of_cell? w _ hw189_0)).trans hw189_0), ((HB.out.cell (World.block_lt_of_cell? w _ hw190_0)).trans hw190_0), ((HB.out.cell (World.block_lt_of_cell? w _ hw191_0)).trans hw191_0), ((HB.out.cell (World.block_lt_of_cell? w _ hw192_0)).trans hw192_0), ((HB.out.cell (World.block_lt_of_cell? w _ hw193_0)).trans hw193_0), ((HB.out.cell (World.block_lt_of_cell? w _ hw194_0)).trans hw194_0), ((HB.out.cell (World.block_lt_of_cell? w _ hw195_0)).trans hw195_0), ((HB.out.cell (World.block_lt_of_cell? w _ hw196_0)).trans hw196_0)⟩ (fun hHeld => ?_); refine with_tabW excelize_squashSqref.tab11 excelize_squashSqref.bits11 (fun HT_ HW_ => ?_)
                              generalize wr.drew = w24 at HO_5 HB HR189_0 HR191_0 HR193_0 HR195_0 hx189_0 hx190_0 hx191_0 hx192_0 hx193_0 hx194_0 hx195_0 hx196_0 hHeld ⊢
                              refine pure_ (i := 0) (N := some 42) (v := ?_) (a' := ?_) #[true, false, false, false, false, false, false, false, false, false, false, false, false, false, false, false, false, false, false, false, false, false, false, false, false, false, false, false, false] rfl rfl (any_of HT_.out (by kernel_rfl)) (fun _ _ _ h => h) (Or.inl ⟨by rfl, ?_⟩) ?_ ?_
                              rotate_left
                              · intro w'
                                go_simp
                                with_reducible rfl
                              rotate_left
                              · simp only [Act.put, List.setIfInBounds_toArray, List.set_cons_zero, List.set_cons_succ, i64_w, i32_w]
                                rfl
                              refine pure_ (i := 1) (N := some 43) (v := ?_) (a' := ?_) #[true, true, false, false, false, false, false, false, false, false, false, false, false, false, false, false, false, false, false, false, false, false, false, false, false, false, false, false, false] rfl rfl (any_of HT_.out (by kernel_rfl)) (fun _ _ _ h => h) (Or.inl ⟨by rfl, ?_⟩) ?_ ?_
                              rotate_left
                              · intro w'
                                go_simp
                                with_reducible rfl
                              rotate_left
                              · simp only [Act.put, List.setIfInBounds_toArray, List.set_cons_zero, List.set_cons_succ, i64_w, i32_w]
                                rfl
                              refine pure_ (i := 2) (N := some 44) (v := ?_) (a' := ?_) #[true, true, true, false, false, false, false, false, false, false, false, false, false, false, false, false, false, false, false, false, false, false, false, false, false, false, false, false, false] rfl rfl (any_of HT_.out (by kernel_rfl)) (fun _ _ _ h => h) (Or.inl ⟨by rfl, ?_⟩) ?_ ?_
                              rotate_left
                              · intro w'
                                go_simp
                                with_reducible rfl
                              rotate_left
                              · simp only [Act.put, List.setIfInBounds_toArray, List.set_cons_zero, List.set_cons_succ, i64_w, i32_w]
                                rfl
                              refine pure_ (i := 6) (N := some 48) (v := ?_) (a' := ?_) #[true, true, true, false, false, false, true, false, false, false, false, false, false, false, false, false, false, false, false, false, false, false, false, false, false, false, false, false, false] rfl rfl (any_of HT_.out (by kernel_rfl)) (fun _ _ _ h => h) (Or.inl ⟨by rfl, ?_⟩) ?_ ?_
                              rotate_left
                              · intro w'
                                go_simp
                                with_reducible rfl
                              rotate_left
                              · simp only [Act.put, List.setIfInBounds_toArray, List.set_cons_zero, List.set_cons_succ, i64_w, i32_w]
                                rfl
                              refine pure_ (i := 7) (N := some 49) (v := ?_) (a' := ?_) #[true, true, true, false, false, false, true, true, false, false, false, false, false, false, false, false, false, false, false, false, false, false, false, false, false, false, false, false, false] rfl rfl (any_of HT_.out (by kernel_rfl)) (fun _ _ _ h => h) (Or.inl ⟨by rfl, ?_⟩) ?_ ?_
                              rotate_left
                              · intro w'
                                go_simp
                                with_reducible rfl
                              rotate_left
                              · simp only [Act.put, List.setIfInBounds_toArray, List.set_cons_zero, List.set_cons_succ, i64_w, i32_w]
                                rfl
                              refine pure_ (i := 8) (N := some 50) (v := ?_) (a' := ?_) #[true, true, true, false, false, false, true, true, true, false, false, false, false, false, false, false, false, false, false, false, false, false, false, false, false, false, false, false, false] rfl rfl (any_of HT_.out (by kernel_rfl)) (fun _ _ _ h => h) (Or.inl ⟨by rfl, ?_⟩) ?_ ?_
                              rotate_left
                              · intro w'
                                go_simp
                                with_reducible rfl
                              rotate_left
                              · simp only [Act.put, List.setIfInBounds_toArray, List.set_cons_zero, List.set_cons_succ, i64_w, i32_w]
                                rfl
                              refine take_ (i := 3) (N := some 45) (v := ?_) (a' := ?_) #[true, true, true, true, false, false, true, true, true, false, false, false, false, false, false, false, false, false, false, false, false, false, false, false, false, false, false, false, false] rfl rfl (take_ofW HT_.out HW_.out (by kernel_rfl)) (fun _ _ _ h => h) (Or.inl ⟨by rfl, ?_⟩) hHeld ?_ ?_
                              rotate_left
                              · rintro w' ⟨s0, s1, s2, s3, s4, s5, s6, s7⟩
                                go_simp
                                with_reducible rfl
                              rotate_left
                              · simp only [Act.put, List.setIfInBounds_toArray, List.set_cons_zero, List.set_cons_succ, i64_w, i32_w]
                                rfl
                              refine pure_ (i := 4) (N := some 46) (v := ?_) (a' := ?_) #[true, true, true, true, true, false, true, true, true, false, false, false, false, false, false, false, false, false, false, false, false, false, false, false, false, false, false, false, false] rfl rfl (any_of HT_.out (by kernel_rfl)) (fun _ _ _ h => h) (Or.inl ⟨by rfl, ?_⟩) ?_ ?_
                              rotate_left
                              · intro w'
                                go_simp
                                with_reducible rfl
                              rotate_left
                              · simp only [Act.put, List.setIfInBounds_toArray, List.set_cons_zero, List.set_cons_succ, i64_w, i32_w]
                                rfl
                              refine take_ (i := 5) (N := some 47) (v := ?_) (a' := ?_) #[true, true, true, true, true, true, true, true, true, false, false, false, false, false, false, false, false, false, false, false, false, false, false, false, false, false, false, false, false] rfl rfl (take_ofW HT_.out HW_.out (by kernel_rfl)) (fun _ _ _ h => h) (Or.inl ⟨by rfl, ?_⟩) hHeld ?_ ?_
                              rotate_left
                              · rintro w' ⟨s0, s1, s2, s3, s4, s5, s6, s7⟩
                                go_simp
                                with_reducible rfl
                              rotate_left
                              · simp only [Act.put, List.setIfInBounds_toArray, List.set_cons_zero, List.set_cons_succ, i64_w, i32_w]
                                rfl
                              refine take_ (i := 9) (N := some 51) (v := ?_) (a' := ?_) #[true, true, true, true, true, true, true, true, true, true, false, false, false, false, false, false, false, false, false, false, false, false, false, false, false, false, false, false, false] rfl rfl (take_ofW HT_.out HW_.out (by kernel_rfl)) (fun _ _ _ h => h) (Or.inl ⟨by rfl, ?_⟩) hHeld ?_ ?_
                              rotate_left
                              · rintro w' ⟨s0, s1, s2, s3, s4, s5, s6, s7⟩
                                go_simp
                                with_reducible rfl
                              rotate_left
                              · simp only [Act.put, List.setIfInBounds_toArray, List.set_cons_zero, List.set_cons_succ, i64_w, i32_w]
                                rfl
                              refine pure_ (i := 10) (N := some 52) (v := ?_) (a' := ?_) #[true, true, true, true, true, true, true, true, true, true, true, false, false, false, false, false, false, false, false, false, false, false, false, false, false, false, false, false, false] rfl rfl (any_of HT_.out (by kernel_rfl)) (fun _ _ _ h => h) (Or.inl ⟨by rfl, ?_⟩) ?_ ?_
                              rotate_left
                              · intro w'
                                go_simp
                                with_reducible rfl
                              rotate_left
                              · simp only [Act.put, List.setIfInBounds_toArray, List.set_cons_zero, List.set_cons_succ, i64_w, i32_w]
                                rfl
                              refine take_ (i := 11) (N := some 53) (v := ?_) (a' := ?_) #[true, true, true, true, true, true, true, true, true, true, true, true, false, false, false, false, false, false, false, false, false, false, false, false, false, false, false, false, false] rfl rfl (take_ofW HT_.out HW_.out (by kernel_rfl)) (fun _ _ _ h => h) (Or.inl ⟨by rfl, ?_⟩) hHeld ?_ ?_
                              rotate_left
                              · rintro w' ⟨s0, s1, s2, s3, s4, s5, s6, s7⟩
                                go_simp
                                with_reducible rfl
                              rotate_left
                              · simp only [Act.put, List.setIfInBounds_toArray, List.set_cons_zero, List.set_cons_succ, i64_w, i32_w]
                                rfl
                              refine pure_ (i := 12) (N := some 54) (v := ?_) (a' := ?_) #[true, true, true, true, true, true, true, true, true, true, true, true, true, false, false, false, false, false, false, false, false, false, false, false, false, false, false, false, false] rfl rfl (any_of HT_.out (by kernel_rfl)) (fun _ _ _ h => h) (Or.inl ⟨by rfl, ?_⟩) ?_ ?_
                              rotate_left
                              · intro w'
                                go_simp
                                with_reducible rfl
                              rotate_left
                              · simp only [Act.put, List.setIfInBounds_toArray, List.set_cons_zero, List.set_cons_succ, i64_w, i32_w]
                                rfl
                              refine pure_ (i := 13) (N := some 55) (v := ?_) (a' := ?_) #[true, true, true, true, true, true, true, true, true, true, true, true, true, true, false, false, false, false, false, false, false, false, false, false, false, false, false, false, false] rfl rfl (any_of HT_.out (by kernel_rfl)) (fun _ _ _ h => h) (Or.inl ⟨by rfl, ?_⟩) ?_ ?_
                              rotate_left
                              · intro w'
                                go_simp
                                with_reducible rfl
                              rotate_left
                              · simp only [Act.put, List.setIfInBounds_toArray, List.set_cons_zero, List.set_cons_succ, i64_w, i32_w]
                                rfl
                              refine pure_ (i := 14) (N := some 56) (v := ?_) (a' := ?_) #[true, true, true, true, true, true, true, true, true, true, true, true, true, true, true, false, false, false, false, false, false, false, false, false, false, false, false, false, false] rfl rfl (any_of HT_.out (by kernel_rfl)) (fun _ _ _ h => h) (Or.inl ⟨by rfl, ?_⟩) ?_ ?_
                              rotate_left
                              · intro w'
                                go_simp
                                with_reducible rfl
                              rotate_left
                              · simp only [Act.put, List.setIfInBounds_toArray, List.set_cons_zero, List.set_cons_succ, i64_w, i32_w]
                                rfl
                              refine pure_ (i := 15) (N := some 57) (v := ?_) (a' := ?_) #[true, true, true, true, true, true, true, true, true, true, true, true, true, true, true, true, false, false, false, false, false, false, false, false, false, false, false, false, false] rfl rfl (any_of HT_.out (by kernel_rfl)) (fun _ _ _ h => h) (Or.inl ⟨by rfl, ?_⟩) ?_ ?_
                              rotate_left
                              · intro w'
                                go_simp
                                with_reducible rfl
                              rotate_left
                              · simp only [Act.put, List.setIfInBounds_toArray, List.set_cons_zero, List.set_cons_succ, i64_w, i32_w]
                                rfl
                              refine pure_ (i := 16) (N := some 58) (v := ?_) (a' := ?_) #[true, true, true, true, true, true, true, true, true, true, true, true, true, true, true, true, true, false, false, false, false, false, false, false, false, false, false, false, false] rfl rfl (any_of HT_.out (by kernel_rfl)) (fun _ _ _ h => h) (Or.inl ⟨by rfl, ?_⟩) ?_ ?_
                              rotate_left
                              · intro w'
                                go_simp
                                with_reducible rfl
                              rotate_left
                              · simp only [Act.put, List.setIfInBounds_toArray, List.set_cons_zero, List.set_cons_succ, i64_w, i32_w]
                                rfl
                              refine pure_ (i := 20) (N := some 62) (v := ?_) (a' := ?_) #[true, true, true, true, true, true, true, true, true, true, true, true, true, true, true, true, true, false, false, false, true, false, false, false, false, false, false, false, false] rfl rfl (any_of HT_.out (by kernel_rfl)) (fun _ _ _ h => h) (Or.inl ⟨by rfl, ?_⟩) ?_ ?_
                              rotate_left
                              · intro w'
                                go_simp
                                with_reducible rfl
                              rotate_left
                              · simp only [Act.put, List.setIfInBounds_toArray, List.set_cons_zero, List.set_cons_succ, i64_w, i32_w]
                                rfl
                              refine pure_ (i := 21) (N := some 63) (v := ?_) (a' := ?_) #[true, true, true, true, true, true, true, true, true, true, true, true, true, true, true, true, true, false, false, false, true, true, false, false, false, false, false, false, false] rfl rfl (any_of HT_.out (by kernel_rfl)) (fun _ _ _ h => h) (Or.inl ⟨by rfl, ?_⟩) ?_ ?_
                              rotate_left
                              · intro w'
                                go_simp
                                with_reducible rfl
                              rotate_left
                              · simp only [Act.put, List.setIfInBounds_toArray, List.set_cons_zero, List.set_cons_succ, i64_w, i32_w]
                                rfl
                              refine pure_ (i := 22) (N := some 64) (v := ?_) (a' := ?_) #[true, true, true, true, true, true, true, true, true, true, true, true, true, true, true, true, true, false, false, false, true, true, true, false, false, false, false, false, false] rfl rfl (any_of HT_.out (by kernel_rfl)) (fun _ _ _ h => h) (Or.inl ⟨by rfl, ?_⟩) ?_ ?_
                              rotate_left
                              · intro w'
                                go_simp
                                with_reducible rfl
                              rotate_left
                              · simp only [Act.put, List.setIfInBounds_toArray, List.set_cons_zero, List.set_cons_succ, i64_w, i32_w]
                                rfl
                              refine take_ (i := 17) (N := some 59) (v := ?_) (a' := ?_) #[true, true, true, true, true, true, true, true, true, true, true, true, true, true, true, true, true, true, false, false, true, true, true, false, false, false, false, false, false] rfl rfl (take_ofW HT_.out HW_.out (by kernel_rfl)) (fun _ _ _ h => h) (Or.inl ⟨by rfl, ?_⟩) hHeld ?_ ?_
                              rotate_left
                              · rintro w' ⟨s0, s1, s2, s3, s4, s5, s6, s7⟩
                                go_simp
                                with_reducible rfl
                              rotate_left
                              · simp only [Act.put, List.setIfInBounds_toArray, List.set_cons_zero, List.set_cons_succ, i64_w, i32_w]
                                rfl
                              refine pure_ (i := 18) (N := some 60) (v := ?_) (a' := ?_) #[true, true, true, true, true, true, true, true, true, true, true, true, true, true, true, true, true, true, true, false, true, true, true, false, false, false, false, false, false] rfl rfl (any_of HT_.out (by kernel_rfl)) (fun _ _ _ h => h) (Or.inl ⟨by rfl, ?_⟩) ?_ ?_
                              rotate_left
                              · intro w'
                                go_simp
                                with_reducible rfl
                              rotate_left
                              · simp only [Act.put, List.setIfInBounds_toArray, List.set_cons_zero, List.set_cons_succ, i64_w, i32_w]
                                rfl
                              refine take_ (i := 19) (N := some 61) (v := ?_) (a' := ?_) #[true, true, true, true, true, true, true, true, true, true, true, true, true, true, true, true, true, true, true, true, true, true, true, false, false, false, false, false, false] rfl rfl (take_ofW HT_.out HW_.out (by kernel_rfl)) (fun _ _ _ h => h) (Or.inl ⟨by rfl, ?_⟩) hHeld ?_ ?_
                              rotate_left
                              · rintro w' ⟨s0, s1, s2, s3, s4, s5, s6, s7⟩
                                go_simp
                                with_reducible rfl
                              rotate_left
                              · simp only [Act.put, List.setIfInBounds_toArray, List.set_cons_zero, List.set_cons_succ, i64_w, i32_w]
                                rfl
                              refine take_ (i := 23) (N := some 65) (v := ?_) (a' := ?_) #[true, true, true, true, true, true, true, true, true, true, true, true, true, true, true, true, true, true, true, true, true, true, true, true, false, false, false, false, false] rfl rfl (take_ofW HT_.out HW_.out (by kernel_rfl)) (fun _ _ _ h => h) (Or.inl ⟨by rfl, ?_⟩) hHeld ?_ ?_
                              rotate_left
                              · rintro w' ⟨s0, s1, s2, s3, s4, s5, s6, s7⟩
                                go_simp
                                with_reducible rfl
                              rotate_left
                              · simp only [Act.put, List.setIfInBounds_toArray, List.set_cons_zero, List.set_cons_succ, i64_w, i32_w]
                                rfl
                              refine pure_ (i := 24) (N := some 66) (v := ?_) (a' := ?_) #[true, true, true, true, true, true, true, true, true, true, true, true, true, true, true, true, true, true, true, true, true, true, true, true, true, false, false, false, false] rfl rfl (any_of HT_.out (by kernel_rfl)) (fun _ _ _ h => h) (Or.inl ⟨by rfl, ?_⟩) ?_ ?_
                              rotate_left
                              · intro w'
                                go_simp
                                with_reducible rfl
                              rotate_left
                              · simp only [Act.put, List.setIfInBounds_toArray, List.set_cons_zero, List.set_cons_succ, i64_w, i32_w]
                                rfl
                              refine take_ (i := 25) (N := some 67) (v := ?_) (a' := ?_) #[true, true, true, true, true, true, true, true, true, true, true, true, true, true, true, true, true, true, true, true, true, true, true, true, true, true, false, false, false] rfl rfl (take_ofW HT_.out HW_.out (by kernel_rfl)) (fun _ _ _ h => h) (Or.inl ⟨by rfl, ?_⟩) hHeld ?_ ?_
                              rotate_left
                              · rintro w' ⟨s0, s1, s2, s3, s4, s5, s6, s7⟩
                                go_simp
                                with_reducible rfl
                              rotate_left
                              · simp only [Act.put, List.setIfInBounds_toArray, List.set_cons_zero, List.set_cons_succ, i64_w, i32_w]
                                rfl
                              refine pure_ (i := 26) (N := some 68) (v := ?_) (a' := ?_) #[true, true, true, true, true, true, true, true, true, true, true, true, true, true, true, true, true, true, true, true, true, true, true, true, true, true, true, false, false] rfl rfl (any_of HT_.out (by kernel_rfl)) (fun _ _ _ h => h) (Or.inl ⟨by rfl, ?_⟩) ?_ ?_
                              rotate_left
                              · intro w'
                                go_simp
                                with_reducible rfl
                              rotate_left
                              · simp only [Act.put, List.setIfInBounds_toArray, List.set_cons_zero, List.set_cons_succ, i64_w, i32_w]
                                rfl
                              refine pure_ (i := 27) (N := some 69) (v := ?_) (a' := ?_) #[true, true, true, true, true, true, true, true, true, true, true, true, true, true, true, true, true, true, true, true, true, true, true, true, true, true, true, true, false] rfl rfl (any_of HT_.out (by kernel_rfl)) (fun _ _ _ h => h) (Or.inl ⟨by rfl, ?_⟩) ?_ ?_
                              rotate_left
                              · intro w'
                                go_simp
                                with_reducible rfl
                              rotate_left
                              · simp only [Act.put, List.setIfInBounds_toArray, List.set_cons_zero, List.set_cons_succ, i64_w, i32_w]
                                rfl
                              refine pure_ (i := 28) (N := some 70) (v := ?_) (a' := ?_) #[true, true, true, true, true, true, true, true, true, true, true, true, true, true, true, true, true, true, true, true, true, true, true, true, true, true, true, true, true] rfl rfl (any_of HT_.out (by kernel_rfl)) (fun _ _ _ h => h) (Or.inl ⟨by rfl, ?_⟩) ?_ ?_
                              rotate_left
                              · intro w'
                                go_simp
                                with_reducible rfl
                              rotate_left
                              · simp only [Act.put, List.setIfInBounds_toArray, List.set_cons_zero, List.set_cons_succ, i64_w, i32_w]
                                rfl
                              refine done_ (done_of HT_.out (by kernel_rfl)) ?_
                              try go_wp2
                              go_meet
                              case rel => exact ⟨_, (decide ((wrap64 ((rd (rd_L3 l0 x8_1) 1) - (rd (rd_L3 l0 x7_1) 1))) > 1)), (by first | rfl | (simp; done) | (simp [*]; done)), H', ⟨by have := HK1.out; first | omega | exact Nat.le_refl _⟩, ⟨by (with_reducible repeat (first | apply Kd.R_alloc | apply Kd.R_drewN | apply Kd.R_drew)); exact HO_5.out⟩, ⟨by repeat (first | (with_reducible first | exact HB.out | apply below_alloc | apply pw_below_drewN | apply below_drew1) | exact HB.out)⟩⟩
                            · rw [if_neg c23] at H
                              exact absurd H (by simp)
                          · rw [if_neg c22] at H
                            exact absurd H (by simp)
                        · rw [if_neg c21] at H
                          have c21b0 : ((rd (rd_L3 l0 x8_1) 0) == (rd (rd_L3 l0 x7_1) 0)) = false := beq_eq_false_iff_ne.mpr c21
                          have c21b1 : ((rd (rd_L3 l0 x8_1) 0) != (rd (rd_L3 l0 x7_1) 0)) = true := bne_iff_ne.mpr c21
                          have H' := Aside0.mk H
                          clear H
                          try go_wp2
                          have n0_ := Aside0.mk (Kd.R_drew HO_5.out)
                          have n1_ := Aside0.mk (below_drew1 HB.out)
                          clear HO_5
                          clear HB
                          have HO_5 := n0_
                          have HB := n1_
                          clear n0_ n1_
                          have p189 : 0 ≤ (x8_1 : Int) := of_decide_eq_true (by first | (with_reducible assumption) | assumption)
                          have q189 : x8_1 < (l0.length : Int) := of_decide_eq_true (by first | (with_reducible assumption) | assumption)
                          obtain ⟨ad189, A189_0, c189_0, e189, hx189_0, hl189_0, hi189_0⟩ := excelize_squashSqref.at_X HR0.out x8_1 p189 q189
                          have hw189_0 := hx189_0
                          cases e189
                          replace hx189_0 := (HB.out.cell (World.block_lt_of_cell? w _ hx189_0)).trans hx189_0
                          have HR189_0 := Aside0.mk hi189_0
                          have HC189_0 := Aside0.mk hl189_0
                          clear hi189_0 hl189_0
                          replace p189 := eq_true p189
                          replace q189 := eq_true q189
                          have p190 : 0 ≤ (0 : Int) := (by omega)
                          have q190 : 0 < ((rd_L3 l0 x8_1).length : Int) := of_decide_eq_true (by first | (with_reducible assumption) | assumption)
                          obtain ⟨ad190, e190, hx190_0⟩ := Kd.at_int HR189_0.out 0 p190 q190
                          have hw190_0 := hx190_0
                          (try rw [show ((0 : Int)).toNat = 0 from rfl] at hw190_0)
                          (try rw [show 0 * 1 = 0 from rfl] at hw190_0)
                          (try rw [Addr.add_zero'] at hw190_0)
                          cases e190
                          have qi190 : (0 < (rd_L3 l0 x8_1).length) = True := eq_true (by omega)
                          (try rw [show ((0 : Int)).toNat = 0 from rfl] at hx190_0)
                          (try rw [Addr.add_zero'] at hx190_0)
                          replace hx190_0 := (HB.out.cell (World.block_lt_of_cell? w _ hx190_0)).trans hx190_0
                          replace p190 := eq_true p190
                          replace q190 := eq_true q190
                          have p191 : 0 ≤ (x7_1 : Int) := of_decide_eq_true (by first | (with_reducible assumption) | assumption)
                          have q191 : x7_1 < (l0.length : Int) := of_decide_eq_true (by first | (with_reducible assumption) | assumption)
                          obtain ⟨ad191, A191_0, c191_0, e191, hx191_0, hl191_0, hi191_0⟩ := excelize_squashSqref.at_X HR0.out x7_1 p191 q191
                          have hw191_0 := hx191_0
                          obtain rfl : ad189 = ad191 := (by injection e191)
                          replace hx191_0 := (HB.out.cell (World.block_lt_of_cell? w _ hx191_0)).trans hx191_0
                          have HR191_0 := Aside0.mk hi191_0
                          have HC191_0 := Aside0.mk hl191_0
                          clear hi191_0 hl191_0
                          replace p191 := eq_true p191
                          replace q191 := eq_true q191
                          have p192 : 0 ≤ (0 : Int) := (by omega)
                          have q192 : 0 < ((rd_L3 l0 x7_1).length : Int) := of_decide_eq_true (by first | (with_reducible assumption) | assumption)
                          obtain ⟨ad192, e192, hx192_0⟩ := Kd.at_int HR191_0.out 0 p192 q192
                          have hw192_0 := hx192_0
                          (try rw [show ((0 : Int)).toNat = 0 from rfl] at hw192_0)
                          (try rw [show 0 * 1 = 0 from rfl] at hw192_0)
                          (try rw [Addr.add_zero'] at hw192_0)
                          cases e192
                          have qi192 : (0 < (rd_L3 l0 x7_1).length) = True := eq_true (by omega)
                          (try rw [show ((0 : Int)).toNat = 0 from rfl] at hx192_0)
                          (try rw [Addr.add_zero'] at hx192_0)
                          replace hx192_0 := (HB.out.cell (World.block_lt_of_cell? w _ hx192_0)).trans hx192_0
                          replace p192 := eq_true p192
                          replace q192 := eq_true q192
                          refine start_ (n := 29) (S := fun w' => w'.cell? (ad189.add (x8_1).toNat) = some (.slice (some ad190) (rd_L3 l0 x8_1).length c189_0) ∧ w'.cell? ad190 = some (.int .i64 (rd (rd_L3 l0 x8_1) 0)) ∧ w'.cell? (ad189.add (x7_1).toNat) = some (.slice (some ad192) (rd_L3 l0 x7_1).length c191_0) ∧ w'.cell? ad192 = some (.int .i64 (rd (rd_L3 l0 x7_1) 0))) (ds := []) #[false, false, false, false, false, false, false, false, false, false, false, false, false, false, false, false, false, false, false, false, false, false, false, false, false, false, false, false, false] (by kernel_rfl) rfl rfl ⟨((HB.out.cell (World.block_lt_of_cell? w _ hw189_0)).trans hw189_0), ((HB.out.cell (World.block_lt_of_cell? w _ hw190_0)).trans hw190_0), ((HB.out.cell (World.block_lt_of_cell? w _ hw191_0)).trans hw191_0), ((HB.out.cell (World.block_lt_of_cell? w _ hw192_0)).trans hw192_0)⟩ (fun hHeld => ?_); refine with_tabW excelize_squashSqref.tab11 excelize_squashSqref.bits11 (fun HT_ HW_ => ?_)
                          generalize wr.drew = w25 at HO_5 HB HR189_0 HR191_0 hx189_0 hx190_0 hx191_0 hx192_0 hHeld ⊢
                          refine pure_ (i := 0) (N := some 42) (v := ?_) (a' := ?_) #[true, false, false, false, false, false, false, false, false, false, false, false, false, false, false, false, false, false, false, false, false, false, false, false, false, false, false, false, false] rfl rfl (any_of HT_.out (by kernel_rfl)) (fun _ _ _ h => h) (Or.inl ⟨by rfl, ?_⟩) ?_ ?_
                          rotate_left
                          · intro w'
                            go_simp
                            with_reducible rfl
                          rotate_left
                          · simp only [Act.put, List.setIfInBounds_toArray, List.set_cons_zero, List.set_cons_succ, i64_w, i32_w]
                            rfl
                          refine pure_ (i := 1) (N := some 43) (v := ?_) (a' := ?_) #[true, true, false, false, false, false, false, false, false, false, false, false, false, false, false, false, false, false, false, false, false, false, false, false, false, false, false, false, false] rfl rfl (any_of HT_.out (by kernel_rfl)) (fun _ _ _ h => h) (Or.inl ⟨by rfl, ?_⟩) ?_ ?_
                          rotate_left
                          · intro w'
                            go_simp
                            with_reducible rfl
                          rotate_left
                          · simp only [Act.put, List.setIfInBounds_toArray, List.set_cons_zero, List.set_cons_succ, i64_w, i32_w]
                            rfl
                          refine pure_ (i := 2) (N := some 44) (v := ?_) (a' := ?_) #[true, true, true, false, false, false, false, false, false, false, false, false, false, false, false, false, false, false, false, false, false, false, false, false, false, false, false, false, false] rfl rfl (any_of HT_.out (by kernel_rfl)) (fun _ _ _ h => h) (Or.inl ⟨by rfl, ?_⟩) ?_ ?_
                          rotate_left
                          · intro w'
                            go_simp
                            with_reducible rfl
                          rotate_left
                          · simp only [Act.put, List.setIfInBounds_toArray, List.set_cons_zero, List.set_cons_succ, i64_w, i32_w]
                            rfl
                          refine pure_ (i := 6) (N := some 48) (v := ?_) (a' := ?_) #[true, true, true, false, false, false, true, false, false, false, false, false, false, false, false, false, false, false, false, false, false, false, false, false, false, false, false, false, false] rfl rfl (any_of HT_.out (by kernel_rfl)) (fun _ _ _ h => h) (Or.inl ⟨by rfl, ?_⟩) ?_ ?_
                          rotate_left
                          · intro w'
                            go_simp
                            with_reducible rfl
                          rotate_left
                          · simp only [Act.put, List.setIfInBounds_toArray, List.set_cons_zero, List.set_cons_succ, i64_w, i32_w]
                            rfl
                          refine pure_ (i := 7) (N := some 49) (v := ?_) (a' := ?_) #[true, true, true, false, false, false, true, true, false, false, false, false, false, false, false, false, false, false, false, false, false, false, false, false, false, false, false, false, false] rfl rfl (any_of HT_.out (by kernel_rfl)) (fun _ _ _ h => h) (Or.inl ⟨by rfl, ?_⟩) ?_ ?_
                          rotate_left
                          · intro w'
                            go_simp
                            with_reducible rfl
                          rotate_left
                          · simp only [Act.put, List.setIfInBounds_toArray, List.set_cons_zero, List.set_cons_succ, i64_w, i32_w]
                            rfl
                          refine pure_ (i := 8) (N := some 50) (v := ?_) (a' := ?_) #[true, true, true, false, false, false, true, true, true, false, false, false, false, false, false, false, false, false, false, false, false, false, false, false, false, false, false, false, false] rfl rfl (any_of HT_.out (by kernel_rfl)) (fun _ _ _ h => h) (Or.inl ⟨by rfl, ?_⟩) ?_ ?_
                          rotate_left
                          · intro w'
                            go_simp
                            with_reducible rfl
                          rotate_left
                          · simp only [Act.put, List.setIfInBounds_toArray, List.set_cons_zero, List.set_cons_succ, i64_w, i32_w]
                            rfl
                          refine take_ (i := 3) (N := some 45) (v := ?_) (a' := ?_) #[true, true, true, true, false, false, true, true, true, false, false, false, false, false, false, false, false, false, false, false, false, false, false, false, false, false, false, false, false] rfl rfl (take_ofW HT_.out HW_.out (by kernel_rfl)) (fun _ _ _ h => h) (Or.inl ⟨by rfl, ?_⟩) hHeld ?_ ?_
                          rotate_left
                          · rintro w' ⟨s0, s1, s2, s3⟩
                            go_simp
                            with_reducible rfl
                          rotate_left
                          · simp only [Act.put, List.setIfInBounds_toArray, List.set_cons_zero, List.set_cons_succ, i64_w, i32_w]
                            rfl
                          refine pure_ (i := 4) (N := some 46) (v := ?_) (a' := ?_) #[true, true, true, true, true, false, true, true, true, false, false, false, false, false, false, false, false, false, false, false, false, false, false, false, false, false, false, false, false] rfl rfl (any_of HT_.out (by kernel_rfl)) (fun _ _ _ h => h) (Or.inl ⟨by rfl, ?_⟩) ?_ ?_
                          rotate_left
                          · intro w'
                            go_simp
                            with_reducible rfl
                          rotate_left
                          · simp only [Act.put, List.setIfInBounds_toArray, List.set_cons_zero, List.set_cons_succ, i64_w, i32_w]
                            rfl
                          refine take_ (i := 5) (N := some 47) (v := ?_) (a' := ?_) #[true, true, true, true, true, true, true, true, true, false, false, false, false, false, false, false, false, false, false, false, false, false, false, false, false, false, false, false, false] rfl rfl (take_ofW HT_.out HW_.out (by kernel_rfl)) (fun _ _ _ h => h) (Or.inl ⟨by rfl, ?_⟩) hHeld ?_ ?_
                          rotate_left
                          · rintro w' ⟨s0, s1, s2, s3⟩
                            go_simp
                            with_reducible rfl
                          rotate_left
                          · simp only [Act.put, List.setIfInBounds_toArray, List.set_cons_zero, List.set_cons_succ, i64_w, i32_w]
                            rfl
                          refine take_ (i := 9) (N := some 51) (v := ?_) (a' := ?_) #[true, true, true, true, true, true, true, true, true, true, false, false, false, false, false, false, false, false, false, false, false, false, false, false, false, false, false, false, false] rfl rfl (take_ofW HT_.out HW_.out (by kernel_rfl)) (fun _ _ _ h => h) (Or.inl ⟨by rfl, ?_⟩) hHeld ?_ ?_
                          rotate_left
                          · rintro w' ⟨s0, s1, s2, s3⟩
                            go_simp
                            with_reducible rfl
                          rotate_left
                          · simp only [Act.put, List.setIfInBounds_toArray, List.set_cons_zero, List.set_cons_succ, i64_w, i32_w]
                            rfl
                          refine pure_ (i := 10) (N := some 52) (v := ?_) (a' := ?_) #[true, true, true, true, true, true, true, true, true, true, true, false, false, false, false, false, false, false, false, false, false, false, false, false, false, false, false, false, false] rfl rfl (any_of HT_.out (by kernel_rfl)) (fun _ _ _ h => h) (Or.inl ⟨by rfl, ?_⟩) ?_ ?_
                          rotate_left
                          · intro w'
                            go_simp
                            with_reducible rfl
                          rotate_left
                          · simp only [Act.put, List.setIfInBounds_toArray, List.set_cons_zero, List.set_cons_succ, i64_w, i32_w]
                            rfl
                          refine take_ (i := 11) (N := some 53) (v := ?_) (a' := ?_) #[true, true, true, true, true, true, true, true, true, true, true, true, false, false, false, false, false, false, false, false, false, false, false, false, false, false, false, false, false] rfl rfl (take_ofW HT_.out HW_.out (by kernel_rfl)) (fun _ _ _ h => h) (Or.inl ⟨by rfl, ?_⟩) hHeld ?_ ?_
                          rotate_left
                          · rintro w' ⟨s0, s1, s2, s3⟩
                            go_simp
                            with_reducible rfl
                          rotate_left
                          · simp only [Act.put, List.setIfInBounds_toArray, List.set_cons_zero, List.set_cons_succ, i64_w, i32_w]
                            rfl
                          refine pure_ (i := 12) (N := some 54) (v := ?_) (a' := ?_) #[true, true, true, true, true, true, true, true, true, true, true, true, true, false, false, false, false, false, false, false, false, false, false, false, false, false, false, false, false] rfl rfl (any_of HT_.out (by kernel_rfl)) (fun _ _ _ h => h) (Or.inl ⟨by rfl, ?_⟩) ?_ ?_
                          rotate_left
                          · intro w'
                            go_simp
                            with_reducible rfl
                          rotate_left
                          · simp only [Act.put, List.setIfInBounds_toArray, List.set_cons_zero, List.set_cons_succ, i64_w, i32_w]
                            rfl
                          refine pure_ (i := 13) (N := some 55) (v := ?_) (a' := ?_) #[true, true, true, true, true, true, true, true, true, true, true, true, true, true, false, false, false, false, false, false, false, false, false, false, false, false, false, false, false] rfl rfl (any_of HT_.out (by kernel_rfl)) (fun _ _ _ h => h) (Or.inl ⟨by rfl, ?_⟩) ?_ ?_
                          rotate_left
                          · intro w'
                            go_simp
                            with_reducible rfl
                          rotate_left
                          · simp only [Act.put, List.setIfInBounds_toArray, List.set_cons_zero, List.set_cons_succ, i64_w, i32_w]
                            rfl
                          refine pure_ (i := 14) (N := some 56) (v := undef) (a' := ?_) #[true, true, true, true, true, true, true, true, true, true, true, true, true, true, true, false, false, false, false, false, false, false, false, false, false, false, false, false, false] rfl rfl (any_of HT_.out (by kernel_rfl)) (fun _ _ _ h => h) (Or.inr ⟨by rfl, rfl⟩) ?_ ?_
                          rotate_left
                          · simp only [Act.put, List.setIfInBounds_toArray, List.set_cons_zero, List.set_cons_succ, i64_w, i32_w]
                            rfl
                          refine pure_ (i := 15) (N := some 57) (v := undef) (a' := ?_) #[true, true, true, true, true, true, true, true, true, true, true, true, true, true, true, true, false, false, false, false, false, false, false, false, false, false, false, false, false] rfl rfl (any_of HT_.out (by kernel_rfl)) (fun _ _ _ h => h) (Or.inr ⟨by rfl, rfl⟩) ?_ ?_
                          rotate_left
                          · simp only [Act.put, List.setIfInBounds_toArray, List.set_cons_zero, List.set_cons_succ, i64_w, i32_w]
                            rfl
                          refine pure_ (i := 16) (N := some 58) (v := undef) (a' := ?_) #[true, true, true, true, true, true, true, true, true, true, true, true, true, true, true, true, true, false, false, false, false, false, false, false, false, false, false, false, false] rfl rfl (any_of HT_.out (by kernel_rfl)) (fun _ _ _ h => h) (Or.inr ⟨by rfl, rfl⟩) ?_ ?_
                          rotate_left
                          · simp only [Act.put, List.setIfInBounds_toArray, List.set_cons_zero, List.set_cons_succ, i64_w, i32_w]
                            rfl
                          refine pure_ (i := 17) (N := some 59) (v := undef) (a' := ?_) #[true, true, true, true, true, true, true, true, true, true, true, true, true, true, true, true, true, true, false, false, false, false, false, false, false, false, false, false, false] rfl rfl (any_of HT_.out (by kernel_rfl)) (fun _ _ _ h => h) (Or.inr ⟨by rfl, rfl⟩) ?_ ?_
                          rotate_left
                          · simp only [Act.put, List.setIfInBounds_toArray, List.set_cons_zero, List.set_cons_succ, i64_w, i32_w]
                            rfl
                          refine pure_ (i := 18) (N := some 60) (v := undef) (a' := ?_) #[true, true, true, true, true, true, true, true, true, true, true, true, true, true, true, true, true, true, true, false, false, false, false, false, false, false, false, false, false] rfl rfl (any_of HT_.out (by kernel_rfl)) (fun _ _ _ h => h) (Or.inr ⟨by rfl, rfl⟩) ?_ ?_
                          rotate_left
                          · simp only [Act.put, List.setIfInBounds_toArray, List.set_cons_zero, List.set_cons_succ, i64_w, i32_w]
                            rfl
                          refine pure_ (i := 19) (N := some 61) (v := undef) (a' := ?_) #[true, true, true, true, true, true, true, true, true, true, true, true, true, true, true, true, true, true, true, true, false, false, false, false, false, false, false, false, false] rfl rfl (any_of HT_.out (by kernel_rfl)) (fun _ _ _ h => h) (Or.inr ⟨by rfl, rfl⟩) ?_ ?_
                          rotate_left
                          · simp only [Act.put, List.setIfInBounds_toArray, List.set_cons_zero, List.set_cons_succ, i64_w, i32_w]
                            rfl
                          refine pure_ (i := 20) (N := some 62) (v := undef) (a' := ?_) #[true, true, true, true, true, true, true, true, true, true, true, true, true, true, true, true, true, true, true, true, true, false, false, false, false, false, false, false, false] rfl rfl (any_of HT_.out (by kernel_rfl)) (fun _ _ _ h => h) (Or.inr ⟨by rfl, rfl⟩) ?_ ?_
                          rotate_left
                          · simp only [Act.put, List.setIfInBounds_toArray, List.set_cons_zero, List.set_cons_succ, i64_w, i32_w]
                            rfl
                          refine pure_ (i := 21) (N := some 63) (v := undef) (a' := ?_) #[true, true, true, true, true, true, true, true, true, true, true, true, true, true, true, true, true, true, true, true, true, true, false, false, false, false, false, false, false] rfl rfl (any_of HT_.out (by kernel_rfl)) (fun _ _ _ h => h) (Or.inr ⟨by rfl, rfl⟩) ?_ ?_
                          rotate_left
                          · simp only [Act.put, List.setIfInBounds_toArray, List.set_cons_zero, List.set_cons_succ, i64_w, i32_w]
                            rfl
                          refine pure_ (i := 22) (N := some 64) (v := undef) (a' := ?_) #[true, true, true, true, true, true, true, true, true, true, true, true, true, true, true, true, true, true, true, true, true, true, true, false, false, false, false, false, false] rfl rfl (any_of HT_.out (by kernel_rfl)) (fun _ _ _ h => h) (Or.inr ⟨by rfl, rfl⟩) ?_ ?_
                          rotate_left
                          · simp only [Act.put, List.setIfInBounds_toArray, List.set_cons_zero, List.set_cons_succ, i64_w, i32_w]
                            rfl
                          refine pure_ (i := 23) (N := some 65) (v := undef) (a' := ?_) #[true, true, true, true, true, true, true, true, true, true, true, true, true, true, true, true, true, true, true, true, true, true, true, true, false, false, false, false, false] rfl rfl (any_of HT_.out (by kernel_rfl)) (fun _ _ _ h => h) (Or.inr ⟨by rfl, rfl⟩) ?_ ?_
                          rotate_left
                          · simp only [Act.put, List.setIfInBounds_toArray, List.set_cons_zero, List.set_cons_succ, i64_w, i32_w]
                            rfl
                          refine pure_ (i := 24) (N := some 66) (v := undef) (a' := ?_) #[true, true, true, true, true, true, true, true, true, true, true, true, true, true, true, true, true, true, true, true, true, true, true, true, true, false, false, false, false] rfl rfl (any_of HT_.out (by kernel_rfl)) (fun _ _ _ h => h) (Or.inr ⟨by rfl, rfl⟩) ?_ ?_
                          rotate_left
                          · simp only [Act.put, List.setIfInBounds_toArray, List.set_cons_zero, List.set_cons_succ, i64_w, i32_w]
                            rfl
                          refine pure_ (i := 25) (N := some 67) (v := undef) (a' := ?_) #[true, true, true, true, true, true, true, true, true, true, true, true, true, true, true, true, true, true, true, true, true, true, true, true, true, true, false, false, false] rfl rfl (any_of HT_.out (by kernel_rfl)) (fun _ _ _ h => h) (Or.inr ⟨by rfl, rfl⟩) ?_ ?_
                          rotate_left
                          · simp only [Act.put, List.setIfInBounds_toArray, List.set_cons_zero, List.set_cons_succ, i64_w, i32_w]
                            rfl
                          refine pure_ (i := 26) (N := some 68) (v := undef) (a' := ?_) #[true, true, true, true, true, true, true, true, true, true, true, true, true, true, true, true, true, true, true, true, true, true, true, true, true, true, true, false, false] rfl rfl (any_of HT_.out (by kernel_rfl)) (fun _ _ _ h => h) (Or.inr ⟨by rfl, rfl⟩) ?_ ?_
                          rotate_left
                          · simp only [Act.put, List.setIfInBounds_toArray, List.set_cons_zero, List.set_cons_succ, i64_w, i32_w]
                            rfl
                          refine pure_ (i := 27) (N := some 69) (v := undef) (a' := ?_) #[true, true, true, true, true, true, true, true, true, true, true, true, true, true, true, true, true, true, true, true, true, true, true, true, true, true, true, true, false] rfl rfl (any_of HT_.out (by kernel_rfl)) (fun _ _ _ h => h) (Or.inr ⟨by rfl, rfl⟩) ?_ ?_
                          rotate_left
                          · simp only [Act.put, List.setIfInBounds_toArray, List.set_cons_zero, List.set_cons_succ, i64_w, i32_w]
                            rfl
                          refine pure_ (i := 28) (N := some 70) (v := ?_) (a' := ?_) #[true, true, true, true, true, true, true, true, true, true, true, true, true, true, true, true, true, true, true, true, true, true, true, true, true, true, true, true, true] rfl rfl (any_of HT_.out (by kernel_rfl)) (fun _ _ _ h => h) (Or.inl ⟨by rfl, ?_⟩) ?_ ?_
                          rotate_left
                          · intro w'
                            go_simp
                            with_reducible rfl
                          rotate_left
                          · simp only [Act.put, List.setIfInBounds_toArray, List.set_cons_zero, List.set_cons_succ, i64_w, i32_w]
                            rfl
                          refine done_ (done_of HT_.out (by kernel_rfl)) ?_
                          try go_wp2
                          go_meet
                          case rel => exact ⟨_, (false), (by first | rfl | (simp; done) | (simp [*]; done)), H', ⟨by have := HK1.out; first | omega | exact Nat.le_refl _⟩, ⟨by (with_reducible repeat (first | apply Kd.R_alloc | apply Kd.R_drewN | apply Kd.R_drew)); exact HO_5.out⟩, ⟨by repeat (first | (with_reducible first | exact HB.out | apply below_alloc | apply pw_below_drewN | apply below_drew1) | exact HB.out)⟩⟩
                      · rw [if_neg c20] at H
                        exact absurd H (by simp)
                    · rw [if_neg c19] at H
                      exact absurd H (by simp)
                  · rw [if_neg c18] at H
                    exact absurd H (by simp)
                · rw [if_neg c17] at H
                  exact absurd H (by simp)
              · rw [if_neg c16] at H
                exact absurd H (by simp)
            case rest =>
              clear HC15
              try clear c1
              try clear p1
              try clear q1
              try clear hx1
              try clear qi1
              try clear c2
              try clear p2
              try clear p6
              try clear c16
              try clear c17
              try clear c18
              try clear p18
              try clear q18
              try clear hx18
              try clear c19
              try clear p19
              try clear q19
              try clear hx19
              try clear qi19
              try clear c20
              try clear c21
              try clear c21b0
              try clear c21b1
              try clear c22
              try clear c23
              try clear hx189_0
              try clear hx190_0
              try clear hx191_0
              try clear hx192_0
              try clear hx193_0
              try clear hx194_0
              try clear hx195_0
              try clear hx196_0
              try clear p189
              try clear p190
              try clear p191
              try clear p192
              try clear p193
              try clear p194
              try clear p195
              try clear p196
              try clear q189
              try clear q190
              try clear q191
              try clear q192
              try clear q193
              try clear q194
              try clear q195
              try clear q196
              obtain ⟨kq, x70_14, rfl, HA, HJ14, HO_5, HB⟩ := hcut
              cases kq with
              | zero => exact absurd HA.out (by simp [excelize_squashSqref.j1])
              | succ kj14 =>
                have H := HA.out
                clear HA
                simp only [excelize_squashSqref.j1] at H
                by_cases c26 : x70_14 = true
                · subst c26
                  have H1 : (if 0 ≤ x6_1 then (if x6_1 < (l0.length : Int) then (if 0 ≤ x7_1 then (if x7_1 < (l0.length : Int) then (if 0 < ((rd_L3 l0 x6_1).length : Int) then (if 0 < ((rd_L3 l0 x7_1).length : Int) then (if (rd_L3 l0 x6_1).length + (rd_L3 l0 x7_1).length < 17592186044416 then ((excelize_coordinatesToRangeRef.f kj14 ((rd_L3 l0 x6_1) ++ (rd_L3 l0 x7_1)) ([] : List Bool)).bind fun bt202 => (if x6_1 = x7_1 then (if 1 < ((rd_L3 l0 x6_1).length : Int) then ((excelize_CoordinatesToCellName.f kj14 (rd (rd_L3 l0 x6_1) 0) (rd (rd_L3 l0 x6_1) 1) ([] : List Bool)).bind fun bt208 => (if x5_1.length < 8796093022208 then (excelize_squashSqref.l0 kj14 l0 (x5_1 ++ [bt208.1]) x8_1 x8_1 (wrap64 (x8_1 + 1))) else (none))) else (none)) else (if x5_1.length < 8796093022208 then (excelize_squashSqref.l0 kj14 l0 (x5_1 ++ [bt202.1]) x8_1 x8_1 (wrap64 (x8_1 + 1))) else (none)))) else (none)) else (none)) else (none)) else (none)) else (none)) else (none)) else (none)) = some r := by rw [if_pos rfl] at H; exact H
                  clear H
                  have H := H1
                  clear H1
                  by_cases c27 : 0 ≤ x6_1
                  · rw [if_pos c27] at H
                    have c27b0 : decide (0 ≤ x6_1) = true := decide_eq_true c27
                    clear c27
                    by_cases c28 : x6_1 < (l0.length : Int)
                    · rw [if_pos c28] at H
                      have c28b0 : decide (x6_1 < (l0.length : Int)) = true := decide_eq_true c28
                      clear c28
                      by_cases c29 : 0 ≤ x7_1
                      · rw [if_pos c29] at H
                        have c29b0 : decide (0 ≤ x7_1) = true := decide_eq_true c29
                        clear c29
                        by_cases c30 : x7_1 < (l0.length : Int)
                        · rw [if_pos c30] at H
                          have c30b0 : decide (x7_1 < (l0.length : Int)) = true := decide_eq_true c30
                          clear c30
                          by_cases c31 : 0 < ((rd_L3 l0 x6_1).length : Int)
                          · rw [if_pos c31] at H
                            have c31b0 : decide (0 < ((rd_L3 l0 x6_1).length : Int)) = true := decide_eq_true c31
                            have c31b1 : decide (0 < (rd_L3 l0 x6_1).length) = true := decide_eq_true (by omega)
                            clear c31
                            by_cases c32 : 0 < ((rd_L3 l0 x7_1).length : Int)
                            · rw [if_pos c32] at H
                              have c32b0 : decide (0 < ((rd_L3 l0 x7_1).length : Int)) = true := decide_eq_true c32
                              have c32b1 : decide (0 < (rd_L3 l0 x7_1).length) = true := decide_eq_true (by omega)
                              clear c32
                              by_cases c33 : (rd_L3 l0 x6_1).length + (rd_L3 l0 x7_1).length < 17592186044416
                              · rw [if_pos c33] at H
                                have LMc33 := Aside0.mk c33
                                clear c33
                                obtain ⟨y199, hy199⟩ : ∃ y_ : List Int, y_ = ((rd_L3 l0 x6_1) ++ (rd_L3 l0 x7_1)) := ⟨_, rfl⟩
                                replace H : ((excelize_coordinatesToRangeRef.f kj14 y199 ([] : List Bool)).bind fun bt202 => (if x6_1 = x7_1 then (if 1 < ((rd_L3 l0 x6_1).length : Int) then ((excelize_CoordinatesToCellName.f kj14 (rd (rd_L3 l0 x6_1) 0) (rd (rd_L3 l0 x6_1) 1) ([] : List Bool)).bind fun bt208 => (if x5_1.length < 8796093022208 then (excelize_squashSqref.l0 kj14 l0 (x5_1 ++ [bt208.1]) x8_1 x8_1 (wrap64 (x8_1 + 1))) else (none))) else (none)) else (if x5_1.length < 8796093022208 then (excelize_squashSqref.l0 kj14 l0 (x5_1 ++ [bt202.1]) x8_1 x8_1 (wrap64 (x8_1 + 1))) else (none)))) = some r := by first | (rw [hy199]; with_reducible exact H) | (have H2_ := (Option.bind_some _ _).symm.trans H; rw [hy199]; with_reducible exact H2_) | (have H2_ := (Option.bind_some _ _).symm.trans H; with_reducible exact H2_) | with_reducible exact H | (rw [hy199]; exact H) | exact H
                                have Ny199 := Aside0.mk hy199
                                clear hy199
                                replace H := Option.bind_eq_some_iff.mp H
                                obtain ⟨⟨t202, t203⟩, A340, H⟩ := H
                                replace H : (if x6_1 = x7_1 then (if 1 < ((rd_L3 l0 x6_1).length : Int) then ((excelize_CoordinatesToCellName.f kj14 (rd (rd_L3 l0 x6_1) 0) (rd (rd_L3 l0 x6_1) 1) ([] : List Bool)).bind fun bt208 => (if x5_1.length < 8796093022208 then (excelize_squashSqref.l0 kj14 l0 (x5_1 ++ [bt208.1]) x8_1 x8_1 (wrap64 (x8_1 + 1))) else (none))) else (none)) else (if x5_1.length < 8796093022208 then (excelize_squashSqref.l0 kj14 l0 (x5_1 ++ [t202]) x8_1 x8_1 (wrap64 (x8_1 + 1))) else (none))) = some r := H
                                have A34 := Aside0.mk A340
                                clear A340
                                by_cases c35 : x6_1 = x7_1
                                · rw [if_pos c35] at H
                                  have c35b0 : (x6_1 == x7_1) = true := beq_iff_eq.mpr c35
                                  have c35b1 : (x6_1 != x7_1) = false := bne_eq_false_iff_eq.mpr c35
                                  clear c35
                                  by_cases c36 : 1 < ((rd_L3 l0 x6_1).length : Int)
                                  · rw [if_pos c36] at H
                                    have c36b0 : decide (1 < ((rd_L3 l0 x6_1).length : Int)) = true := decide_eq_true c36
                                    have c36b1 : decide (1 < (rd_L3 l0 x6_1).length) = true := decide_eq_true (by omega)
                                    clear c36
                                    replace H := Option.bind_eq_some_iff.mp H
                                    obtain ⟨⟨t208, t209⟩, A370, H⟩ := H
                                    replace H : (if x5_1.length < 8796093022208 then (excelize_squashSqref.l0 kj14 l0 (x5_1 ++ [t208]) x8_1 x8_1 (wrap64 (x8_1 + 1))) else (none)) = some r := H
                                    have A37 := Aside0.mk A370
                                    clear A370
                                    by_cases c38 : x5_1.length < 8796093022208
                                    · rw [if_pos c38] at H
                                      have LMc38 := Aside0.mk c38
                                      clear c38
                                      obtain ⟨y210, hy210⟩ : ∃ y_ : List ByteArray, y_ = (x5_1 ++ [t208]) := ⟨_, rfl⟩
                                      replace H : (excelize_squashSqref.l0 kj14 l0 y210 x8_1 x8_1 (wrap64 (x8_1 + 1))) = some r := by first | (rw [hy210]; with_reducible exact H) | (have H2_ := (Option.bind_some _ _).symm.trans H; rw [hy210]; with_reducible exact H2_) | (have H2_ := (Option.bind_some _ _).symm.trans H; with_reducible exact H2_) | with_reducible exact H | (rw [hy210]; exact H) | exact H
                                      have Ny210 := Aside0.mk hy210
                                      clear hy210
                                      have H' := Aside0.mk H
                                      clear H
                                      try go_wp2
                                      have n0_ := Aside0.mk (Kd.R_drew HO_5.out)
                                      have n1_ := Aside0.mk (below_drew1 HB.out)
                                      clear HO_5
                                      clear HB
                                      have HO_5 := n0_
                                      have HB := n1_
                                      clear n0_ n1_
                                      have p197 : 0 ≤ (x6_1 : Int) := of_decide_eq_true (by first | (with_reducible assumption) | assumption)
                                      have q197 : x6_1 < (l0.length : Int) := of_decide_eq_true (by first | (with_reducible assumption) | assumption)
                                      obtain ⟨ad197, A197_0, c197_0, e197, hx197_0, hl197_0, hi197_0⟩ := excelize_squashSqref.at_X HR0.out x6_1 p197 q197
                                      have hw197_0 := hx197_0
                                      cases e197
                                      replace hx197_0 := (HB.out.cell (World.block_lt_of_cell? w _ hx197_0)).trans hx197_0
                                      have HR197_0 := Aside0.mk hi197_0
                                      have HC197_0 := Aside0.mk hl197_0
                                      clear hi197_0 hl197_0
                                      replace p197 := eq_true p197
                                      replace q197 := eq_true q197
                                      have p198 : 0 ≤ (x7_1 : Int) := of_decide_eq_true (by first | (with_reducible assumption) | assumption)
                                      have q198 : x7_1 < (l0.length : Int) := of_decide_eq_true (by first | (with_reducible assumption) | assumption)
                                      obtain ⟨ad198, A198_0, c198_0, e198, hx198_0, hl198_0, hi198_0⟩ := excelize_squashSqref.at_X HR0.out x7_1 p198 q198
                                      have hw198_0 := hx198_0
                                      obtain rfl : ad197 = ad198 := (by injection e198)
                                      replace hx198_0 := (HB.out.cell (World.block_lt_of_cell? w _ hx198_0)).trans hx198_0
                                      have HR198_0 := Aside0.mk hi198_0
                                      have HC198_0 := Aside0.mk hl198_0
                                      clear hi198_0 hl198_0
                                      replace p198 := eq_true p198
                                      replace q198 := eq_true q198
                                      refine start_ (n := 15) (S := fun w' => w'.cell? (ad197.add (x6_1).toNat) = some (.slice A197_0 (rd_L3 l0 x6_1).length c197_0) ∧ w'.cell? (ad197.add (x7_1).toNat) = some (.slice A198_0 (rd_L3 l0 x7_1).length c198_0)) (ds := []) #[false, false, false, false, false, false, false, false, false, false, false, false, false, false, false] (by kernel_rfl) rfl rfl ⟨((HB.out.cell (World.block_lt_of_cell? w _ hw197_0)).trans hw197_0), ((HB.out.cell (World.block_lt_of_cell? w _ hw198_0)).trans hw198_0)⟩ (fun hHeld => ?_); refine with_tabW excelize_squashSqref.tab12 excelize_squashSqref.bits12 (fun HT_ HW_ => ?_)
                                      generalize wc.drew = w39 at HO_5 HB HR197_0 HR198_0 hx197_0 hx198_0 hHeld ⊢
                                      refine pure_ (i := 0) (N := some 72) (v := ?_) (a' := ?_) #[true, false, false, false, false, false, false, false, false, false, false, false, false, false, false] rfl rfl (any_of HT_.out (by kernel_rfl)) (fun _ _ _ h => h) (Or.inl ⟨by rfl, ?_⟩) ?_ ?_
                                      rotate_left
                                      · intro w'
                                        go_simp
                                        with_reducible rfl
                                      rotate_left
                                      · simp only [Act.put, List.setIfInBounds_toArray, List.set_cons_zero, List.set_cons_succ, i64_w, i32_w]
                                        rfl
                                      refine pure_ (i := 1) (N := some 73) (v := ?_) (a' := ?_) #[true, true, false, false, false, false, false, false, false, false, false, false, false, false, false] rfl rfl (any_of HT_.out (by kernel_rfl)) (fun _ _ _ h => h) (Or.inl ⟨by rfl, ?_⟩) ?_ ?_
                                      rotate_left
                                      · intro w'
                                        go_simp
                                        with_reducible rfl
                                      rotate_left
                                      · simp only [Act.put, List.setIfInBounds_toArray, List.set_cons_zero, List.set_cons_succ, i64_w, i32_w]
                                        rfl
                                      refine pure_ (i := 2) (N := some 74) (v := ?_) (a' := ?_) #[true, true, true, false, false, false, false, false, false, false, false, false, false, false, false] rfl rfl (any_of HT_.out (by kernel_rfl)) (fun _ _ _ h => h) (Or.inl ⟨by rfl, ?_⟩) ?_ ?_
                                      rotate_left
                                      · intro w'
                                        go_simp
                                        with_reducible rfl
                                      rotate_left
                                      · simp only [Act.put, List.setIfInBounds_toArray, List.set_cons_zero, List.set_cons_succ, i64_w, i32_w]
                                        rfl
                                      refine pure_ (i := 4) (N := some 76) (v := ?_) (a' := ?_) #[true, true, true, false, true, false, false, false, false, false, false, false, false, false, false] rfl rfl (any_of HT_.out (by kernel_rfl)) (fun _ _ _ h => h) (Or.inl ⟨by rfl, ?_⟩) ?_ ?_
                                      rotate_left
                                      · intro w'
                                        go_simp
                                        with_reducible rfl
                                      rotate_left
                                      · simp only [Act.put, List.setIfInBounds_toArray, List.set_cons_zero, List.set_cons_succ, i64_w, i32_w]
                                        rfl
                                      refine pure_ (i := 5) (N := some 77) (v := ?_) (a' := ?_) #[true, true, true, false, true, true, false, false, false, false, false, false, false, false, false] rfl rfl (any_of HT_.out (by kernel_rfl)) (fun _ _ _ h => h) (Or.inl ⟨by rfl, ?_⟩) ?_ ?_
                                      rotate_left
                                      · intro w'
                                        go_simp
                                        with_reducible rfl
                                      rotate_left
                                      · simp only [Act.put, List.setIfInBounds_toArray, List.set_cons_zero, List.set_cons_succ, i64_w, i32_w]
                                        rfl
                                      refine pure_ (i := 6) (N := some 78) (v := ?_) (a' := ?_) #[true, true, true, false, true, true, true, false, false, false, false, false, false, false, false] rfl rfl (any_of HT_.out (by kernel_rfl)) (fun _ _ _ h => h) (Or.inl ⟨by rfl, ?_⟩) ?_ ?_
                                      rotate_left
                                      · intro w'
                                        go_simp
                                        with_reducible rfl
                                      rotate_left
                                      · simp only [Act.put, List.setIfInBounds_toArray, List.set_cons_zero, List.set_cons_succ, i64_w, i32_w]
                                        rfl
                                      refine take_ (i := 3) (N := some 75) (v := ?_) (a' := ?_) #[true, true, true, true, true, true, true, false, false, false, false, false, false, false, false] rfl rfl (take_ofW HT_.out HW_.out (by kernel_rfl)) (fun _ _ _ h => h) (Or.inl ⟨by rfl, ?_⟩) hHeld ?_ ?_
                                      rotate_left
                                      · rintro w' ⟨s0, s1⟩
                                        go_simp
                                        with_reducible rfl
                                      rotate_left
                                      · simp only [Act.put, List.setIfInBounds_toArray, List.set_cons_zero, List.set_cons_succ, i64_w, i32_w]
                                        rfl
                                      refine take_ (i := 7) (N := some 79) (v := ?_) (a' := ?_) #[true, true, true, true, true, true, true, true, false, false, false, false, false, false, false] rfl rfl (take_ofW HT_.out HW_.out (by kernel_rfl)) (fun _ _ _ h => h) (Or.inl ⟨by rfl, ?_⟩) hHeld ?_ ?_
                                      rotate_left
                                      · rintro w' ⟨s0, s1⟩
                                        go_simp
                                        with_reducible rfl
                                      rotate_left
                                      · simp only [Act.put, List.setIfInBounds_toArray, List.set_cons_zero, List.set_cons_succ, i64_w, i32_w]
                                        rfl
                                      refine one_ (i := 8) (N := some 80) #[true, true, true, true, true, true, true, true, true, false, false, false, false, false, false] rfl rfl (one_of HT_.out (by kernel_rfl)) (by decide) (fun K hK => ?_)
                                      refine Full.append_full_step (w0 := w) w.heap.size (by rfl) (.tmp 75) (.tmp 79) 36 3 (.int .i64 0) 8 rfl Tryz.underlying36 info3 rfl (by decide) (by omega) (.slice A197_0 (rd_L3 l0 x6_1).length c197_0) (rd_L3 l0 x6_1) (rd_L3 l0 x7_1) _ _ _ (fun _ => True) (fun _ => False) rfl rfl ?aO ?aR (fun _ _ h => h) (fun _ h => h.elim) ?aF ?aB ?aS ?aL ?_
                                      (case aR => repeat (first | exact (Kd.C_below HR198_0.out HB.out) | (with_reducible refine Kd.C_alloc ?_ _) | (with_reducible refine Kd.C_drewN ?_ _) | (with_reducible refine Kd.C_drew ?_)))
                                      (case aB => exact (by repeat (first | (with_reducible first | exact HB.out | apply below_alloc | apply pw_below_drewN | apply below_drew1) | exact HB.out)))
                                      (case aF => exact (fun _ _ => trivial))
                                      (case aO => exact ⟨A197_0, by rw [HC197_0.out], by repeat (first | exact (Kd.C_below HR197_0.out HB.out) | (with_reducible refine Kd.C_alloc ?_ _) | (with_reducible refine Kd.C_drewN ?_ _) | (with_reducible refine Kd.C_drew ?_)), (by have hz_ := of_decide_eq_true (show decide (0 < ((rd_L3 l0 x6_1).length : Int)) = true by first | (with_reducible assumption) | assumption); omega), (by have hz_ := of_decide_eq_true (show decide (0 < ((rd_L3 l0 x7_1).length : Int)) = true by first | (with_reducible assumption) | assumption); omega)⟩)
                                      (case aS => exact (below_size (by repeat (first | (with_reducible first | exact HB.out | apply below_alloc | apply pw_below_drewN | apply below_drew1) | exact HB.out))))
                                      (case aL => have := LMc33.out; omega)
                                      intro v200 w40 ho hb hg hat
                                      rw [← Ny199.out] at ho
                                      have n0_ := Aside0.mk (Kd.R_grown (by (with_reducible repeat (first | apply Kd.R_alloc | apply Kd.R_drewN | apply Kd.R_drew)); exact HO_5.out) hg (fun _ _ => by simp [Value.ownBlock]))
                                      have n1_ := Aside0.mk (hb)
                                      have n2_ := Aside0.mk (ho)
                                      clear HO_5
                                      clear HB
                                      have HO_5 := n0_
                                      have HB := n1_
                                      have HO201 := n2_
                                      clear n0_ n1_ n2_
                                      clear ho hb hg hat
                                      obtain ⟨Ao41, co41, eo41⟩ := Kd.R_slice HO201.out
                                      (first | subst eo41 | (injection eo41 with f1_ f2_ f3_; have f4_ := f1_.symm; have f5_ := f3_.symm; clear f1_ f2_ f3_; subst f4_; subst f5_))
                                      refine hK.out _ _ ⟨((HB.out.cell (World.block_lt_of_cell? w _ hw197_0)).trans hw197_0), ((HB.out.cell (World.block_lt_of_cell? w _ hw198_0)).trans hw198_0)⟩ (fun hHeld => ?_)
                                      clear hK K
                                      refine norm_ (a' := ?_) ?_ ?_
                                      rotate_left
                                      · show Act.put _ (some 80) _ = _
                                        simp only [Act.put, List.setIfInBounds_toArray, List.set_cons_zero, List.set_cons_succ, i64_w, i32_w]
                                        rfl
                                      refine one_ (i := 9) (N := some 81) #[true, true, true, true, true, true, true, true, true, true, false, false, false, false, false] rfl rfl (one_of HT_.out (by kernel_rfl)) (by decide) (fun K hK => ?_)
                                      refine goes_ Tryz.func56 (by kernel_rfl) rfl #[.slice Ao41 y199.length co41, .slice none 0 0] (by rfl) rfl rfl (by (try simp only [List.map_toArray, List.map_cons, List.map_nil]); first | done | rfl | (simp only [List.length_drop, List.length_take]; rfl)) ?_
                                      refine (excelize_coordinatesToRangeRef.calls kj14 _ _ y199 _ _ ([] : List Bool) t202 t203 _ ?side1 ?side2 ?side3 ?side4 A34.out).mono ?_
                                      (case side1 => repeat (first | exact (Kd.R_reads' HO201.out).2.2 | (with_reducible refine Kd.C_alloc ?_ _) | (with_reducible refine Kd.C_drewN ?_ _) | (with_reducible refine Kd.C_drew ?_)))
                                      (case side2 => exact (Kd.R_reads' HO201.out).2.1)
                                      (case side3 => exact Kd.C_nil _ _)
                                      (case side4 => exact Nat.le_refl _)
                                      rintro e w42 ⟨rfl, hb⟩
                                      refine ⟨_, rfl, ?_⟩
                                      have n0_ := Aside0.mk (Kd.R_below (by (with_reducible repeat (first | apply Kd.R_alloc | apply Kd.R_drewN | apply Kd.R_drew)); exact HO_5.out) hb)
                                      have n1_ := Aside0.mk (Kd.R_below (by (with_reducible repeat (first | apply Kd.R_alloc | apply Kd.R_drewN | apply Kd.R_drew)); exact HO201.out) hb)
                                      have n2_ := Aside0.mk (below_step (by repeat (first | (with_reducible first | exact HB.out | apply below_alloc | apply pw_below_drewN | apply below_drew1) | exact HB.out)) hb)
                                      clear HO_5
                                      clear HO201
                                      clear HB
                                      have HO_5 := n0_
                                      have HO201 := n1_
                                      have HB := n2_
                                      clear n0_ n1_ n2_
                                      (try clear hb)
                                      (try clear hb2)
                                      (try clear hk)
                                      (try clear hi)
                                      (try simp only [errW_none, errW_some])
                                      refine hK.out _ _ ⟨((HB.out.cell (World.block_lt_of_cell? w _ hw197_0)).trans hw197_0), ((HB.out.cell (World.block_lt_of_cell? w _ hw198_0)).trans hw198_0)⟩ (fun hHeld => ?_)
                                      clear hK K
                                      refine norm_ (a' := ?_) ?_ ?_
                                      rotate_left
                                      · show Act.put _ (some 81) _ = _
                                        simp only [Act.put, List.setIfInBounds_toArray, List.set_cons_zero, List.set_cons_succ, i64_w, i32_w]
                                        rfl
                                      refine pure_ (i := 10) (N := some 71) (v := ?_) (a' := ?_) #[true, true, true, true, true, true, true, true, true, true, true, false, false, false, false] rfl rfl (any_of HT_.out (by kernel_rfl)) (fun _ _ _ h => h) (Or.inl ⟨by rfl, ?_⟩) ?_ ?_
                                      rotate_left
                                      · intro w'
                                        go_simp
                                        with_reducible rfl
                                      rotate_left
                                      · simp only [Act.put, List.setIfInBounds_toArray, List.set_cons_zero, List.set_cons_succ, i64_w, i32_w]
                                        rfl
                                      refine pure_ (i := 11) (N := some 82) (v := ?_) (a' := ?_) #[true, true, true, true, true, true, true, true, true, true, true, true, false, false, false] rfl rfl (any_of HT_.out (by kernel_rfl)) (fun _ _ _ h => h) (Or.inl ⟨by rfl, ?_⟩) ?_ ?_
                                      rotate_left
                                      · intro w'
                                        go_simp
                                        with_reducible rfl
                                      rotate_left
                                      · simp only [Act.put, List.setIfInBounds_toArray, List.set_cons_zero, List.set_cons_succ, i64_w, i32_w]
                                        rfl
                                      refine pure_ (i := 12) (N := some 83) (v := ?_) (a' := ?_) #[true, true, true, true, true, true, true, true, true, true, true, true, true, false, false] rfl rfl (any_of HT_.out (by kernel_rfl)) (fun _ _ _ h => h) (Or.inl ⟨by rfl, ?_⟩) ?_ ?_
                                      rotate_left
                                      · intro w'
                                        go_simp
                                        with_reducible rfl
                                      rotate_left
                                      · simp only [Act.put, List.setIfInBounds_toArray, List.set_cons_zero, List.set_cons_succ, i64_w, i32_w]
                                        rfl
                                      refine pure_ (i := 13) (N := some 9) (v := ?_) (a' := ?_) #[true, true, true, true, true, true, true, true, true, true, true, true, true, true, false] rfl rfl (any_of HT_.out (by kernel_rfl)) (fun _ _ _ h => h) (Or.inl ⟨by rfl, ?_⟩) ?_ ?_
                                      rotate_left
                                      · intro w'
                                        go_simp
                                        with_reducible rfl
                                      rotate_left
                                      · simp only [Act.put, List.setIfInBounds_toArray, List.set_cons_zero, List.set_cons_succ, i64_w, i32_w]
                                        rfl
                                      refine pure_ (i := 14) (N := some 10) (v := ?_) (a' := ?_) #[true, true, true, true, true, true, true, true, true, true, true, true, true, true, true] rfl rfl (any_of HT_.out (by kernel_rfl)) (fun _ _ _ h => h) (Or.inl ⟨by rfl, ?_⟩) ?_ ?_
                                      rotate_left
                                      · intro w'
                                        go_simp
                                        with_reducible rfl
                                      rotate_left
                                      · simp only [Act.put, List.setIfInBounds_toArray, List.set_cons_zero, List.set_cons_succ, i64_w, i32_w]
                                        rfl
                                      refine done_ (done_of HT_.out (by kernel_rfl)) ?_
                                      try go_wp2
                                      have n0_ := Aside0.mk (Kd.R_drew HO_5.out)
                                      have n1_ := Aside0.mk (Kd.R_drew HO201.out)
                                      have n2_ := Aside0.mk (below_drew1 HB.out)
                                      clear HO_5
                                      clear HO201
                                      clear HB
                                      have HO_5 := n0_
                                      have HO201 := n1_
                                      have HB := n2_
                                      clear n0_ n1_ n2_
                                      have p204 : 0 ≤ (x6_1 : Int) := of_decide_eq_true (by first | (with_reducible assumption) | assumption)
                                      have q204 : x6_1 < (l0.length : Int) := of_decide_eq_true (by first | (with_reducible assumption) | assumption)
                                      obtain ⟨ad204, A204_0, c204_0, e204, hx204_0, hl204_0, hi204_0⟩ := excelize_squashSqref.at_X HR0.out x6_1 p204 q204
                                      have hw204_0 := hx204_0
                                      obtain rfl : ad197 = ad204 := (by injection e204)
                                      replace hx204_0 := (HB.out.cell (World.block_lt_of_cell? w _ hx204_0)).trans hx204_0
                                      have HR204_0 := Aside0.mk hi204_0
                                      have HC204_0 := Aside0.mk hl204_0
                                      clear hi204_0 hl204_0
                                      replace p204 := eq_true p204
                                      replace q204 := eq_true q204
                                      have p205 : 0 ≤ (0 : Int) := (by omega)
                                      have q205 : 0 < ((rd_L3 l0 x6_1).length : Int) := of_decide_eq_true (by first | (with_reducible assumption) | assumption)
                                      obtain ⟨ad205, e205, hx205_0⟩ := Kd.at_int HR204_0.out 0 p205 q205
                                      have hw205_0 := hx205_0
                                      (try rw [show ((0 : Int)).toNat = 0 from rfl] at hw205_0)
                                      (try rw [show 0 * 1 = 0 from rfl] at hw205_0)
                                      (try rw [Addr.add_zero'] at hw205_0)
                                      cases e205
                                      have qi205 : (0 < (rd_L3 l0 x6_1).length) = True := eq_true (by omega)
                                      (try rw [show ((0 : Int)).toNat = 0 from rfl] at hx205_0)
                                      (try rw [Addr.add_zero'] at hx205_0)
                                      replace hx205_0 := (HB.out.cell (World.block_lt_of_cell? w _ hx205_0)).trans hx205_0
                                      replace p205 := eq_true p205
                                      replace q205 := eq_true q205
                                      have p206 : 0 ≤ (x6_1 : Int) := of_decide_eq_true (by first | (with_reducible assumption) | assumption)
                                      have q206 : x6_1 < (l0.length : Int) := of_decide_eq_true (by first | (with_reducible assumption) | assumption)
                                      obtain ⟨ad206, A206_0, c206_0, e206, hx206_0, hl206_0, hi206_0⟩ := excelize_squashSqref.at_X HR0.out x6_1 p206 q206
                                      have hw206_0 := hx206_0
                                      obtain rfl : ad197 = ad206 := (by injection e206)
                                      replace hx206_0 := (HB.out.cell (World.block_lt_of_cell? w _ hx206_0)).trans hx206_0
                                      have HR206_0 := Aside0.mk hi206_0
                                      have HC206_0 := Aside0.mk hl206_0
                                      clear hi206_0 hl206_0
                                      replace p206 := eq_true p206
                                      replace q206 := eq_true q206
                                      have ea_ := Option.some.inj (hx204_0.symm.trans hx206_0)
                                      injection ea_ with ea_ en_ ec_
                                      subst ea_
                                      subst ec_
                                      clear en_
                                      have p207 : 0 ≤ (1 : Int) := (by omega)
                                      have q207 : 1 < ((rd_L3 l0 x6_1).length : Int) := of_decide_eq_true (by first | (with_reducible assumption) | assumption)
                                      obtain ⟨ad207, e207, hx207_0⟩ := Kd.at_int HR206_0.out 1 p207 q207
                                      have hw207_0 := hx207_0
                                      (try rw [show ((1 : Int)).toNat = 1 from rfl] at hw207_0)
                                      (try rw [show 1 * 1 = 1 from rfl] at hw207_0)
                                      (try simp only [Nat.reduceMul, Nat.reduceEqDiff, Go.Addr.add, ↓reduceIte] at hw207_0)
                                      cases e207
                                      (try simp only [show (1 : Int).toNat = 1 from rfl, Nat.reduceMul, Nat.reduceEqDiff, Go.Addr.add, ↓reduceIte] at hx207_0)
                                      have qi207 : (1 < (rd_L3 l0 x6_1).length) = True := eq_true (by omega)
                                      (try rw [show ((1 : Int)).toNat = 1 from rfl] at hx207_0)
                                      replace hx207_0 := (HB.out.cell (World.block_lt_of_cell? w _ hx207_0)).trans hx207_0
                                      replace p207 := eq_true p207
                                      replace q207 := eq_true q207
                                      refine start_ (n := 17) (S := fun w' => w'.cell? (ad197.add (x6_1).toNat) = some (.slice (some ad205) (rd_L3 l0 x6_1).length c204_0) ∧ w'.cell? ad205 = some (.int .i64 (rd (rd_L3 l0 x6_1) 0)) ∧ w'.cell? (ad197.add (x6_1).toNat) = some (.slice (some ad205) (rd_L3 l0 x6_1).length c204_0) ∧ w'.cell? ⟨ad205.block, ad205.off + 1, none⟩ = some (.int .i64 (rd (rd_L3 l0 x6_1) 1))) (ds := []) #[false, false, false, false, false, false, false, false, false, false, false, false, false, false, false, false, false] (by kernel_rfl) rfl rfl ⟨((HB.out.cell (World.block_lt_of_cell? w _ hw204_0)).trans hw204_0), ((HB.out.cell (World.block_lt_of_cell? w _ hw205_0)).trans hw205_0), ((HB.out.cell (World.block_lt_of_cell? w _ hw206_0)).trans hw206_0), ((HB.out.cell (World.block_lt_of_cell? w _ hw207_0)).trans hw207_0)⟩ (fun hHeld => ?_); refine with_tabW excelize_squashSqref.tab14 excelize_squashSqref.bits14 (fun HT_ HW_ => ?_)
                                      generalize w42.drew = w43 at HO_5 HO201 HB HR204_0 HR206_0 hx204_0 hx205_0 hx206_0 hx207_0 hHeld ⊢
                                      refine pure_ (i := 0) (N := some 88) (v := ?_) (a' := ?_) #[true, false, false, false, false, false, false, false, false, false, false, false, false, false, false, false, false] rfl rfl (any_of HT_.out (by kernel_rfl)) (fun _ _ _ h => h) (Or.inl ⟨by rfl, ?_⟩) ?_ ?_
                                      rotate_left
                                      · intro w'
                                        go_simp
                                        with_reducible rfl
                                      rotate_left
                                      · simp only [Act.put, List.setIfInBounds_toArray, List.set_cons_zero, List.set_cons_succ, i64_w, i32_w]
                                        rfl
                                      refine pure_ (i := 1) (N := some 89) (v := ?_) (a' := ?_) #[true, true, false, false, false, false, false, false, false, false, false, false, false, false, false, false, false] rfl rfl (any_of HT_.out (by kernel_rfl)) (fun _ _ _ h => h) (Or.inl ⟨by rfl, ?_⟩) ?_ ?_
                                      rotate_left
                                      · intro w'
                                        go_simp
                                        with_reducible rfl
                                      rotate_left
                                      · simp only [Act.put, List.setIfInBounds_toArray, List.set_cons_zero, List.set_cons_succ, i64_w, i32_w]
                                        rfl
                                      refine pure_ (i := 2) (N := some 90) (v := ?_) (a' := ?_) #[true, true, true, false, false, false, false, false, false, false, false, false, false, false, false, false, false] rfl rfl (any_of HT_.out (by kernel_rfl)) (fun _ _ _ h => h) (Or.inl ⟨by rfl, ?_⟩) ?_ ?_
                                      rotate_left
                                      · intro w'
                                        go_simp
                                        with_reducible rfl
                                      rotate_left
                                      · simp only [Act.put, List.setIfInBounds_toArray, List.set_cons_zero, List.set_cons_succ, i64_w, i32_w]
                                        rfl
                                      refine pure_ (i := 6) (N := some 94) (v := ?_) (a' := ?_) #[true, true, true, false, false, false, true, false, false, false, false, false, false, false, false, false, false] rfl rfl (any_of HT_.out (by kernel_rfl)) (fun _ _ _ h => h) (Or.inl ⟨by rfl, ?_⟩) ?_ ?_
                                      rotate_left
                                      · intro w'
                                        go_simp
                                        with_reducible rfl
                                      rotate_left
                                      · simp only [Act.put, List.setIfInBounds_toArray, List.set_cons_zero, List.set_cons_succ, i64_w, i32_w]
                                        rfl
                                      refine pure_ (i := 7) (N := some 95) (v := ?_) (a' := ?_) #[true, true, true, false, false, false, true, true, false, false, false, false, false, false, false, false, false] rfl rfl (any_of HT_.out (by kernel_rfl)) (fun _ _ _ h => h) (Or.inl ⟨by rfl, ?_⟩) ?_ ?_
                                      rotate_left
                                      · intro w'
                                        go_simp
                                        with_reducible rfl
                                      rotate_left
                                      · simp only [Act.put, List.setIfInBounds_toArray, List.set_cons_zero, List.set_cons_succ, i64_w, i32_w]
                                        rfl
                                      refine pure_ (i := 8) (N := some 96) (v := ?_) (a' := ?_) #[true, true, true, false, false, false, true, true, true, false, false, false, false, false, false, false, false] rfl rfl (any_of HT_.out (by kernel_rfl)) (fun _ _ _ h => h) (Or.inl ⟨by rfl, ?_⟩) ?_ ?_
                                      rotate_left
                                      · intro w'
                                        go_simp
                                        with_reducible rfl
                                      rotate_left
                                      · simp only [Act.put, List.setIfInBounds_toArray, List.set_cons_zero, List.set_cons_succ, i64_w, i32_w]
                                        rfl
                                      refine take_ (i := 3) (N := some 91) (v := ?_) (a' := ?_) #[true, true, true, true, false, false, true, true, true, false, false, false, false, false, false, false, false] rfl rfl (take_ofW HT_.out HW_.out (by kernel_rfl)) (fun _ _ _ h => h) (Or.inl ⟨by rfl, ?_⟩) hHeld ?_ ?_
                                      rotate_left
                                      · rintro w' ⟨s0, s1, s2, s3⟩
                                        go_simp
                                        with_reducible rfl
                                      rotate_left
                                      · simp only [Act.put, List.setIfInBounds_toArray, List.set_cons_zero, List.set_cons_succ, i64_w, i32_w]
                                        rfl
                                      refine pure_ (i := 4) (N := some 92) (v := ?_) (a' := ?_) #[true, true, true, true, true, false, true, true, true, false, false, false, false, false, false, false, false] rfl rfl (any_of HT_.out (by kernel_rfl)) (fun _ _ _ h => h) (Or.inl ⟨by rfl, ?_⟩) ?_ ?_
                                      rotate_left
                                      · intro w'
                                        go_simp
                                        with_reducible rfl
                                      rotate_left
                                      · simp only [Act.put, List.setIfInBounds_toArray, List.set_cons_zero, List.set_cons_succ, i64_w, i32_w]
                                        rfl
                                      refine take_ (i := 5) (N := some 93) (v := ?_) (a' := ?_) #[true, true, true, true, true, true, true, true, true, false, false, false, false, false, false, false, false] rfl rfl (take_ofW HT_.out HW_.out (by kernel_rfl)) (fun _ _ _ h => h) (Or.inl ⟨by rfl, ?_⟩) hHeld ?_ ?_
                                      rotate_left
                                      · rintro w' ⟨s0, s1, s2, s3⟩
                                        go_simp
                                        with_reducible rfl
                                      rotate_left
                                      · simp only [Act.put, List.setIfInBounds_toArray, List.set_cons_zero, List.set_cons_succ, i64_w, i32_w]
                                        rfl
                                      refine take_ (i := 9) (N := some 97) (v := ?_) (a' := ?_) #[true, true, true, true, true, true, true, true, true, true, false, false, false, false, false, false, false] rfl rfl (take_ofW HT_.out HW_.out (by kernel_rfl)) (fun _ _ _ h => h) (Or.inl ⟨by rfl, ?_⟩) hHeld ?_ ?_
                                      rotate_left
                                      · rintro w' ⟨s0, s1, s2, s3⟩
                                        go_simp
                                        with_reducible rfl
                                      rotate_left
                                      · simp only [Act.put, List.setIfInBounds_toArray, List.set_cons_zero, List.set_cons_succ, i64_w, i32_w]
                                        rfl
                                      refine pure_ (i := 10) (N := some 98) (v := ?_) (a' := ?_) #[true, true, true, true, true, true, true, true, true, true, true, false, false, false, false, false, false] rfl rfl (any_of HT_.out (by kernel_rfl)) (fun _ _ _ h => h) (Or.inl ⟨by rfl, ?_⟩) ?_ ?_
                                      rotate_left
                                      · intro w'
                                        go_simp
                                        with_reducible rfl
                                      rotate_left
                                      · simp only [Act.put, List.setIfInBounds_toArray, List.set_cons_zero, List.set_cons_succ, i64_w, i32_w]
                                        rfl
                                      refine take_ (i := 11) (N := some 99) (v := ?_) (a' := ?_) #[true, true, true, true, true, true, true, true, true, true, true, true, false, false, false, false, false] rfl rfl (take_ofW HT_.out HW_.out (by kernel_rfl)) (fun _ _ _ h => h) (Or.inl ⟨by rfl, ?_⟩) hHeld ?_ ?_
                                      rotate_left
                                      · rintro w' ⟨s0, s1, s2, s3⟩
                                        go_simp
                                        with_reducible rfl
                                      rotate_left
                                      · simp only [Act.put, List.setIfInBounds_toArray, List.set_cons_zero, List.set_cons_succ, i64_w, i32_w]
                                        rfl
                                      refine one_ (i := 12) (N := some 100) #[true, true, true, true, true, true, true, true, true, true, true, true, true, false, false, false, false] rfl rfl (one_of HT_.out (by kernel_rfl)) (by decide) (fun K hK => ?_)
                                      refine goes_ Tryz.func55 (by kernel_rfl) rfl #[.int .i64 (rd (rd_L3 l0 x6_1) 0), .int .i64 (rd (rd_L3 l0 x6_1) 1), .slice none 0 0] (by rfl) rfl rfl (by (try simp only [List.map_toArray, List.map_cons, List.map_nil]); first | done | rfl | (simp only [List.length_drop, List.length_take]; rfl)) ?_
                                      refine (excelize_CoordinatesToCellName.calls kj14 (rd (rd_L3 l0 x6_1) 0) (rd (rd_L3 l0 x6_1) 1) _ _ ([] : List Bool) t208 t209 _ ?side1 ?side2 A37.out).mono ?_
                                      (case side1 => exact Kd.C_nil _ _)
                                      (case side2 => exact Nat.le_refl _)
                                      rintro e w44 ⟨rfl, hb⟩
                                      refine ⟨_, rfl, ?_⟩
                                      have n0_ := Aside0.mk (Kd.R_below (by (with_reducible repeat (first | apply Kd.R_alloc | apply Kd.R_drewN | apply Kd.R_drew)); exact HO_5.out) hb)
                                      have n1_ := Aside0.mk (Kd.R_below (by (with_reducible repeat (first | apply Kd.R_alloc | apply Kd.R_drewN | apply Kd.R_drew)); exact HO201.out) hb)
                                      have n2_ := Aside0.mk (below_step (by repeat (first | (with_reducible first | exact HB.out | apply below_alloc | apply pw_below_drewN | apply below_drew1) | exact HB.out)) hb)
                                      clear HO_5
                                      clear HO201
                                      clear HB
                                      have HO_5 := n0_
                                      have HO201 := n1_
                                      have HB := n2_
                                      clear n0_ n1_ n2_
                                      (try clear hb)
                                      (try clear hb2)
                                      (try clear hk)
                                      (try clear hi)
                                      (try simp only [errW_none, errW_some])
                                      refine hK.out _ _ ⟨((HB.out.cell (World.block_lt_of_cell? w _ hw204_0)).trans hw204_0), ((HB.out.cell (World.block_lt_of_cell? w _ hw205_0)).trans hw205_0), ((HB.out.cell (World.block_lt_of_cell? w _ hw206_0)).trans hw206_0), ((HB.out.cell (World.block_lt_of_cell? w _ hw207_0)).trans hw207_0)⟩ (fun hHeld => ?_)
                                      clear hK K
                                      refine norm_ (a' := ?_) ?_ ?_
                                      rotate_left
                                      · show Act.put _ (some 100) _ = _
                                        simp only [Act.put, List.setIfInBounds_toArray, List.set_cons_zero, List.set_cons_succ, i64_w, i32_w]
                                        rfl
                                      refine pure_ (i := 13) (N := some 87) (v := ?_) (a' := ?_) #[true, true, true, true, true, true, true, true, true, true, true, true, true, true, false, false, false] rfl rfl (any_of HT_.out (by kernel_rfl)) (fun _ _ _ h => h) (Or.inl ⟨by rfl, ?_⟩) ?_ ?_
                                      rotate_left
                                      · intro w'
                                        go_simp
                                        with_reducible rfl
                                      rotate_left
                                      · simp only [Act.put, List.setIfInBounds_toArray, List.set_cons_zero, List.set_cons_succ, i64_w, i32_w]
                                        rfl
                                      refine pure_ (i := 14) (N := some 101) (v := ?_) (a' := ?_) #[true, true, true, true, true, true, true, true, true, true, true, true, true, true, true, false, false] rfl rfl (any_of HT_.out (by kernel_rfl)) (fun _ _ _ h => h) (Or.inl ⟨by rfl, ?_⟩) ?_ ?_
                                      rotate_left
                                      · intro w'
                                        go_simp
                                        with_reducible rfl
                                      rotate_left
                                      · simp only [Act.put, List.setIfInBounds_toArray, List.set_cons_zero, List.set_cons_succ, i64_w, i32_w]
                                        rfl
                                      refine pure_ (i := 15) (N := some 102) (v := ?_) (a' := ?_) #[true, true, true, true, true, true, true, true, true, true, true, true, true, true, true, true, false] rfl rfl (any_of HT_.out (by kernel_rfl)) (fun _ _ _ h => h) (Or.inl ⟨by rfl, ?_⟩) ?_ ?_
                                      rotate_left
                                      · intro w'
                                        go_simp
                                        with_reducible rfl
                                      rotate_left
                                      · simp only [Act.put, List.setIfInBounds_toArray, List.set_cons_zero, List.set_cons_succ, i64_w, i32_w]
                                        rfl
                                      refine pure_ (i := 16) (N := some 9) (v := ?_) (a' := ?_) #[true, true, true, true, true, true, true, true, true, true, true, true, true, true, true, true, true] rfl rfl (any_of HT_.out (by kernel_rfl)) (fun _ _ _ h => h) (Or.inl ⟨by rfl, ?_⟩) ?_ ?_
                                      rotate_left
                                      · intro w'
                                        go_simp
                                        with_reducible rfl
                                      rotate_left
                                      · simp only [Act.put, List.setIfInBounds_toArray, List.set_cons_zero, List.set_cons_succ, i64_w, i32_w]
                                        rfl
                                      refine done_ (done_of HT_.out (by kernel_rfl)) ?_
                                      try go_wp2_with (first | ((with_reducible refine gate_builtin (b := .append) (xs := #[.tmp 103, .tmp 105]) rfl ?_); at_builtin; refine Kd.R_append Kd.string (w0 := w) w.heap.size rfl (.tmp 103) (.tmp 105) 25 9 (.string ⟨#[]⟩) 16 rfl Tryz.underlying25 info9 rfl (by decide) (by omega) u5 x5_1 t208 [.string t208] (fun _ => True) (fun _ => False) rfl rfl ?aP (fun _ hk => hk.elim) ?aF ?aO ?aB ?aS ?aL ?_; (case aP => exact rfl); (case aB => exact (by repeat (first | (with_reducible first | exact HB.out | apply below_alloc | apply pw_below_drewN | apply below_drew1) | exact HB.out))); (case aF => exact (fun _ _ => trivial)); (case aO => exact (by (with_reducible repeat (first | apply Kd.R_alloc | apply Kd.R_drewN | apply Kd.R_drew)); exact HO_5.out)); (case aS => exact (below_size (by repeat (first | (with_reducible first | exact HB.out | apply below_alloc | apply pw_below_drewN | apply below_drew1) | exact HB.out)))); (case aL => have := LMc38.out; omega); intro v211 w45 ho hb hg hat; rw [← Ny210.out] at ho; have n0_ := Aside0.mk (Kd.R_over' (by (with_reducible repeat (first | apply Kd.R_alloc | apply Kd.R_drewN | apply Kd.R_drew)); exact HO201.out) (Kd.R_typed (by (with_reducible repeat (first | apply Kd.R_alloc | apply Kd.R_drewN | apply Kd.R_drew)); exact HO_5.out)) (by decide) hg); have n1_ := Aside0.mk (hb); have n2_ := Aside0.mk (ho); clear HO201; clear HB; clear HO_5; have HO201 := n0_; have HB := n1_; have HO212 := n2_; clear n0_ n1_ n2_; clear ho hb hg hat))
                                      go_roundg kj14
                                      case measure => have := HK1.out; have := HJ14.out; omega
                                      case rel => exact ⟨(y210), (x8_1), (x8_1), (wrap64 (x8_1 + 1)), (by first | rfl | (simp; done) | (simp [*]; done)), (by first | rfl | (simp; done) | (simp [*]; done)), (by first | rfl | (simp; done) | (simp [*]; done)), H', ⟨by have := HK1.out; have := HJ14.out; omega⟩, ⟨by (with_reducible repeat (first | apply Kd.R_alloc | apply Kd.R_drewN | apply Kd.R_drew)); exact HO212.out⟩, ⟨by repeat (first | (with_reducible first | exact HB.out | apply below_alloc | apply pw_below_drewN | apply below_drew1) | exact HB.out)⟩⟩
                                    · rw [if_neg c38] at H
                                      exact absurd H (by simp)
                                  · rw [if_neg c36] at H
                                    exact absurd H (by simp)
                                · rw [if_neg c35] at H
                                  have c35b0 : (x6_1 == x7_1) = false := beq_eq_false_iff_ne.mpr c35
                                  have c35b1 : (x6_1 != x7_1) = true := bne_iff_ne.mpr c35
                                  by_cases c46 : x5_1.length < 8796093022208
                                  · rw [if_pos c46] at H
                                    have LMc46 := Aside0.mk c46
                                    clear c46
                                    obtain ⟨y213, hy213⟩ : ∃ y_ : List ByteArray, y_ = (x5_1 ++ [t202]) := ⟨_, rfl⟩
                                    replace H : (excelize_squashSqref.l0 kj14 l0 y213 x8_1 x8_1 (wrap64 (x8_1 + 1))) = some r := by first | (rw [hy213]; with_reducible exact H) | (have H2_ := (Option.bind_some _ _).symm.trans H; rw [hy213]; with_reducible exact H2_) | (have H2_ := (Option.bind_some _ _).symm.trans H; with_reducible exact H2_) | with_reducible exact H | (rw [hy213]; exact H) | exact H
                                    have Ny213 := Aside0.mk hy213
                                    clear hy213
                                    have H' := Aside0.mk H
                                    clear H
                                    try go_wp2
                                    have n0_ := Aside0.mk (Kd.R_drew HO_5.out)
                                    have n1_ := Aside0.mk (below_drew1 HB.out)
                                    clear HO_5
                                    clear HB
                                    have HO_5 := n0_
                                    have HB := n1_
                                    clear n0_ n1_
                                    have p197 : 0 ≤ (x6_1 : Int) := of_decide_eq_true (by first | (with_reducible assumption) | assumption)
                                    have q197 : x6_1 < (l0.length : Int) := of_decide_eq_true (by first | (with_reducible assumption) | assumption)
                                    obtain ⟨ad197, A197_0, c197_0, e197, hx197_0, hl197_0, hi197_0⟩ := excelize_squashSqref.at_X HR0.out x6_1 p197 q197
                                    have hw197_0 := hx197_0
                                    cases e197
                                    replace hx197_0 := (HB.out.cell (World.block_lt_of_cell? w _ hx197_0)).trans hx197_0
                                    have HR197_0 := Aside0.mk hi197_0
                                    have HC197_0 := Aside0.mk hl197_0
                                    clear hi197_0 hl197_0
                                    replace p197 := eq_true p197
                                    replace q197 := eq_true q197
                                    have p198 : 0 ≤ (x7_1 : Int) := of_decide_eq_true (by first | (with_reducible assumption) | assumption)
                                    have q198 : x7_1 < (l0.length : Int) := of_decide_eq_true (by first | (with_reducible assumption) | assumption)
                                    obtain ⟨ad198, A198_0, c198_0, e198, hx198_0, hl198_0, hi198_0⟩ := excelize_squashSqref.at_X HR0.out x7_1 p198 q198
                                    have hw198_0 := hx198_0
                                    obtain rfl : ad197 = ad198 := (by injection e198)
                                    replace hx198_0 := (HB.out.cell (World.block_lt_of_cell? w _ hx198_0)).trans hx198_0
                                    have HR198_0 := Aside0.mk hi198_0
                                    have HC198_0 := Aside0.mk hl198_0
                                    clear hi198_0 hl198_0
                                    replace p198 := eq_true p198
                                    replace q198 := eq_true q198
                                    refine start_ (n := 15) (S := fun w' => w'.cell? (ad197.add (x6_1).toNat) = some (.slice A197_0 (rd_L3 l0 x6_1).length c197_0) ∧ w'.cell? (ad197.add (x7_1).toNat) = some (.slice A198_0 (rd_L3 l0 x7_1).length c198_0)) (ds := []) #[false, false, false, false, false, false, false, false, false, false, false, false, false, false, false] (by kernel_rfl) rfl rfl ⟨((HB.out.cell (World.block_lt_of_cell? w _ hw197_0)).trans hw197_0), ((HB.out.cell (World.block_lt_of_cell? w _ hw198_0)).trans hw198_0)⟩ (fun hHeld => ?_); refine with_tabW excelize_squashSqref.tab12 excelize_squashSqref.bits12 (fun HT_ HW_ => ?_)
                                    generalize wc.drew = w47 at HO_5 HB HR197_0 HR198_0 hx197_0 hx198_0 hHeld ⊢
                                    refine pure_ (i := 0) (N := some 72) (v := ?_) (a' := ?_) #[true, false, false, false, false, false, false, false, false, false, false, false, false, false, false] rfl rfl (any_of HT_.out (by kernel_rfl)) (fun _ _ _ h => h) (Or.inl ⟨by rfl, ?_⟩) ?_ ?_
                                    rotate_left
                                    · intro w'
                                      go_simp
                                      with_reducible rfl
                                    rotate_left
                                    · simp only [Act.put, List.setIfInBounds_toArray, List.set_cons_zero, List.set_cons_succ, i64_w, i32_w]
                                      rfl
                                    refine pure_ (i := 1) (N := some 73) (v := ?_) (a' := ?_) #[true, true, false, false, false, false, false, false, false, false, false, false, false, false, false] rfl rfl (any_of HT_.out (by kernel_rfl)) (fun _ _ _ h => h) (Or.inl ⟨by rfl, ?_⟩) ?_ ?_
                                    rotate_left
                                    · intro w'
                                      go_simp
                                      with_reducible rfl
                                    rotate_left
                                    · simp only [Act.put, List.setIfInBounds_toArray, List.set_cons_zero, List.set_cons_succ, i64_w, i32_w]
                                      rfl
                                    refine pure_ (i := 2) (N := some 74) (v := ?_) (a' := ?_) #[true, true, true, false, false, false, false, false, false, false, false, false, false, false, false] rfl rfl (any_of HT_.out (by kernel_rfl)) (fun _ _ _ h => h) (Or.inl ⟨by rfl, ?_⟩) ?_ ?_
                                    rotate_left
                                    · intro w'
                                      go_simp
                                      with_reducible rfl
                                    rotate_left
                                    · simp only [Act.put, List.setIfInBounds_toArray, List.set_cons_zero, List.set_cons_succ, i64_w, i32_w]
                                      rfl
                                    refine pure_ (i := 4) (N := some 76) (v := ?_) (a' := ?_) #[true, true, true, false, true, false, false, false, false, false, false, false, false, false, false] rfl rfl (any_of HT_.out (by kernel_rfl)) (fun _ _ _ h => h) (Or.inl ⟨by rfl, ?_⟩) ?_ ?_
                                    rotate_left
                                    · intro w'
                                      go_simp
                                      with_reducible rfl
                                    rotate_left
                                    · simp only [Act.put, List.setIfInBounds_toArray, List.set_cons_zero, List.set_cons_succ, i64_w, i32_w]
                                      rfl
                                    refine pure_ (i := 5) (N := some 77) (v := ?_) (a' := ?_) #[true, true, true, false, true, true, false, false, false, false, false, false, false, false, false] rfl rfl (any_of HT_.out (by kernel_rfl)) (fun _ _ _ h => h) (Or.inl ⟨by rfl, ?_⟩) ?_ ?_
                                    rotate_left
                                    · intro w'
                                      go_simp
                                      with_reducible rfl
                                    rotate_left
                                    · simp only [Act.put, List.setIfInBounds_toArray, List.set_cons_zero, List.set_cons_succ, i64_w, i32_w]
                                      rfl
                                    refine pure_ (i := 6) (N := some 78) (v := ?_) (a' := ?_) #[true, true, true, false, true, true, true, false, false, false, false, false, false, false, false] rfl rfl (any_of HT_.out (by kernel_rfl)) (fun _ _ _ h => h) (Or.inl ⟨by rfl, ?_⟩) ?_ ?_
                                    rotate_left
                                    · intro w'
                                      go_simp
                                      with_reducible rfl
                                    rotate_left
                                    · simp only [Act.put, List.setIfInBounds_toArray, List.set_cons_zero, List.set_cons_succ, i64_w, i32_w]
                                      rfl
                                    refine take_ (i := 3) (N := some 75) (v := ?_) (a' := ?_) #[true, true, true, true, true, true, true, false, false, false, false, false, false, false, false] rfl rfl (take_ofW HT_.out HW_.out (by kernel_rfl)) (fun _ _ _ h => h) (Or.inl ⟨by rfl, ?_⟩) hHeld ?_ ?_
                                    rotate_left
                                    · rintro w' ⟨s0, s1⟩
                                      go_simp
                                      with_reducible rfl
                                    rotate_left
                                    · simp only [Act.put, List.setIfInBounds_toArray, List.set_cons_zero, List.set_cons_succ, i64_w, i32_w]
                                      rfl
                                    refine take_ (i := 7) (N := some 79) (v := ?_) (a' := ?_) #[true, true, true, true, true, true, true, true, false, false, false, false, false, false, false] rfl rfl (take_ofW HT_.out HW_.out (by kernel_rfl)) (fun _ _ _ h => h) (Or.inl ⟨by rfl, ?_⟩) hHeld ?_ ?_
                                    rotate_left
                                    · rintro w' ⟨s0, s1⟩
                                      go_simp
                                      with_reducible rfl
                                    rotate_left
                                    · simp only [Act.put, List.setIfInBounds_toArray, List.set_cons_zero, List.set_cons_succ, i64_w, i32_w]
                                      rfl
                                    refine one_ (i := 8) (N := some 80) #[true, true, true, true, true, true, true, true, true, false, false, false, false, false, false] rfl rfl (one_of HT_.out (by kernel_rfl)) (by decide) (fun K hK => ?_)
                                    refine Full.append_full_step (w0 := w) w.heap.size (by rfl) (.tmp 75) (.tmp 79) 36 3 (.int .i64 0) 8 rfl Tryz.underlying36 info3 rfl (by decide) (by omega) (.slice A197_0 (rd_L3 l0 x6_1).length c197_0) (rd_L3 l0 x6_1) (rd_L3 l0 x7_1) _ _ _ (fun _ => True) (fun _ => False) rfl rfl ?aO ?aR (fun _ _ h => h) (fun _ h => h.elim) ?aF ?aB ?aS ?aL ?_
                                    (case aR => repeat (first | exact (Kd.C_below HR198_0.out HB.out) | (with_reducible refine Kd.C_alloc ?_ _) | (with_reducible refine Kd.C_drewN ?_ _) | (with_reducible refine Kd.C_drew ?_)))
                                    (case aB => exact (by repeat (first | (with_reducible first | exact HB.out | apply below_alloc | apply pw_below_drewN | apply below_drew1) | exact HB.out)))
                                    (case aF => exact (fun _ _ => trivial))
                                    (case aO => exact ⟨A197_0, by rw [HC197_0.out], by repeat (first | exact (Kd.C_below HR197_0.out HB.out) | (with_reducible refine Kd.C_alloc ?_ _) | (with_reducible refine Kd.C_drewN ?_ _) | (with_reducible refine Kd.C_drew ?_)), (by have hz_ := of_decide_eq_true (show decide (0 < ((rd_L3 l0 x6_1).length : Int)) = true by first | (with_reducible assumption) | assumption); omega), (by have hz_ := of_decide_eq_true (show decide (0 < ((rd_L3 l0 x7_1).length : Int)) = true by first | (with_reducible assumption) | assumption); omega)⟩)
                                    (case aS => exact (below_size (by repeat (first | (with_reducible first | exact HB.out | apply below_alloc | apply pw_below_drewN | apply below_drew1) | exact HB.out))))
                                    (case aL => have := LMc33.out; omega)
                                    intro v200 w48 ho hb hg hat
                                    rw [← Ny199.out] at ho
                                    have n0_ := Aside0.mk (Kd.R_grown (by (with_reducible repeat (first | apply Kd.R_alloc | apply Kd.R_drewN | apply Kd.R_drew)); exact HO_5.out) hg (fun _ _ => by simp [Value.ownBlock]))
                                    have n1_ := Aside0.mk (hb)
                                    have n2_ := Aside0.mk (ho)
                                    clear HO_5
                                    clear HB
                                    have HO_5 := n0_
                                    have HB := n1_
                                    have HO201 := n2_
                                    clear n0_ n1_ n2_
                                    clear ho hb hg hat
                                    obtain ⟨Ao49, co49, eo49⟩ := Kd.R_slice HO201.out
                                    (first | subst eo49 | (injection eo49 with f1_ f2_ f3_; have f4_ := f1_.symm; have f5_ := f3_.symm; clear f1_ f2_ f3_; subst f4_; subst f5_))
                                    refine hK.out _ _ ⟨((HB.out.cell (World.block_lt_of_cell? w _ hw197_0)).trans hw197_0), ((HB.out.cell (World.block_lt_of_cell? w _ hw198_0)).trans hw198_0)⟩ (fun hHeld => ?_)
                                    clear hK K
                                    refine norm_ (a' := ?_) ?_ ?_
                                    rotate_left
                                    · show Act.put _ (some 80) _ = _
                                      simp only [Act.put, List.setIfInBounds_toArray, List.set_cons_zero, List.set_cons_succ, i64_w, i32_w]
                                      rfl
                                    refine one_ (i := 9) (N := some 81) #[true, true, true, true, true, true, true, true, true, true, false, false, false, false, false] rfl rfl (one_of HT_.out (by kernel_rfl)) (by decide) (fun K hK => ?_)
                                    refine goes_ Tryz.func56 (by kernel_rfl) rfl #[.slice Ao49 y199.length co49, .slice none 0 0] (by rfl) rfl rfl (by (try simp only [List.map_toArray, List.map_cons, List.map_nil]); first | done | rfl | (simp only [List.length_drop, List.length_take]; rfl)) ?_
                                    refine (excelize_coordinatesToRangeRef.calls kj14 _ _ y199 _ _ ([] : List Bool) t202 t203 _ ?side1 ?side2 ?side3 ?side4 A34.out).mono ?_
                                    (case side1 => repeat (first | exact (Kd.R_reads' HO201.out).2.2 | (with_reducible refine Kd.C_alloc ?_ _) | (with_reducible refine Kd.C_drewN ?_ _) | (with_reducible refine Kd.C_drew ?_)))
                                    (case side2 => exact (Kd.R_reads' HO201.out).2.1)
                                    (case side3 => exact Kd.C_nil _ _)
                                    (case side4 => exact Nat.le_refl _)
                                    rintro e w50 ⟨rfl, hb⟩
                                    refine ⟨_, rfl, ?_⟩
                                    have n0_ := Aside0.mk (Kd.R_below (by (with_reducible repeat (first | apply Kd.R_alloc | apply Kd.R_drewN | apply Kd.R_drew)); exact HO_5.out) hb)
                                    have n1_ := Aside0.mk (Kd.R_below (by (with_reducible repeat (first | apply Kd.R_alloc | apply Kd.R_drewN | apply Kd.R_drew)); exact HO201.out) hb)
                                    have n2_ := Aside0.mk (below_step (by repeat (first | (with_reducible first | exact HB.out | apply below_alloc | apply pw_below_drewN | apply below_drew1) | exact HB.out)) hb)
                                    clear HO_5
                                    clear HO201
                                    clear HB
                                    have HO_5 := n0_
                                    have HO201 := n1_
                                    have HB := n2_
                                    clear n0_ n1_ n2_
                                    (try clear hb)
                                    (try clear hb2)
                                    (try clear hk)
                                    (try clear hi)
                                    (try simp only [errW_none, errW_some])
                                    refine hK.out _ _ ⟨((HB.out.cell (World.block_lt_of_cell? w _ hw197_0)).trans hw197_0), ((HB.out.cell (World.block_lt_of_cell? w _ hw198_0)).trans hw198_0)⟩ (fun hHeld => ?_)
                                    clear hK K
                                    refine norm_ (a' := ?_) ?_ ?_
                                    rotate_left
                                    · show Act.put _ (some 81) _ = _
                                      simp only [Act.put, List.setIfInBounds_toArray, List.set_cons_zero, List.set_cons_succ, i64_w, i32_w]
                                      rfl
                                    refine pure_ (i := 10) (N := some 71) (v := ?_) (a' := ?_) #[true, true, true, true, true, true, true, true, true, true, true, false, false, false, false] rfl rfl (any_of HT_.out (by kernel_rfl)) (fun _ _ _ h => h) (Or.inl ⟨by rfl, ?_⟩) ?_ ?_
                                    rotate_left
                                    · intro w'
                                      go_simp
                                      with_reducible rfl
                                    rotate_left
                                    · simp only [Act.put, List.setIfInBounds_toArray, List.set_cons_zero, List.set_cons_succ, i64_w, i32_w]
                                      rfl
                                    refine pure_ (i := 11) (N := some 82) (v := ?_) (a' := ?_) #[true, true, true, true, true, true, true, true, true, true, true, true, false, false, false] rfl rfl (any_of HT_.out (by kernel_rfl)) (fun _ _ _ h => h) (Or.inl ⟨by rfl, ?_⟩) ?_ ?_
                                    rotate_left
                                    · intro w'
                                      go_simp
                                      with_reducible rfl
                                    rotate_left
                                    · simp only [Act.put, List.setIfInBounds_toArray, List.set_cons_zero, List.set_cons_succ, i64_w, i32_w]
                                      rfl
                                    refine pure_ (i := 12) (N := some 83) (v := ?_) (a' := ?_) #[true, true, true, true, true, true, true, true, true, true, true, true, true, false, false] rfl rfl (any_of HT_.out (by kernel_rfl)) (fun _ _ _ h => h) (Or.inl ⟨by rfl, ?_⟩) ?_ ?_
                                    rotate_left
                                    · intro w'
                                      go_simp
                                      with_reducible rfl
                                    rotate_left
                                    · simp only [Act.put, List.setIfInBounds_toArray, List.set_cons_zero, List.set_cons_succ, i64_w, i32_w]
                                      rfl
                                    refine pure_ (i := 13) (N := some 9) (v := ?_) (a' := ?_) #[true, true, true, true, true, true, true, true, true, true, true, true, true, true, false] rfl rfl (any_of HT_.out (by kernel_rfl)) (fun _ _ _ h => h) (Or.inl ⟨by rfl, ?_⟩) ?_ ?_
                                    rotate_left
                                    · intro w'
                                      go_simp
                                      with_reducible rfl
                                    rotate_left
                                    · simp only [Act.put, List.setIfInBounds_toArray, List.set_cons_zero, List.set_cons_succ, i64_w, i32_w]
                                      rfl
                                    refine pure_ (i := 14) (N := some 10) (v := ?_) (a' := ?_) #[true, true, true, true, true, true, true, true, true, true, true, true, true, true, true] rfl rfl (any_of HT_.out (by kernel_rfl)) (fun _ _ _ h => h) (Or.inl ⟨by rfl, ?_⟩) ?_ ?_
                                    rotate_left
                                    · intro w'
                                      go_simp
                                      with_reducible rfl
                                    rotate_left
                                    · simp only [Act.put, List.setIfInBounds_toArray, List.set_cons_zero, List.set_cons_succ, i64_w, i32_w]
                                      rfl
                                    refine done_ (done_of HT_.out (by kernel_rfl)) ?_
                                    try go_wp2_with (first | ((with_reducible refine gate_builtin (b := .append) (xs := #[.tmp 103, .tmp 105]) rfl ?_); at_builtin; refine Kd.R_append Kd.string (w0 := w) w.heap.size rfl (.tmp 103) (.tmp 105) 25 9 (.string ⟨#[]⟩) 16 rfl Tryz.underlying25 info9 rfl (by decide) (by omega) u5 x5_1 t202 [.string t202] (fun _ => True) (fun _ => False) rfl rfl ?aP (fun _ hk => hk.elim) ?aF ?aO ?aB ?aS ?aL ?_; (case aP => exact rfl); (case aB => exact (by repeat (first | (with_reducible first | exact HB.out | apply below_alloc | apply pw_below_drewN | apply below_drew1) | exact HB.out))); (case aF => exact (fun _ _ => trivial)); (case aO => exact (by (with_reducible repeat (first | apply Kd.R_alloc | apply Kd.R_drewN | apply Kd.R_drew)); exact HO_5.out)); (case aS => exact (below_size (by repeat (first | (with_reducible first | exact HB.out | apply below_alloc | apply pw_below_drewN | apply below_drew1) | exact HB.out)))); (case aL => have := LMc46.out; omega); intro v214 w51 ho hb hg hat; rw [← Ny213.out] at ho; have n0_ := Aside0.mk (Kd.R_over' (by (with_reducible repeat (first | apply Kd.R_alloc | apply Kd.R_drewN | apply Kd.R_drew)); exact HO201.out) (Kd.R_typed (by (with_reducible repeat (first | apply Kd.R_alloc | apply Kd.R_drewN | apply Kd.R_drew)); exact HO_5.out)) (by decide) hg); have n1_ := Aside0.mk (hb); have n2_ := Aside0.mk (ho); clear HO201; clear HB; clear HO_5; have HO201 := n0_; have HB := n1_; have HO215 := n2_; clear n0_ n1_ n2_; clear ho hb hg hat))
                                    go_roundg kj14
                                    case measure => have := HK1.out; have := HJ14.out; omega
                                    case rel => exact ⟨(y213), (x8_1), (x8_1), (wrap64 (x8_1 + 1)), (by first | rfl | (simp; done) | (simp [*]; done)), (by first | rfl | (simp; done) | (simp [*]; done)), (by first | rfl | (simp; done) | (simp [*]; done)), H', ⟨by have := HK1.out; have := HJ14.out; omega⟩, ⟨by (with_reducible repeat (first | apply Kd.R_alloc | apply Kd.R_drewN | apply Kd.R_drew)); exact HO215.out⟩, ⟨by repeat (first | (with_reducible first | exact HB.out | apply below_alloc | apply pw_below_drewN | apply below_drew1) | exact HB.out)⟩⟩
                                  · rw [if_neg c46] at H
                                    exact absurd H (by simp)
                              · rw [if_neg c33] at H
                                exact absurd H (by simp)
                            · rw [if_neg c32] at H
                              exact absurd H (by simp)
                          · rw [if_neg c31] at H
                            exact absurd H (by simp)
                        · rw [if_neg c30] at H
                          exact absurd H (by simp)
                      · rw [if_neg c29] at H
                        exact absurd H (by simp)
                    · rw [if_neg c28] at H
                      exact absurd H (by simp)
                  · rw [if_neg c27] at H
                    exact absurd H (by simp)
                · replace c26 := Bool.eq_false_iff.mpr c26
                  subst c26
                  have H1 : (excelize_squashSqref.l0 kj14 l0 x5_1 x6_1 (wrap64 (x7_1 + 1)) (wrap64 (x8_1 + 1))) = some r := by rw [if_neg (show ¬ (false = true) by decide)] at H; exact H
                  clear H
                  have H := H1
                  clear H1
                  have H' := Aside0.mk H
                  clear H
                  go_wp2
                  go_roundg kj14
                  case measure => have := HK1.out; have := HJ14.out; omega
                  case rel => exact ⟨(x5_1), (x6_1), (wrap64 (x7_1 + 1)), (wrap64 (x8_1 + 1)), (by first | rfl | (simp; done) | (simp [*]; done)), (by first | rfl | (simp; done) | (simp [*]; done)), (by first | rfl | (simp; done) | (simp [*]; done)), H', ⟨by have := HK1.out; have := HJ14.out; omega⟩, ⟨by (with_reducible repeat (first | apply Kd.R_alloc | apply Kd.R_drewN | apply Kd.R_drew)); exact HO_5.out⟩, ⟨by repeat (first | (with_reducible first | exact HB.out | apply below_alloc | apply pw_below_drewN | apply below_drew1) | exact HB.out)⟩⟩
          · rw [if_neg c14] at H
            have c14b0 : decide (x8_1 < (l0.length : Int)) = false := decide_eq_false c14
            clear c14
            by_cases c52 : 0 ≤ x6_1
            · rw [if_pos c52] at H
              have c52b0 : decide (0 ≤ x6_1) = true := decide_eq_true c52
              clear c52
              by_cases c53 : x6_1 < (l0.length : Int)
              · rw [if_pos c53] at H
                have c53b0 : decide (x6_1 < (l0.length : Int)) = true := decide_eq_true c53
                clear c53
                by_cases c54 : 0 ≤ x7_1
                · rw [if_pos c54] at H
                  have c54b0 : decide (0 ≤ x7_1) = true := decide_eq_true c54
                  clear c54
                  by_cases c55 : x7_1 < (l0.length : Int)
                  · rw [if_pos c55] at H
                    have c55b0 : decide (x7_1 < (l0.length : Int)) = true := decide_eq_true c55
                    clear c55
                    by_cases c56 : 0 < ((rd_L3 l0 x6_1).length : Int)
                    · rw [if_pos c56] at H
                      have c56b0 : decide (0 < ((rd_L3 l0 x6_1).length : Int)) = true := decide_eq_true c56
                      have c56b1 : decide (0 < (rd_L3 l0 x6_1).length) = true := decide_eq_true (by omega)
                      clear c56
                      by_cases c57 : 0 < ((rd_L3 l0 x7_1).length : Int)
                      · rw [if_pos c57] at H
                        have c57b0 : decide (0 < ((rd_L3 l0 x7_1).length : Int)) = true := decide_eq_true c57
                        have c57b1 : decide (0 < (rd_L3 l0 x7_1).length) = true := decide_eq_true (by omega)
                        clear c57
                        by_cases c58 : (rd_L3 l0 x6_1).length + (rd_L3 l0 x7_1).length < 17592186044416
                        · rw [if_pos c58] at H
                          have LMc58 := Aside0.mk c58
                          clear c58
                          obtain ⟨y218, hy218⟩ : ∃ y_ : List Int, y_ = ((rd_L3 l0 x6_1) ++ (rd_L3 l0 x7_1)) := ⟨_, rfl⟩
                          replace H : ((excelize_coordinatesToRangeRef.f k1 y218 ([] : List Bool)).bind fun bt221 => (if x6_1 = x7_1 then (if 1 < ((rd_L3 l0 x6_1).length : Int) then ((excelize_CoordinatesToCellName.f k1 (rd (rd_L3 l0 x6_1) 0) (rd (rd_L3 l0 x6_1) 1) ([] : List Bool)).bind fun bt227 => (if x5_1.length < 8796093022208 then (some (x5_1 ++ [bt227.1])) else (none))) else (none)) else (if x5_1.length < 8796093022208 then (some (x5_1 ++ [bt221.1])) else (none)))) = some r := by first | (rw [hy218]; with_reducible exact H) | (have H2_ := (Option.bind_some _ _).symm.trans H; rw [hy218]; with_reducible exact H2_) | (have H2_ := (Option.bind_some _ _).symm.trans H; with_reducible exact H2_) | with_reducible exact H | (rw [hy218]; exact H) | exact H
                          have Ny218 := Aside0.mk hy218
                          clear hy218
                          replace H := Option.bind_eq_some_iff.mp H
                          obtain ⟨⟨t221, t222⟩, A590, H⟩ := H
                          replace H : (if x6_1 = x7_1 then (if 1 < ((rd_L3 l0 x6_1).length : Int) then ((excelize_CoordinatesToCellName.f k1 (rd (rd_L3 l0 x6_1) 0) (rd (rd_L3 l0 x6_1) 1) ([] : List Bool)).bind fun bt227 => (if x5_1.length < 8796093022208 then (some (x5_1 ++ [bt227.1])) else (none))) else (none)) else (if x5_1.length < 8796093022208 then (some (x5_1 ++ [t221])) else (none))) = some r := H
                          have A59 := Aside0.mk A590
                          clear A590
                          by_cases c60 : x6_1 = x7_1
                          · rw [if_pos c60] at H
                            have c60b0 : (x6_1 == x7_1) = true := beq_iff_eq.mpr c60
                            have c60b1 : (x6_1 != x7_1) = false := bne_eq_false_iff_eq.mpr c60
                            clear c60
                            by_cases c61 : 1 < ((rd_L3 l0 x6_1).length : Int)
                            · rw [if_pos c61] at H
                              have c61b0 : decide (1 < ((rd_L3 l0 x6_1).length : Int)) = true := decide_eq_true c61
                              have c61b1 : decide (1 < (rd_L3 l0 x6_1).length) = true := decide_eq_true (by omega)
                              clear c61
                              replace H := Option.bind_eq_some_iff.mp H
                              obtain ⟨⟨t227, t228⟩, A620, H⟩ := H
                              replace H : (if x5_1.length < 8796093022208 then (some (x5_1 ++ [t227])) else (none)) = some r := H
                              have A62 := Aside0.mk A620
                              clear A620
                              by_cases c63 : x5_1.length < 8796093022208
                              · rw [if_pos c63] at H
                                have LMc63 := Aside0.mk c63
                                clear c63
                                obtain ⟨y229, hy229⟩ : ∃ y_ : List ByteArray, y_ = (x5_1 ++ [t227]) := ⟨_, rfl⟩
                                replace H : (some y229) = some r := by first | (rw [hy229]; with_reducible exact H) | (have H2_ := (Option.bind_some _ _).symm.trans H; rw [hy229]; with_reducible exact H2_) | (have H2_ := (Option.bind_some _ _).symm.trans H; with_reducible exact H2_) | with_reducible exact H | (rw [hy229]; exact H) | exact H
                                have Ny229 := Aside0.mk hy229
                                clear hy229
                                obtain rfl := Option.some.inj H
                                try go_wp2
                                have n0_ := Aside0.mk (Kd.R_drew HO_5.out)
                                have n1_ := Aside0.mk (below_drew1 HB.out)
                                clear HO_5
                                clear HB
                                have HO_5 := n0_
                                have HB := n1_
                                clear n0_ n1_
                                have p216 : 0 ≤ (x6_1 : Int) := of_decide_eq_true (by first | (with_reducible assumption) | assumption)
                                have q216 : x6_1 < (l0.length : Int) := of_decide_eq_true (by first | (with_reducible assumption) | assumption)
                                obtain ⟨ad216, A216_0, c216_0, e216, hx216_0, hl216_0, hi216_0⟩ := excelize_squashSqref.at_X HR0.out x6_1 p216 q216
                                have hw216_0 := hx216_0
                                cases e216
                                replace hx216_0 := (HB.out.cell (World.block_lt_of_cell? w _ hx216_0)).trans hx216_0
                                have HR216_0 := Aside0.mk hi216_0
                                have HC216_0 := Aside0.mk hl216_0
                                clear hi216_0 hl216_0
                                replace p216 := eq_true p216
                                replace q216 := eq_true q216
                                have p217 : 0 ≤ (x7_1 : Int) := of_decide_eq_true (by first | (with_reducible assumption) | assumption)
                                have q217 : x7_1 < (l0.length : Int) := of_decide_eq_true (by first | (with_reducible assumption) | assumption)
                                obtain ⟨ad217, A217_0, c217_0, e217, hx217_0, hl217_0, hi217_0⟩ := excelize_squashSqref.at_X HR0.out x7_1 p217 q217
                                have hw217_0 := hx217_0
                                obtain rfl : ad216 = ad217 := (by injection e217)
                                replace hx217_0 := (HB.out.cell (World.block_lt_of_cell? w _ hx217_0)).trans hx217_0
                                have HR217_0 := Aside0.mk hi217_0
                                have HC217_0 := Aside0.mk hl217_0
                                clear hi217_0 hl217_0
                                replace p217 := eq_true p217
                                replace q217 := eq_true q217
                                refine start_ (n := 15) (S := fun w' => w'.cell? (ad216.add (x6_1).toNat) = some (.slice A216_0 (rd_L3 l0 x6_1).length c216_0) ∧ w'.cell? (ad216.add (x7_1).toNat) = some (.slice A217_0 (rd_L3 l0 x7_1).length c217_0)) (ds := []) #[false, false, false, false, false, false, false, false, false, false, false, false, false, false, false] (by kernel_rfl) rfl rfl ⟨((HB.out.cell (World.block_lt_of_cell? w _ hw216_0)).trans hw216_0), ((HB.out.cell (World.block_lt_of_cell? w _ hw217_0)).trans hw217_0)⟩ (fun hHeld => ?_); refine with_tabW excelize_squashSqref.tab18 excelize_squashSqref.bits18 (fun HT_ HW_ => ?_)
                                generalize wr.drew = w64 at HO_5 HB HR216_0 HR217_0 hx216_0 hx217_0 hHeld ⊢
                                refine pure_ (i := 0) (N := some 112) (v := ?_) (a' := ?_) #[true, false, false, false, false, false, false, false, false, false, false, false, false, false, false] rfl rfl (any_of HT_.out (by kernel_rfl)) (fun _ _ _ h => h) (Or.inl ⟨by rfl, ?_⟩) ?_ ?_
                                rotate_left
                                · intro w'
                                  go_simp
                                  with_reducible rfl
                                rotate_left
                                · simp only [Act.put, List.setIfInBounds_toArray, List.set_cons_zero, List.set_cons_succ, i64_w, i32_w]
                                  rfl
                                refine pure_ (i := 1) (N := some 113) (v := ?_) (a' := ?_) #[true, true, false, false, false, false, false, false, false, false, false, false, false, false, false] rfl rfl (any_of HT_.out (by kernel_rfl)) (fun _ _ _ h => h) (Or.inl ⟨by rfl, ?_⟩) ?_ ?_
                                rotate_left
                                · intro w'
                                  go_simp
                                  with_reducible rfl
                                rotate_left
                                · simp only [Act.put, List.setIfInBounds_toArray, List.set_cons_zero, List.set_cons_succ, i64_w, i32_w]
                                  rfl
                                refine pure_ (i := 2) (N := some 114) (v := ?_) (a' := ?_) #[true, true, true, false, false, false, false, false, false, false, false, false, false, false, false] rfl rfl (any_of HT_.out (by kernel_rfl)) (fun _ _ _ h => h) (Or.inl ⟨by rfl, ?_⟩) ?_ ?_
                                rotate_left
                                · intro w'
                                  go_simp
                                  with_reducible rfl
                                rotate_left
                                · simp only [Act.put, List.setIfInBounds_toArray, List.set_cons_zero, List.set_cons_succ, i64_w, i32_w]
                                  rfl
                                refine pure_ (i := 4) (N := some 116) (v := ?_) (a' := ?_) #[true, true, true, false, true, false, false, false, false, false, false, false, false, false, false] rfl rfl (any_of HT_.out (by kernel_rfl)) (fun _ _ _ h => h) (Or.inl ⟨by rfl, ?_⟩) ?_ ?_
                                rotate_left
                                · intro w'
                                  go_simp
                                  with_reducible rfl
                                rotate_left
                                · simp only [Act.put, List.setIfInBounds_toArray, List.set_cons_zero, List.set_cons_succ, i64_w, i32_w]
                                  rfl
                                refine pure_ (i := 5) (N := some 117) (v := ?_) (a' := ?_) #[true, true, true, false, true, true, false, false, false, false, false, false, false, false, false] rfl rfl (any_of HT_.out (by kernel_rfl)) (fun _ _ _ h => h) (Or.inl ⟨by rfl, ?_⟩) ?_ ?_
                                rotate_left
                                · intro w'
                                  go_simp
                                  with_reducible rfl
                                rotate_left
                                · simp only [Act.put, List.setIfInBounds_toArray, List.set_cons_zero, List.set_cons_succ, i64_w, i32_w]
                                  rfl
                                refine pure_ (i := 6) (N := some 118) (v := ?_) (a' := ?_) #[true, true, true, false, true, true, true, false, false, false, false, false, false, false, false] rfl rfl (any_of HT_.out (by kernel_rfl)) (fun _ _ _ h => h) (Or.inl ⟨by rfl, ?_⟩) ?_ ?_
                                rotate_left
                                · intro w'
                                  go_simp
                                  with_reducible rfl
                                rotate_left
                                · simp only [Act.put, List.setIfInBounds_toArray, List.set_cons_zero, List.set_cons_succ, i64_w, i32_w]
                                  rfl
                                refine take_ (i := 3) (N := some 115) (v := ?_) (a' := ?_) #[true, true, true, true, true, true, true, false, false, false, false, false, false, false, false] rfl rfl (take_ofW HT_.out HW_.out (by kernel_rfl)) (fun _ _ _ h => h) (Or.inl ⟨by rfl, ?_⟩) hHeld ?_ ?_
                                rotate_left
                                · rintro w' ⟨s0, s1⟩
                                  go_simp
                                  with_reducible rfl
                                rotate_left
                                · simp only [Act.put, List.setIfInBounds_toArray, List.set_cons_zero, List.set_cons_succ, i64_w, i32_w]
                                  rfl
                                refine take_ (i := 7) (N := some 119) (v := ?_) (a' := ?_) #[true, true, true, true, true, true, true, true, false, false, false, false, false, false, false] rfl rfl (take_ofW HT_.out HW_.out (by kernel_rfl)) (fun _ _ _ h => h) (Or.inl ⟨by rfl, ?_⟩) hHeld ?_ ?_
                                rotate_left
                                · rintro w' ⟨s0, s1⟩
                                  go_simp
                                  with_reducible rfl
                                rotate_left
                                · simp only [Act.put, List.setIfInBounds_toArray, List.set_cons_zero, List.set_cons_succ, i64_w, i32_w]
                                  rfl
                                refine one_ (i := 8) (N := some 120) #[true, true, true, true, true, true, true, true, true, false, false, false, false, false, false] rfl rfl (one_of HT_.out (by kernel_rfl)) (by decide) (fun K hK => ?_)
                                refine Full.append_full_step (w0 := w) w.heap.size (by rfl) (.tmp 115) (.tmp 119) 36 3 (.int .i64 0) 8 rfl Tryz.underlying36 info3 rfl (by decide) (by omega) (.slice A216_0 (rd_L3 l0 x6_1).length c216_0) (rd_L3 l0 x6_1) (rd_L3 l0 x7_1) _ _ _ (fun _ => True) (fun _ => False) rfl rfl ?aO ?aR (fun _ _ h => h) (fun _ h => h.elim) ?aF ?aB ?aS ?aL ?_
                                (case aR => repeat (first | exact (Kd.C_below HR217_0.out HB.out) | (with_reducible refine Kd.C_alloc ?_ _) | (with_reducible refine Kd.C_drewN ?_ _) | (with_reducible refine Kd.C_drew ?_)))
                                (case aB => exact (by repeat (first | (with_reducible first | exact HB.out | apply below_alloc | apply pw_below_drewN | apply below_drew1) | exact HB.out)))
                                (case aF => exact (fun _ _ => trivial))
                                (case aO => exact ⟨A216_0, by rw [HC216_0.out], by repeat (first | exact (Kd.C_below HR216_0.out HB.out) | (with_reducible refine Kd.C_alloc ?_ _) | (with_reducible refine Kd.C_drewN ?_ _) | (with_reducible refine Kd.C_drew ?_)), (by have hz_ := of_decide_eq_true (show decide (0 < ((rd_L3 l0 x6_1).length : Int)) = true by first | (with_reducible assumption) | assumption); omega), (by have hz_ := of_decide_eq_true (show decide (0 < ((rd_L3 l0 x7_1).length : Int)) = true by first | (with_reducible assumption) | assumption); omega)⟩)
                                (case aS => exact (below_size (by repeat (first | (with_reducible first | exact HB.out | apply below_alloc | apply pw_below_drewN | apply below_drew1) | exact HB.out))))
                                (case aL => have := LMc58.out; omega)
                                intro v219 w65 ho hb hg hat
                                rw [← Ny218.out] at ho
                                have n0_ := Aside0.mk (Kd.R_grown (by (with_reducible repeat (first | apply Kd.R_alloc | apply Kd.R_drewN | apply Kd.R_drew)); exact HO_5.out) hg (fun _ _ => by simp [Value.ownBlock]))
                                have n1_ := Aside0.mk (hb)
                                have n2_ := Aside0.mk (ho)
                                clear HO_5
                                clear HB
                                have HO_5 := n0_
                                have HB := n1_
                                have HO220 := n2_
                                clear n0_ n1_ n2_
                                clear ho hb hg hat
                                obtain ⟨Ao66, co66, eo66⟩ := Kd.R_slice HO220.out
                                (first | subst eo66 | (injection eo66 with f1_ f2_ f3_; have f4_ := f1_.symm; have f5_ := f3_.symm; clear f1_ f2_ f3_; subst f4_; subst f5_))
                                refine hK.out _ _ ⟨((HB.out.cell (World.block_lt_of_cell? w _ hw216_0)).trans hw216_0), ((HB.out.cell (World.block_lt_of_cell? w _ hw217_0)).trans hw217_0)⟩ (fun hHeld => ?_)
                                clear hK K
                                refine norm_ (a' := ?_) ?_ ?_
                                rotate_left
                                · show Act.put _ (some 120) _ = _
                                  simp only [Act.put, List.setIfInBounds_toArray, List.set_cons_zero, List.set_cons_succ, i64_w, i32_w]
                                  rfl
                                refine one_ (i := 9) (N := some 121) #[true, true, true, true, true, true, true, true, true, true, false, false, false, false, false] rfl rfl (one_of HT_.out (by kernel_rfl)) (by decide) (fun K hK => ?_)
                                refine goes_ Tryz.func56 (by kernel_rfl) rfl #[.slice Ao66 y218.length co66, .slice none 0 0] (by rfl) rfl rfl (by (try simp only [List.map_toArray, List.map_cons, List.map_nil]); first | done | rfl | (simp only [List.length_drop, List.length_take]; rfl)) ?_
                                refine (excelize_coordinatesToRangeRef.calls k1 _ _ y218 _ _ ([] : List Bool) t221 t222 _ ?side1 ?side2 ?side3 ?side4 A59.out).mono ?_
                                (case side1 => repeat (first | exact (Kd.R_reads' HO220.out).2.2 | (with_reducible refine Kd.C_alloc ?_ _) | (with_reducible refine Kd.C_drewN ?_ _) | (with_reducible refine Kd.C_drew ?_)))
                                (case side2 => exact (Kd.R_reads' HO220.out).2.1)
                                (case side3 => exact Kd.C_nil _ _)
                                (case side4 => exact Nat.le_refl _)
                                rintro e w67 ⟨rfl, hb⟩
                                refine ⟨_, rfl, ?_⟩
                                have n0_ := Aside0.mk (Kd.R_below (by (with_reducible repeat (first | apply Kd.R_alloc | apply Kd.R_drewN | apply Kd.R_drew)); exact HO_5.out) hb)
                                have n1_ := Aside0.mk (Kd.R_below (by (with_reducible repeat (first | apply Kd.R_alloc | apply Kd.R_drewN | apply Kd.R_drew)); exact HO220.out) hb)
                                have n2_ := Aside0.mk (below_step (by repeat (first | (with_reducible first | exact HB.out | apply below_alloc | apply pw_below_drewN | apply below_drew1) | exact HB.out)) hb)
                                clear HO_5
                                clear HO220
                                clear HB
                                have HO_5 := n0_
                                have HO220 := n1_
                                have HB := n2_
                                clear n0_ n1_ n2_
                                (try clear hb)
                                (try clear hb2)
                                (try clear hk)
                                (try clear hi)
                                (try simp only [errW_none, errW_some])
                                refine hK.out _ _ ⟨((HB.out.cell (World.block_lt_of_cell? w _ hw216_0)).trans hw216_0), ((HB.out.cell (World.block_lt_of_cell? w _ hw217_0)).trans hw217_0)⟩ (fun hHeld => ?_)
                                clear hK K
                                refine norm_ (a' := ?_) ?_ ?_
                                rotate_left
                                · show Act.put _ (some 121) _ = _
                                  simp only [Act.put, List.setIfInBounds_toArray, List.set_cons_zero, List.set_cons_succ, i64_w, i32_w]
                                  rfl
                                refine pure_ (i := 10) (N := some 111) (v := ?_) (a' := ?_) #[true, true, true, true, true, true, true, true, true, true, true, false, false, false, false] rfl rfl (any_of HT_.out (by kernel_rfl)) (fun _ _ _ h => h) (Or.inl ⟨by rfl, ?_⟩) ?_ ?_
                                rotate_left
                                · intro w'
                                  go_simp
                                  with_reducible rfl
                                rotate_left
                                · simp only [Act.put, List.setIfInBounds_toArray, List.set_cons_zero, List.set_cons_succ, i64_w, i32_w]
                                  rfl
                                refine pure_ (i := 11) (N := some 122) (v := ?_) (a' := ?_) #[true, true, true, true, true, true, true, true, true, true, true, true, false, false, false] rfl rfl (any_of HT_.out (by kernel_rfl)) (fun _ _ _ h => h) (Or.inl ⟨by rfl, ?_⟩) ?_ ?_
                                rotate_left
                                · intro w'
                                  go_simp
                                  with_reducible rfl
                                rotate_left
                                · simp only [Act.put, List.setIfInBounds_toArray, List.set_cons_zero, List.set_cons_succ, i64_w, i32_w]
                                  rfl
                                refine pure_ (i := 12) (N := some 123) (v := ?_) (a' := ?_) #[true, true, true, true, true, true, true, true, true, true, true, true, true, false, false] rfl rfl (any_of HT_.out (by kernel_rfl)) (fun _ _ _ h => h) (Or.inl ⟨by rfl, ?_⟩) ?_ ?_
                                rotate_left
                                · intro w'
                                  go_simp
                                  with_reducible rfl
                                rotate_left
                                · simp only [Act.put, List.setIfInBounds_toArray, List.set_cons_zero, List.set_cons_succ, i64_w, i32_w]
                                  rfl
                                refine pure_ (i := 13) (N := some 11) (v := ?_) (a' := ?_) #[true, true, true, true, true, true, true, true, true, true, true, true, true, true, false] rfl rfl (any_of HT_.out (by kernel_rfl)) (fun _ _ _ h => h) (Or.inl ⟨by rfl, ?_⟩) ?_ ?_
                                rotate_left
                                · intro w'
                                  go_simp
                                  with_reducible rfl
                                rotate_left
                                · simp only [Act.put, List.setIfInBounds_toArray, List.set_cons_zero, List.set_cons_succ, i64_w, i32_w]
                                  rfl
                                refine pure_ (i := 14) (N := some 12) (v := ?_) (a' := ?_) #[true, true, true, true, true, true, true, true, true, true, true, true, true, true, true] rfl rfl (any_of HT_.out (by kernel_rfl)) (fun _ _ _ h => h) (Or.inl ⟨by rfl, ?_⟩) ?_ ?_
                                rotate_left
                                · intro w'
                                  go_simp
                                  with_reducible rfl
                                rotate_left
                                · simp only [Act.put, List.setIfInBounds_toArray, List.set_cons_zero, List.set_cons_succ, i64_w, i32_w]
                                  rfl
                                refine done_ (done_of HT_.out (by kernel_rfl)) ?_
                                try go_wp2
                                have n0_ := Aside0.mk (Kd.R_drew HO_5.out)
                                have n1_ := Aside0.mk (Kd.R_drew HO220.out)
                                have n2_ := Aside0.mk (below_drew1 HB.out)
                                clear HO_5
                                clear HO220
                                clear HB
                                have HO_5 := n0_
                                have HO220 := n1_
                                have HB := n2_
                                clear n0_ n1_ n2_
                                have p223 : 0 ≤ (x6_1 : Int) := of_decide_eq_true (by first | (with_reducible assumption) | assumption)
                                have q223 : x6_1 < (l0.length : Int) := of_decide_eq_true (by first | (with_reducible assumption) | assumption)
                                obtain ⟨ad223, A223_0, c223_0, e223, hx223_0, hl223_0, hi223_0⟩ := excelize_squashSqref.at_X HR0.out x6_1 p223 q223
                                have hw223_0 := hx223_0
                                obtain rfl : ad216 = ad223 := (by injection e223)
                                replace hx223_0 := (HB.out.cell (World.block_lt_of_cell? w _ hx223_0)).trans hx223_0
                                have HR223_0 := Aside0.mk hi223_0
                                have HC223_0 := Aside0.mk hl223_0
                                clear hi223_0 hl223_0
                                replace p223 := eq_true p223
                                replace q223 := eq_true q223
                                have p224 : 0 ≤ (0 : Int) := (by omega)
                                have q224 : 0 < ((rd_L3 l0 x6_1).length : Int) := of_decide_eq_true (by first | (with_reducible assumption) | assumption)
                                obtain ⟨ad224, e224, hx224_0⟩ := Kd.at_int HR223_0.out 0 p224 q224
                                have hw224_0 := hx224_0
                                (try rw [show ((0 : Int)).toNat = 0 from rfl] at hw224_0)
                                (try rw [show 0 * 1 = 0 from rfl] at hw224_0)
                                (try rw [Addr.add_zero'] at hw224_0)
                                cases e224
                                have qi224 : (0 < (rd_L3 l0 x6_1).length) = True := eq_true (by omega)
                                (try rw [show ((0 : Int)).toNat = 0 from rfl] at hx224_0)
                                (try rw [Addr.add_zero'] at hx224_0)
                                replace hx224_0 := (HB.out.cell (World.block_lt_of_cell? w _ hx224_0)).trans hx224_0
                                replace p224 := eq_true p224
                                replace q224 := eq_true q224
                                have p225 : 0 ≤ (x6_1 : Int) := of_decide_eq_true (by first | (with_reducible assumption) | assumption)
                                have q225 : x6_1 < (l0.length : Int) := of_decide_eq_true (by first | (with_reducible assumption) | assumption)
                                obtain ⟨ad225, A225_0, c225_0, e225, hx225_0, hl225_0, hi225_0⟩ := excelize_squashSqref.at_X HR0.out x6_1 p225 q225
                                have hw225_0 := hx225_0
                                obtain rfl : ad216 = ad225 := (by injection e225)
                                replace hx225_0 := (HB.out.cell (World.block_lt_of_cell? w _ hx225_0)).trans hx225_0
                                have HR225_0 := Aside0.mk hi225_0
                                have HC225_0 := Aside0.mk hl225_0
                                clear hi225_0 hl225_0
                                replace p225 := eq_true p225
                                replace q225 := eq_true q225
                                have ea_ := Option.some.inj (hx223_0.symm.trans hx225_0)
                                injection ea_ with ea_ en_ ec_
                                subst ea_
                                subst ec_
                                clear en_
                                have p226 : 0 ≤ (1 : Int) := (by omega)
                                have q226 : 1 < ((rd_L3 l0 x6_1).length : Int) := of_decide_eq_true (by first | (with_reducible assumption) | assumption)
                                obtain ⟨ad226, e226, hx226_0⟩ := Kd.at_int HR225_0.out 1 p226 q226
                                have hw226_0 := hx226_0
                                (try rw [show ((1 : Int)).toNat = 1 from rfl] at hw226_0)
                                (try rw [show 1 * 1 = 1 from rfl] at hw226_0)
                                (try simp only [Nat.reduceMul, Nat.reduceEqDiff, Go.Addr.add, ↓reduceIte] at hw226_0)
                                cases e226
                                (try simp only [show (1 : Int).toNat = 1 from rfl, Nat.reduceMul, Nat.reduceEqDiff, Go.Addr.add, ↓reduceIte] at hx226_0)
                                have qi226 : (1 < (rd_L3 l0 x6_1).length) = True := eq_true (by omega)
                                (try rw [show ((1 : Int)).toNat = 1 from rfl] at hx226_0)
                                replace hx226_0 := (HB.out.cell (World.block_lt_of_cell? w _ hx226_0)).trans hx226_0
                                replace p226 := eq_true p226
                                replace q226 := eq_true q226
                                refine start_ (n := 17) (S := fun w' => w'.cell? (ad216.add (x6_1).toNat) = some (.slice (some ad224) (rd_L3 l0 x6_1).length c223_0) ∧ w'.cell? ad224 = some (.int .i64 (rd (rd_L3 l0 x6_1) 0)) ∧ w'.cell? (ad216.add (x6_1).toNat) = some (.slice (some ad224) (rd_L3 l0 x6_1).length c223_0) ∧ w'.cell? ⟨ad224.block, ad224.off + 1, none⟩ = some (.int .i64 (rd (rd_L3 l0 x6_1) 1))) (ds := []) #[false, false, false, false, false, false, false, false, false, false, false, false, false, false, false, false, false] (by kernel_rfl) rfl rfl ⟨((HB.out.cell (World.block_lt_of_cell? w _ hw223_0)).trans hw223_0), ((HB.out.cell (World.block_lt_of_cell? w _ hw224_0)).trans hw224_0), ((HB.out.cell (World.block_lt_of_cell? w _ hw225_0)).trans hw225_0), ((HB.out.cell (World.block_lt_of_cell? w _ hw226_0)).trans hw226_0)⟩ (fun hHeld => ?_); refine with_tabW excelize_squashSqref.tab20 excelize_squashSqref.bits20 (fun HT_ HW_ => ?_)
                                generalize w67.drew = w68 at HO_5 HO220 HB HR223_0 HR225_0 hx223_0 hx224_0 hx225_0 hx226_0 hHeld ⊢
                                refine pure_ (i := 0) (N := some 128) (v := ?_) (a' := ?_) #[true, false, false, false, false, false, false, false, false, false, false, false, false, false, false, false, false] rfl rfl (any_of HT_.out (by kernel_rfl)) (fun _ _ _ h => h) (Or.inl ⟨by rfl, ?_⟩) ?_ ?_
                                rotate_left
                                · intro w'
                                  go_simp
                                  with_reducible rfl
                                rotate_left
                                · simp only [Act.put, List.setIfInBounds_toArray, List.set_cons_zero, List.set_cons_succ, i64_w, i32_w]
                                  rfl
                                refine pure_ (i := 1) (N := some 129) (v := ?_) (a' := ?_) #[true, true, false, false, false, false, false, false, false, false, false, false, false, false, false, false, false] rfl rfl (any_of HT_.out (by kernel_rfl)) (fun _ _ _ h => h) (Or.inl ⟨by rfl, ?_⟩) ?_ ?_
                                rotate_left
                                · intro w'
                                  go_simp
                                  with_reducible rfl
                                rotate_left
                                · simp only [Act.put, List.setIfInBounds_toArray, List.set_cons_zero, List.set_cons_succ, i64_w, i32_w]
                                  rfl
                                refine pure_ (i := 2) (N := some 130) (v := ?_) (a' := ?_) #[true, true, true, false, false, false, false, false, false, false, false, false, false, false, false, false, false] rfl rfl (any_of HT_.out (by kernel_rfl)) (fun _ _ _ h => h) (Or.inl ⟨by rfl, ?_⟩) ?_ ?_
                                rotate_left
                                · intro w'
                                  go_simp
                                  with_reducible rfl
                                rotate_left
                                · simp only [Act.put, List.setIfInBounds_toArray, List.set_cons_zero, List.set_cons_succ, i64_w, i32_w]
                                  rfl
                                refine pure_ (i := 6) (N := some 134) (v := ?_) (a' := ?_) #[true, true, true, false, false, false, true, false, false, false, false, false, false, false, false, false, false] rfl rfl (any_of HT_.out (by kernel_rfl)) (fun _ _ _ h => h) (Or.inl ⟨by rfl, ?_⟩) ?_ ?_
                                rotate_left
                                · intro w'
                                  go_simp
                                  with_reducible rfl
                                rotate_left
                                · simp only [Act.put, List.setIfInBounds_toArray, List.set_cons_zero, List.set_cons_succ, i64_w, i32_w]
                                  rfl
                                refine pure_ (i := 7) (N := some 135) (v := ?_) (a' := ?_) #[true, true, true, false, false, false, true, true, false, false, false, false, false, false, false, false, false] rfl rfl (any_of HT_.out (by kernel_rfl)) (fun _ _ _ h => h) (Or.inl ⟨by rfl, ?_⟩) ?_ ?_
                                rotate_left
                                · intro w'
                                  go_simp
                                  with_reducible rfl
                                rotate_left
                                · simp only [Act.put, List.setIfInBounds_toArray, List.set_cons_zero, List.set_cons_succ, i64_w, i32_w]
                                  rfl
                                refine pure_ (i := 8) (N := some 136) (v := ?_) (a' := ?_) #[true, true, true, false, false, false, true, true, true, false, false, false, false, false, false, false, false] rfl rfl (any_of HT_.out (by kernel_rfl)) (fun _ _ _ h => h) (Or.inl ⟨by rfl, ?_⟩) ?_ ?_
                                rotate_left
                                · intro w'
                                  go_simp
                                  with_reducible rfl
                                rotate_left
                                · simp only [Act.put, List.setIfInBounds_toArray, List.set_cons_zero, List.set_cons_succ, i64_w, i32_w]
                                  rfl
                                refine take_ (i := 3) (N := some 131) (v := ?_) (a' := ?_) #[true, true, true, true, false, false, true, true, true, false, false, false, false, false, false, false, false] rfl rfl (take_ofW HT_.out HW_.out (by kernel_rfl)) (fun _ _ _ h => h) (Or.inl ⟨by rfl, ?_⟩) hHeld ?_ ?_
                                rotate_left
                                · rintro w' ⟨s0, s1, s2, s3⟩
                                  go_simp
                                  with_reducible rfl
                                rotate_left
                                · simp only [Act.put, List.setIfInBounds_toArray, List.set_cons_zero, List.set_cons_succ, i64_w, i32_w]
                                  rfl
                                refine pure_ (i := 4) (N := some 132) (v := ?_) (a' := ?_) #[true, true, true, true, true, false, true, true, true, false, false, false, false, false, false, false, false] rfl rfl (any_of HT_.out (by kernel_rfl)) (fun _ _ _ h => h) (Or.inl ⟨by rfl, ?_⟩) ?_ ?_
                                rotate_left
                                · intro w'
                                  go_simp
                                  with_reducible rfl
                                rotate_left
                                · simp only [Act.put, List.setIfInBounds_toArray, List.set_cons_zero, List.set_cons_succ, i64_w, i32_w]
                                  rfl
                                refine take_ (i := 5) (N := some 133) (v := ?_) (a' := ?_) #[true, true, true, true, true, true, true, true, true, false, false, false, false, false, false, false, false] rfl rfl (take_ofW HT_.out HW_.out (by kernel_rfl)) (fun _ _ _ h => h) (Or.inl ⟨by rfl, ?_⟩) hHeld ?_ ?_
                                rotate_left
                                · rintro w' ⟨s0, s1, s2, s3⟩
                                  go_simp
                                  with_reducible rfl
                                rotate_left
                                · simp only [Act.put, List.setIfInBounds_toArray, List.set_cons_zero, List.set_cons_succ, i64_w, i32_w]
                                  rfl
                                refine take_ (i := 9) (N := some 137) (v := ?_) (a' := ?_) #[true, true, true, true, true, true, true, true, true, true, false, false, false, false, false, false, false] rfl rfl (take_ofW HT_.out HW_.out (by kernel_rfl)) (fun _ _ _ h => h) (Or.inl ⟨by rfl, ?_⟩) hHeld ?_ ?_
                                rotate_left
                                · rintro w' ⟨s0, s1, s2, s3⟩
                                  go_simp
                                  with_reducible rfl
                                rotate_left
                                · simp only [Act.put, List.setIfInBounds_toArray, List.set_cons_zero, List.set_cons_succ, i64_w, i32_w]
                                  rfl
                                refine pure_ (i := 10) (N := some 138) (v := ?_) (a' := ?_) #[true, true, true, true, true, true, true, true, true, true, true, false, false, false, false, false, false] rfl rfl (any_of HT_.out (by kernel_rfl)) (fun _ _ _ h => h) (Or.inl ⟨by rfl, ?_⟩) ?_ ?_
                                rotate_left
                                · intro w'
                                  go_simp
                                  with_reducible rfl
                                rotate_left
                                · simp only [Act.put, List.setIfInBounds_toArray, List.set_cons_zero, List.set_cons_succ, i64_w, i32_w]
                                  rfl
                                refine take_ (i := 11) (N := some 139) (v := ?_) (a' := ?_) #[true, true, true, true, true, true, true, true, true, true, true, true, false, false, false, false, false] rfl rfl (take_ofW HT_.out HW_.out (by kernel_rfl)) (fun _ _ _ h => h) (Or.inl ⟨by rfl, ?_⟩) hHeld ?_ ?_
                                rotate_left
                                · rintro w' ⟨s0, s1, s2, s3⟩
                                  go_simp
                                  with_reducible rfl
                                rotate_left
                                · simp only [Act.put, List.setIfInBounds_toArray, List.set_cons_zero, List.set_cons_succ, i64_w, i32_w]
                                  rfl
                                refine one_ (i := 12) (N := some 140) #[true, true, true, true, true, true, true, true, true, true, true, true, true, false, false, false, false] rfl rfl (one_of HT_.out (by kernel_rfl)) (by decide) (fun K hK => ?_)
                                refine goes_ Tryz.func55 (by kernel_rfl) rfl #[.int .i64 (rd (rd_L3 l0 x6_1) 0), .int .i64 (rd (rd_L3 l0 x6_1) 1), .slice none 0 0] (by rfl) rfl rfl (by (try simp only [List.map_toArray, List.map_cons, List.map_nil]); first | done | rfl | (simp only [List.length_drop, List.length_take]; rfl)) ?_
                                refine (excelize_CoordinatesToCellName.calls k1 (rd (rd_L3 l0 x6_1) 0) (rd (rd_L3 l0 x6_1) 1) _ _ ([] : List Bool) t227 t228 _ ?side1 ?side2 A62.out).mono ?_
                                (case side1 => exact Kd.C_nil _ _)
                                (case side2 => exact Nat.le_refl _)
                                rintro e w69 ⟨rfl, hb⟩
                                refine ⟨_, rfl, ?_⟩
                                have n0_ := Aside0.mk (Kd.R_below (by (with_reducible repeat (first | apply Kd.R_alloc | apply Kd.R_drewN | apply Kd.R_drew)); exact HO_5.out) hb)
                                have n1_ := Aside0.mk (Kd.R_below (by (with_reducible repeat (first | apply Kd.R_alloc | apply Kd.R_drewN | apply Kd.R_drew)); exact HO220.out) hb)
                                have n2_ := Aside0.mk (below_step (by repeat (first | (with_reducible first | exact HB.out | apply below_alloc | apply pw_below_drewN | apply below_drew1) | exact HB.out)) hb)
                                clear HO_5
                                clear HO220
                                clear HB
                                have HO_5 := n0_
                                have HO220 := n1_
                                have HB := n2_
                                clear n0_ n1_ n2_
                                (try clear hb)
                                (try clear hb2)
                                (try clear hk)
                                (try clear hi)
                                (try simp only [errW_none, errW_some])
                                refine hK.out _ _ ⟨((HB.out.cell (World.block_lt_of_cell? w _ hw223_0)).trans hw223_0), ((HB.out.cell (World.block_lt_of_cell? w _ hw224_0)).trans hw224_0), ((HB.out.cell (World.block_lt_of_cell? w _ hw225_0)).trans hw225_0), ((HB.out.cell (World.block_lt_of_cell? w _ hw226_0)).trans hw226_0)⟩ (fun hHeld => ?_)
                                clear hK K
                                refine norm_ (a' := ?_) ?_ ?_
                                rotate_left
                                · show Act.put _ (some 140) _ = _
                                  simp only [Act.put, List.setIfInBounds_toArray, List.set_cons_zero, List.set_cons_succ, i64_w, i32_w]
                                  rfl
                                refine pure_ (i := 13) (N := some 127) (v := ?_) (a' := ?_) #[true, true, true, true, true, true, true, true, true, true, true, true, true, true, false, false, false] rfl rfl (any_of HT_.out (by kernel_rfl)) (fun _ _ _ h => h) (Or.inl ⟨by rfl, ?_⟩) ?_ ?_
                                rotate_left
                                · intro w'
                                  go_simp
                                  with_reducible rfl
                                rotate_left
                                · simp only [Act.put, List.setIfInBounds_toArray, List.set_cons_zero, List.set_cons_succ, i64_w, i32_w]
                                  rfl
                                refine pure_ (i := 14) (N := some 141) (v := ?_) (a' := ?_) #[true, true, true, true, true, true, true, true, true, true, true, true, true, true, true, false, false] rfl rfl (any_of HT_.out (by kernel_rfl)) (fun _ _ _ h => h) (Or.inl ⟨by rfl, ?_⟩) ?_ ?_
                                rotate_left
                                · intro w'
                                  go_simp
                                  with_reducible rfl
                                rotate_left
                                · simp only [Act.put, List.setIfInBounds_toArray, List.set_cons_zero, List.set_cons_succ, i64_w, i32_w]
                                  rfl
                                refine pure_ (i := 15) (N := some 142) (v := ?_) (a' := ?_) #[true, true, true, true, true, true, true, true, true, true, true, true, true, true, true, true, false] rfl rfl (any_of HT_.out (by kernel_rfl)) (fun _ _ _ h => h) (Or.inl ⟨by rfl, ?_⟩) ?_ ?_
                                rotate_left
                                · intro w'
                                  go_simp
                                  with_reducible rfl
                                rotate_left
                                · simp only [Act.put, List.setIfInBounds_toArray, List.set_cons_zero, List.set_cons_succ, i64_w, i32_w]
                                  rfl
                                refine pure_ (i := 16) (N := some 11) (v := ?_) (a' := ?_) #[true, true, true, true, true, true, true, true, true, true, true, true, true, true, true, true, true] rfl rfl (any_of HT_.out (by kernel_rfl)) (fun _ _ _ h => h) (Or.inl ⟨by rfl, ?_⟩) ?_ ?_
                                rotate_left
                                · intro w'
                                  go_simp
                                  with_reducible rfl
                                rotate_left
                                · simp only [Act.put, List.setIfInBounds_toArray, List.set_cons_zero, List.set_cons_succ, i64_w, i32_w]
                                  rfl
                                refine done_ (done_of HT_.out (by kernel_rfl)) ?_
                                try go_wp2_with (first | ((with_reducible refine gate_builtin (b := .append) (xs := #[.tmp 143, .tmp 145]) rfl ?_); at_builtin; refine Kd.R_append Kd.string (w0 := w) w.heap.size rfl (.tmp 143) (.tmp 145) 25 9 (.string ⟨#[]⟩) 16 rfl Tryz.underlying25 info9 rfl (by decide) (by omega) u5 x5_1 t227 [.string t227] (fun _ => True) (fun _ => False) rfl rfl ?aP (fun _ hk => hk.elim) ?aF ?aO ?aB ?aS ?aL ?_; (case aP => exact rfl); (case aB => exact (by repeat (first | (with_reducible first | exact HB.out | apply below_alloc | apply pw_below_drewN | apply below_drew1) | exact HB.out))); (case aF => exact (fun _ _ => trivial)); (case aO => exact (by (with_reducible repeat (first | apply Kd.R_alloc | apply Kd.R_drewN | apply Kd.R_drew)); exact HO_5.out)); (case aS => exact (below_size (by repeat (first | (with_reducible first | exact HB.out | apply below_alloc | apply pw_below_drewN | apply below_drew1) | exact HB.out)))); (case aL => have := LMc63.out; omega); intro v230 w70 ho hb hg hat; rw [← Ny229.out] at ho; have n0_ := Aside0.mk (Kd.R_over' (by (with_reducible repeat (first | apply Kd.R_alloc | apply Kd.R_drewN | apply Kd.R_drew)); exact HO220.out) (Kd.R_typed (by (with_reducible repeat (first | apply Kd.R_alloc | apply Kd.R_drewN | apply Kd.R_drew)); exact HO_5.out)) (by decide) hg); have n1_ := Aside0.mk (hb); have n2_ := Aside0.mk (ho); clear HO220; clear HB; clear HO_5; have HO220 := n0_; have HB := n1_; have HO231 := n2_; clear n0_ n1_ n2_; clear ho hb hg hat))
                                go_ret
                                exact ⟨_, by first | rfl | (simp [errW_none, errW_some] <;> rfl) | (simp [*, errW_none, errW_some] <;> rfl), by (with_reducible repeat (first | apply Kd.R_alloc | apply Kd.R_drewN | apply Kd.R_drew)); exact HO231.out, by repeat (first | (with_reducible first | exact HB.out | apply below_alloc | apply pw_below_drewN | apply below_drew1) | exact HB.out)⟩
                              · rw [if_neg c63] at H
                                exact absurd H (by simp)
                            · rw [if_neg c61] at H
                              exact absurd H (by simp)
                          · rw [if_neg c60] at H
                            have c60b0 : (x6_1 == x7_1) = false := beq_eq_false_iff_ne.mpr c60
                            have c60b1 : (x6_1 != x7_1) = true := bne_iff_ne.mpr c60
                            by_cases c71 : x5_1.length < 8796093022208
                            · rw [if_pos c71] at H
                              have LMc71 := Aside0.mk c71
                              clear c71
                              obtain ⟨y232, hy232⟩ : ∃ y_ : List ByteArray, y_ = (x5_1 ++ [t221]) := ⟨_, rfl⟩
                              replace H : (some y232) = some r := by first | (rw [hy232]; with_reducible exact H) | (have H2_ := (Option.bind_some _ _).symm.trans H; rw [hy232]; with_reducible exact H2_) | (have H2_ := (Option.bind_some _ _).symm.trans H; with_reducible exact H2_) | with_reducible exact H | (rw [hy232]; exact H) | exact H
                              have Ny232 := Aside0.mk hy232
                              clear hy232
                              obtain rfl := Option.some.inj H
                              try go_wp2
                              have n0_ := Aside0.mk (Kd.R_drew HO_5.out)
                              have n1_ := Aside0.mk (below_drew1 HB.out)
                              clear HO_5
                              clear HB
                              have HO_5 := n0_
                              have HB := n1_
                              clear n0_ n1_
                              have p216 : 0 ≤ (x6_1 : Int) := of_decide_eq_true (by first | (with_reducible assumption) | assumption)
                              have q216 : x6_1 < (l0.length : Int) := of_decide_eq_true (by first | (with_reducible assumption) | assumption)
                              obtain ⟨ad216, A216_0, c216_0, e216, hx216_0, hl216_0, hi216_0⟩ := excelize_squashSqref.at_X HR0.out x6_1 p216 q216
                              have hw216_0 := hx216_0
                              cases e216
                              replace hx216_0 := (HB.out.cell (World.block_lt_of_cell? w _ hx216_0)).trans hx216_0
                              have HR216_0 := Aside0.mk hi216_0
                              have HC216_0 := Aside0.mk hl216_0
                              clear hi216_0 hl216_0
                              replace p216 := eq_true p216
                              replace q216 := eq_true q216
                              have p217 : 0 ≤ (x7_1 : Int) := of_decide_eq_true (by first | (with_reducible assumption) | assumption)
                              have q217 : x7_1 < (l0.length : Int) := of_decide_eq_true (by first | (with_reducible assumption) | assumption)
                              obtain ⟨ad217, A217_0, c217_0, e217, hx217_0, hl217_0, hi217_0⟩ := excelize_squashSqref.at_X HR0.out x7_1 p217 q217
                              have hw217_0 := hx217_0
                              obtain rfl : ad216 = ad217 := (by injection e217)
                              replace hx217_0 := (HB.out.cell (World.block_lt_of_cell? w _ hx217_0)).trans hx217_0
                              have HR217_0 := Aside0.mk hi217_0
                              have HC217_0 := Aside0.mk hl217_0
                              clear hi217_0 hl217_0
                              replace p217 := eq_true p217
                              replace q217 := eq_true q217
                              refine start_ (n := 15) (S := fun w' => w'.cell? (ad216.add (x6_1).toNat) = some (.slice A216_0 (rd_L3 l0 x6_1).length c216_0) ∧ w'.cell? (ad216.add (x7_1).toNat) = some (.slice A217_0 (rd_L3 l0 x7_1).length c217_0)) (ds := []) #[false, false, false, false, false, false, false, false, false, false, false, false, false, false, false] (by kernel_rfl) rfl rfl ⟨((HB.out.cell (World.block_lt_of_cell? w _ hw216_0)).trans hw216_0), ((HB.out.cell (World.block_lt_of_cell? w _ hw217_0)).trans hw217_0)⟩ (fun hHeld => ?_); refine with_tabW excelize_squashSqref.tab18 excelize_squashSqref.bits18 (fun HT_ HW_ => ?_)
                              generalize wr.drew = w72 at HO_5 HB HR216_0 HR217_0 hx216_0 hx217_0 hHeld ⊢
                              refine pure_ (i := 0) (N := some 112) (v := ?_) (a' := ?_) #[true, false, false, false, false, false, false, false, false, false, false, false, false, false, false] rfl rfl (any_of HT_.out (by kernel_rfl)) (fun _ _ _ h => h) (Or.inl ⟨by rfl, ?_⟩) ?_ ?_
                              rotate_left
                              · intro w'
                                go_simp
                                with_reducible rfl
                              rotate_left
                              · simp only [Act.put, List.setIfInBounds_toArray, List.set_cons_zero, List.set_cons_succ, i64_w, i32_w]
                                rfl
                              refine pure_ (i := 1) (N := some 113) (v := ?_) (a' := ?_) #[true, true, false, false, false, false, false, false, false, false, false, false, false, false, false] rfl rfl (any_of HT_.out (by kernel_rfl)) (fun _ _ _ h => h) (Or.inl ⟨by rfl, ?_⟩) ?_ ?_
                              rotate_left
                              · intro w'
                                go_simp
                                with_reducible rfl
                              rotate_left
                              · simp only [Act.put, List.setIfInBounds_toArray, List.set_cons_zero, List.set_cons_succ, i64_w, i32_w]
                                rfl
                              refine pure_ (i := 2) (N := some 114) (v := ?_) (a' := ?_) #[true, true, true, false, false, false, false, false, false, false, false, false, false, false, false] rfl rfl (any_of HT_.out (by kernel_rfl)) (fun _ _ _ h => h) (Or.inl ⟨by rfl, ?_⟩) ?_ ?_
                              rotate_left
                              · intro w'
                                go_simp
                                with_reducible rfl
                              rotate_left
                              · simp only [Act.put, List.setIfInBounds_toArray, List.set_cons_zero, List.set_cons_succ, i64_w, i32_w]
                                rfl
                              refine pure_ (i := 4) (N := some 116) (v := ?_) (a' := ?_) #[true, true, true, false, true, false, false, false, false, false, false, false, false, false, false] rfl rfl (any_of HT_.out (by kernel_rfl)) (fun _ _ _ h => h) (Or.inl ⟨by rfl, ?_⟩) ?_ ?_
                              rotate_left
                              · intro w'
                                go_simp
                                with_reducible rfl
                              rotate_left
                              · simp only [Act.put, List.setIfInBounds_toArray, List.set_cons_zero, List.set_cons_succ, i64_w, i32_w]
                                rfl
                              refine pure_ (i := 5) (N := some 117) (v := ?_) (a' := ?_) #[true, true, true, false, true, true, false, false, false, false, false, false, false, false, false] rfl rfl (any_of HT_.out (by kernel_rfl)) (fun _ _ _ h => h) (Or.inl ⟨by rfl, ?_⟩) ?_ ?_
                              rotate_left
                              · intro w'
                                go_simp
                                with_reducible rfl
                              rotate_left
                              · simp only [Act.put, List.setIfInBounds_toArray, List.set_cons_zero, List.set_cons_succ, i64_w, i32_w]
                                rfl
                              refine pure_ (i := 6) (N := some 118) (v := ?_) (a' := ?_) #[true, true, true, false, true, true, true, false, false, false, false, false, false, false, false] rfl rfl (any_of HT_.out (by kernel_rfl)) (fun _ _ _ h => h) (Or.inl ⟨by rfl, ?_⟩) ?_ ?_
                              rotate_left
                              · intro w'
                                go_simp
                                with_reducible rfl
                              rotate_left
                              · simp only [Act.put, List.setIfInBounds_toArray, List.set_cons_zero, List.set_cons_succ, i64_w, i32_w]
                                rfl
                              refine take_ (i := 3) (N := some 115) (v := ?_) (a' := ?_) #[true, true, true, true, true, true, true, false, false, false, false, false, false, false, false] rfl rfl (take_ofW HT_.out HW_.out (by kernel_rfl)) (fun _ _ _ h => h) (Or.inl ⟨by rfl, ?_⟩) hHeld ?_ ?_
                              rotate_left
                              · rintro w' ⟨s0, s1⟩
                                go_simp
                                with_reducible rfl
                              rotate_left
                              · simp only [Act.put, List.setIfInBounds_toArray, List.set_cons_zero, List.set_cons_succ, i64_w, i32_w]
                                rfl
                              refine take_ (i := 7) (N := some 119) (v := ?_) (a' := ?_) #[true, true, true, true, true, true, true, true, false, false, false, false, false, false, false] rfl rfl (take_ofW HT_.out HW_.out (by kernel_rfl)) (fun _ _ _ h => h) (Or.inl ⟨by rfl, ?_⟩) hHeld ?_ ?_
                              rotate_left
                              · rintro w' ⟨s0, s1⟩
                                go_simp
                                with_reducible rfl
                              rotate_left
                              · simp only [Act.put, List.setIfInBounds_toArray, List.set_cons_zero, List.set_cons_succ, i64_w, i32_w]
                                rfl
                              refine one_ (i := 8) (N := some 120) #[true, true, true, true, true, true, true, true, true, false, false, false, false, false, false] rfl rfl (one_of HT_.out (by kernel_rfl)) (by decide) (fun K hK => ?_)
                              refine Full.append_full_step (w0 := w) w.heap.size (by rfl) (.tmp 115) (.tmp 119) 36 3 (.int .i64 0) 8 rfl Tryz.underlying36 info3 rfl (by decide) (by omega) (.slice A216_0 (rd_L3 l0 x6_1).length c216_0) (rd_L3 l0 x6_1) (rd_L3 l0 x7_1) _ _ _ (fun _ => True) (fun _ => False) rfl rfl ?aO ?aR (fun _ _ h => h) (fun _ h => h.elim) ?aF ?aB ?aS ?aL ?_
                              (case aR => repeat (first | exact (Kd.C_below HR217_0.out HB.out) | (with_reducible refine Kd.C_alloc ?_ _) | (with_reducible refine Kd.C_drewN ?_ _) | (with_reducible refine Kd.C_drew ?_)))
                              (case aB => exact (by repeat (first | (with_reducible first | exact HB.out | apply below_alloc | apply pw_below_drewN | apply below_drew1) | exact HB.out)))
                              (case aF => exact (fun _ _ => trivial))
                              (case aO => exact ⟨A216_0, by rw [HC216_0.out], by repeat (first | exact (Kd.C_below HR216_0.out HB.out) | (with_reducible refine Kd.C_alloc ?_ _) | (with_reducible refine Kd.C_drewN ?_ _) | (with_reducible refine Kd.C_drew ?_)), (by have hz_ := of_decide_eq_true (show decide (0 < ((rd_L3 l0 x6_1).length : Int)) = true by first | (with_reducible assumption) | assumption); omega), (by have hz_ := of_decide_eq_true (show decide (0 < ((rd_L3 l0 x7_1).length : Int)) = true by first | (with_reducible assumption) | assumption); omega)⟩)
                              (case aS => exact (below_size (by repeat (first | (with_reducible first | exact HB.out | apply below_alloc | apply pw_below_drewN | apply below_drew1) | exact HB.out))))
                              (case aL => have := LMc58.out; omega)
                              intro v219 w73 ho hb hg hat
                              rw [← Ny218.out] at ho
                              have n0_ := Aside0.mk (Kd.R_grown (by (with_reducible repeat (first | apply Kd.R_alloc | apply Kd.R_drewN | apply Kd.R_drew)); exact HO_5.out) hg (fun _ _ => by simp [Value.ownBlock]))
                              have n1_ := Aside0.mk (hb)
                              have n2_ := Aside0.mk (ho)
                              clear HO_5
                              clear HB
                              have HO_5 := n0_
                              have HB := n1_
                              have HO220 := n2_
                              clear n0_ n1_ n2_
                              clear ho hb hg hat
                              obtain ⟨Ao74, co74, eo74⟩ := Kd.R_slice HO220.out
                              (first | subst eo74 | (injection eo74 with f1_ f2_ f3_; have f4_ := f1_.symm; have f5_ := f3_.symm; clear f1_ f2_ f3_; subst f4_; subst f5_))
                              refine hK.out _ _ ⟨((HB.out.cell (World.block_lt_of_cell? w _ hw216_0)).trans hw216_0), ((HB.out.cell (World.block_lt_of_cell? w _ hw217_0)).trans hw217_0)⟩ (fun hHeld => ?_)
                              clear hK K
                              refine norm_ (a' := ?_) ?_ ?_
                              rotate_left
                              · show Act.put _ (some 120) _ = _
                                simp only [Act.put, List.setIfInBounds_toArray, List.set_cons_zero, List.set_cons_succ, i64_w, i32_w]
                                rfl
                              refine one_ (i := 9) (N := some 121) #[true, true, true, true, true, true, true, true, true, true, false, false, false, false, false] rfl rfl (one_of HT_.out (by kernel_rfl)) (by decide) (fun K hK => ?_)
                              refine goes_ Tryz.func56 (by kernel_rfl) rfl #[.slice Ao74 y218.length co74, .slice none 0 0] (by rfl) rfl rfl (by (try simp only [List.map_toArray, List.map_cons, List.map_nil]); first | done | rfl | (simp only [List.length_drop, List.length_take]; rfl)) ?_
                              refine (excelize_coordinatesToRangeRef.calls k1 _ _ y218 _ _ ([] : List Bool) t221 t222 _ ?side1 ?side2 ?side3 ?side4 A59.out).mono ?_
                              (case side1 => repeat (first | exact (Kd.R_reads' HO220.out).2.2 | (with_reducible refine Kd.C_alloc ?_ _) | (with_reducible refine Kd.C_drewN ?_ _) | (with_reducible refine Kd.C_drew ?_)))
                              (case side2 => exact (Kd.R_reads' HO220.out).2.1)
                              (case side3 => exact Kd.C_nil _ _)
                              (case side4 => exact Nat.le_refl _)
                              rintro e w75 ⟨rfl, hb⟩
                              refine ⟨_, rfl, ?_⟩
                              have n0_ := Aside0.mk (Kd.R_below (by (with_reducible repeat (first | apply Kd.R_alloc | apply Kd.R_drewN | apply Kd.R_drew)); exact HO_5.out) hb)
                              have n1_ := Aside0.mk (Kd.R_below (by (with_reducible repeat (first | apply Kd.R_alloc | apply Kd.R_drewN | apply Kd.R_drew)); exact HO220.out) hb)
                              have n2_ := Aside0.mk (below_step (by repeat (first | (with_reducible first | exact HB.out | apply below_alloc | apply pw_below_drewN | apply below_drew1) | exact HB.out)) hb)
                              clear HO_5
                              clear HO220
                              clear HB
                              have HO_5 := n0_
                              have HO220 := n1_
                              have HB := n2_
                              clear n0_ n1_ n2_
                              (try clear hb)
                              (try clear hb2)
                              (try clear hk)
                              (try clear hi)
                              (try simp only [errW_none, errW_some])
                              refine hK.out _ _ ⟨((HB.out.cell (World.block_lt_of_cell? w _ hw216_0)).trans hw216_0), ((HB.out.cell (World.block_lt_of_cell? w _ hw217_0)).trans hw217_0)⟩ (fun hHeld => ?_)
                              clear hK K
                              refine norm_ (a' := ?_) ?_ ?_
                              rotate_left
                              · show Act.put _ (some 121) _ = _
                                simp only [Act.put, List.setIfInBounds_toArray, List.set_cons_zero, List.set_cons_succ, i64_w, i32_w]
                                rfl
                              refine pure_ (i := 10) (N := some 111) (v := ?_) (a' := ?_) #[true, true, true, true, true, true, true, true, true, true, true, false, false, false, false] rfl rfl (any_of HT_.out (by kernel_rfl)) (fun _ _ _ h => h) (Or.inl ⟨by rfl, ?_⟩) ?_ ?_
                              rotate_left
                              · intro w'
                                go_simp
                                with_reducible rfl
                              rotate_left
                              · simp only [Act.put, List.setIfInBounds_toArray, List.set_cons_zero, List.set_cons_succ, i64_w, i32_w]
                                rfl
                              refine pure_ (i := 11) (N := some 122) (v := ?_) (a' := ?_) #[true, true, true, true, true, true, true, true, true, true, true, true, false, false, false] rfl rfl (any_of HT_.out (by kernel_rfl)) (fun _ _ _ h => h) (Or.inl ⟨by rfl, ?_⟩) ?_ ?_
                              rotate_left
                              · intro w'
                                go_simp
                                with_reducible rfl
                              rotate_left
                              · simp only [Act.put, List.setIfInBounds_toArray, List.set_cons_zero, List.set_cons_succ, i64_w, i32_w]
                                rfl
                              refine pure_ (i := 12) (N := some 123) (v := ?_) (a' := ?_) #[true, true, true, true, true, true, true, true, true, true, true, true, true, false, false] rfl rfl (any_of HT_.out (by kernel_rfl)) (fun _ _ _ h => h) (Or.inl ⟨by rfl, ?_⟩) ?_ ?_
                              rotate_left
                              · intro w'
                                go_simp
                                with_reducible rfl
                              rotate_left
                              · simp only [Act.put, List.setIfInBounds_toArray, List.set_cons_zero, List.set_cons_succ, i64_w, i32_w]
                                rfl
                              refine pure_ (i := 13) (N := some 11) (v := ?_) (a' := ?_) #[true, true, true, true, true, true, true, true, true, true, true, true, true, true, false] rfl rfl (any_of HT_.out (by kernel_rfl)) (fun _ _ _ h => h) (Or.inl ⟨by rfl, ?_⟩) ?_ ?_
                              rotate_left
                              · intro w'
                                go_simp
                                with_reducible rfl
                              rotate_left
                              · simp only [Act.put, List.setIfInBounds_toArray, List.set_cons_zero, List.set_cons_succ, i64_w, i32_w]
                                rfl
                              refine pure_ (i := 14) (N := some 12) (v := ?_) (a' := ?_) #[true, true, true, true, true, true, true, true, true, true, true, true, true, true, true] rfl rfl (any_of HT_.out (by kernel_rfl)) (fun _ _ _ h => h) (Or.inl ⟨by rfl, ?_⟩) ?_ ?_
                              rotate_left
                              · intro w'
                                go_simp
                                with_reducible rfl
                              rotate_left
                              · simp only [Act.put, List.setIfInBounds_toArray, List.set_cons_zero, List.set_cons_succ, i64_w, i32_w]
                                rfl
                              refine done_ (done_of HT_.out (by kernel_rfl)) ?_
                              try go_wp2_with (first | ((with_reducible refine gate_builtin (b := .append) (xs := #[.tmp 143, .tmp 145]) rfl ?_); at_builtin; refine Kd.R_append Kd.string (w0 := w) w.heap.size rfl (.tmp 143) (.tmp 145) 25 9 (.string ⟨#[]⟩) 16 rfl Tryz.underlying25 info9 rfl (by decide) (by omega) u5 x5_1 t221 [.string t221] (fun _ => True) (fun _ => False) rfl rfl ?aP (fun _ hk => hk.elim) ?aF ?aO ?aB ?aS ?aL ?_; (case aP => exact rfl); (case aB => exact (by repeat (first | (with_reducible first | exact HB.out | apply below_alloc | apply pw_below_drewN | apply below_drew1) | exact HB.out))); (case aF => exact (fun _ _ => trivial)); (case aO => exact (by (with_reducible repeat (first | apply Kd.R_alloc | apply Kd.R_drewN | apply Kd.R_drew)); exact HO_5.out)); (case aS => exact (below_size (by repeat (first | (with_reducible first | exact HB.out | apply below_alloc | apply pw_below_drewN | apply below_drew1) | exact HB.out)))); (case aL => have := LMc71.out; omega); intro v233 w76 ho hb hg hat; rw [← Ny232.out] at ho; have n0_ := Aside0.mk (Kd.R_over' (by (with_reducible repeat (first | apply Kd.R_alloc | apply Kd.R_drewN | apply Kd.R_drew)); exact HO220.out) (Kd.R_typed (by (with_reducible repeat (first | apply Kd.R_alloc | apply Kd.R_drewN | apply Kd.R_drew)); exact HO_5.out)) (by decide) hg); have n1_ := Aside0.mk (hb); have n2_ := Aside0.mk (ho); clear HO220; clear HB; clear HO_5; have HO220 := n0_; have HB := n1_; have HO234 := n2_; clear n0_ n1_ n2_; clear ho hb hg hat))
                              go_ret
                              exact ⟨_, by first | rfl | (simp [errW_none, errW_some] <;> rfl) | (simp [*, errW_none, errW_some] <;> rfl), by (with_reducible repeat (first | apply Kd.R_alloc | apply Kd.R_drewN | apply Kd.R_drew)); exact HO234.out, by repeat (first | (with_reducible first | exact HB.out | apply below_alloc | apply pw_below_drewN | apply below_drew1) | exact HB.out)⟩
                            · rw [if_neg c71] at H
                              exact absurd H (by simp)
                        · rw [if_neg c58] at H
                          exact absurd H (by simp)
                      · rw [if_neg c57] at H
                        exact absurd H (by simp)
                    · rw [if_neg c56] at H
                      exact absurd H (by simp)
                  · rw [if_neg c55] at H
                    exact absurd H (by simp)
                · rw [if_neg c54] at H
                  exact absurd H (by simp)
              · rw [if_neg c53] at H
                exact absurd H (by simp)
            · rw [if_neg c52] at H
              exact absurd H (by simp)

end Go.Proofs.YtmcppajgfhmpaaaGreatDoor.PTo
