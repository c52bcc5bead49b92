/- Contracts of functions that the text "Sq" uses: the call ends in what the plain Lean function says, where that says something. Written by a program of this session. No conditions. -/
import Derived.Test.YtfbenlenihlpbaaDoorPSqx0
import Derived.Test.YtfbenlenihlpbaaDoorPSqx1
import Derived.Test.YtfbenlenihlpbaaDoorPSqx2
namespace Go.Proofs.YtfbenlenihlpbaaDoor.PSq
open Go.RowKit Go.Proofs.YtfbenlenihlpbaaDoorW.PrintWords Go.Proofs.YtfbenlenihlpbaaDoorW.PrintLast Go.Proofs.YtfbenlenihlpbaaDoorW.PrintMore
attribute [local go_sem] max2_int min2_int max_two min_two max_three min_three max_four min_four   -- for this text's walks alone
set_option linter.unusedVariables false
set_option linter.unusedSimpArgs false

theorem excelize_squashSqref.at_X {w : World} {A : Option Addr} {n : Nat} {xs : List (List Int)} (h : Kd.C (Full.exact 3 (Kd.int .i64)) w A n xs) (i : Int) (h0 : 0 ≤ i) (h1 : i < n) : ∃ ad A0 c0, A = some ad ∧ w.cell? (ad.add i.toNat) = some (.slice A0 (rd_L3 xs i).length c0) ∧ c0 = (rd_L3 xs i).length ∧ (Kd.int .i64).C w A0 (rd_L3 xs i).length (rd_L3 xs i) := Full.at_exact h i h0 h1
/-! ### excelize_squashSqref: function 54 -/
mutual
def excelize_squashSqref.l0 : Nat → List (List Int) → List ByteArray → Int → Int → Int → Option (List ByteArray)
  | 0, _, _, _, _, _ => none
  | k + 1, x0, x5, x6, x7, x8 => if x8 < (x0.length : Int) then (if 0 ≤ x8 then (if 0 < ((rd_L3 x0 x8).length : Int) then (if 0 ≤ x7 then (if x7 < (x0.length : Int) then (if 0 < ((rd_L3 x0 x7).length : Int) then (if (rd (rd_L3 x0 x8) 0) = (rd (rd_L3 x0 x7) 0) then (if 1 < ((rd_L3 x0 x8).length : Int) then (if 1 < ((rd_L3 x0 x7).length : Int) then (excelize_squashSqref.j1 k x0 x5 x6 x7 x8 (decide ((wrap64 ((rd (rd_L3 x0 x8) 1) - (rd (rd_L3 x0 x7) 1))) > 1))) else (none)) else (none)) else (excelize_squashSqref.j1 k x0 x5 x6 x7 x8 false)) else (none)) else (none)) else (none)) else (none)) else (none)) else (if 0 ≤ x6 then (if x6 < (x0.length : Int) then (if 0 ≤ x7 then (if x7 < (x0.length : Int) then (if 0 < ((rd_L3 x0 x6).length : Int) then (if 0 < ((rd_L3 x0 x7).length : Int) then (if (rd_L3 x0 x6).length + (rd_L3 x0 x7).length < 17592186044416 then ((excelize_coordinatesToRangeRef.f k ((rd_L3 x0 x6) ++ (rd_L3 x0 x7)) ([] : List Bool)).bind fun bt171 => (if x6 = x7 then (if 1 < ((rd_L3 x0 x6).length : Int) then ((excelize_CoordinatesToCellName.f k (rd (rd_L3 x0 x6) 0) (rd (rd_L3 x0 x6) 1) ([] : List Bool)).bind fun bt177 => (if x5.length < 8796093022208 then (some (x5 ++ [bt177.1])) else (none))) else (none)) else (if x5.length < 8796093022208 then (some (x5 ++ [bt171.1])) else (none)))) else (none)) else (none)) else (none)) else (none)) else (none)) else (none)) else (none))
def excelize_squashSqref.j1 : Nat → List (List Int) → List ByteArray → Int → Int → Int → Bool → Option (List ByteArray)
  | 0, _, _, _, _, _, _ => none
  | k + 1, x0, x5, x6, x7, x8, x70 => if x70 = true then (if 0 ≤ x6 then (if x6 < (x0.length : Int) then (if 0 ≤ x7 then (if x7 < (x0.length : Int) then (if 0 < ((rd_L3 x0 x6).length : Int) then (if 0 < ((rd_L3 x0 x7).length : Int) then (if (rd_L3 x0 x6).length + (rd_L3 x0 x7).length < 17592186044416 then ((excelize_coordinatesToRangeRef.f k ((rd_L3 x0 x6) ++ (rd_L3 x0 x7)) ([] : List Bool)).bind fun bt152 => (if x6 = x7 then (if 1 < ((rd_L3 x0 x6).length : Int) then ((excelize_CoordinatesToCellName.f k (rd (rd_L3 x0 x6) 0) (rd (rd_L3 x0 x6) 1) ([] : List Bool)).bind fun bt158 => (if x5.length < 8796093022208 then (excelize_squashSqref.l0 k x0 (x5 ++ [bt158.1]) x8 x8 (wrap64 (x8 + 1))) else (none))) else (none)) else (if x5.length < 8796093022208 then (excelize_squashSqref.l0 k x0 (x5 ++ [bt152.1]) x8 x8 (wrap64 (x8 + 1))) else (none)))) else (none)) else (none)) else (none)) else (none)) else (none)) else (none)) else (none)) else (excelize_squashSqref.l0 k x0 x5 x6 (wrap64 (x7 + 1)) (wrap64 (x8 + 1)))
end
def excelize_squashSqref.f (k : Nat) (l0 : List (List Int)) : Option (List ByteArray) := if (l0.length : Int) = 1 then (if 0 < (l0.length : Int) then (if 0 < ((rd_L3 l0 0).length : Int) then (if 1 < ((rd_L3 l0 0).length : Int) then ((excelize_CoordinatesToCellName.f k (rd (rd_L3 l0 0) 0) (rd (rd_L3 l0 0) 1) ([] : List Bool)).bind fun bt131 => (some (([bt131.1] : List ByteArray)))) else (none)) else (none)) else (none)) else (if (l0.length : Int) = 0 then (some (([] : List ByteArray))) else (excelize_squashSqref.l0 k l0 ([] : List ByteArray) 0 0 1))
theorem excelize_squashSqref.mono_l : ∀ k, (∀ y0 y1 y2 y3 y4, LeO (excelize_squashSqref.l0 k y0 y1 y2 y3 y4) (excelize_squashSqref.l0 (k + 1) y0 y1 y2 y3 y4)) ∧ (∀ y0 y1 y2 y3 y4 y5, LeO (excelize_squashSqref.j1 k y0 y1 y2 y3 y4 y5) (excelize_squashSqref.j1 (k + 1) y0 y1 y2 y3 y4 y5))
  | 0 => ⟨fun _ _ _ _ _ r h => by simp [excelize_squashSqref.l0] at h, fun _ _ _ _ _ _ r h => by simp [excelize_squashSqref.j1] at h⟩
  | k + 1 => by
    obtain ⟨ih0, ih1⟩ := excelize_squashSqref.mono_l k
    refine ⟨?_, ?_⟩
    · intro y0 y1 y2 y3 y4
      unfold excelize_squashSqref.l0
      repeat' first
      | (with_reducible exact ih0 _ _ _ _ _)
      | (with_reducible exact ih1 _ _ _ _ _ _)
      | (with_reducible exact excelize_CoordinatesToCellName.mono _ _ _ _)
      | (with_reducible exact excelize_coordinatesToRangeRef.mono _ _ _)
      | (with_reducible exact LeO.refl _)
      | (with_reducible exact LeO.none _)
      | (with_reducible refine LeO.ite ?_ ?_)
      | (with_reducible refine LeO.bind ?_ (fun _ => ?_))
      | exact ih0 _ _ _ _ _
      | exact ih1 _ _ _ _ _ _
      | exact excelize_CoordinatesToCellName.mono _ _ _ _
      | exact excelize_coordinatesToRangeRef.mono _ _ _
      | exact LeO.none _
      | refine LeO.ite ?_ ?_
      | refine LeO.bind ?_ (fun _ => ?_)
    · intro y0 y1 y2 y3 y4 y5
      unfold excelize_squashSqref.j1
      repeat' first
      | (with_reducible exact ih0 _ _ _ _ _)
      | (with_reducible exact ih1 _ _ _ _ _ _)
      | (with_reducible exact excelize_CoordinatesToCellName.mono _ _ _ _)
      | (with_reducible exact excelize_coordinatesToRangeRef.mono _ _ _)
      | (with_reducible exact LeO.refl _)
      | (with_reducible exact LeO.none _)
      | (with_reducible refine LeO.ite ?_ ?_)
      | (with_reducible refine LeO.bind ?_ (fun _ => ?_))
      | exact ih0 _ _ _ _ _
      | exact ih1 _ _ _ _ _ _
      | exact excelize_CoordinatesToCellName.mono _ _ _ _
      | exact excelize_coordinatesToRangeRef.mono _ _ _
      | exact LeO.none _
      | refine LeO.ite ?_ ?_
      | refine LeO.bind ?_ (fun _ => ?_)
theorem excelize_squashSqref.mono : ∀ a0 k, LeO (excelize_squashSqref.f k a0) (excelize_squashSqref.f (k + 1) a0) := by
  intro a0 k
  obtain ⟨ih0, ih1⟩ := excelize_squashSqref.mono_l k
  unfold excelize_squashSqref.f
  repeat' first
      | (with_reducible exact ih0 _ _ _ _ _)
      | (with_reducible exact ih1 _ _ _ _ _ _)
      | (with_reducible exact excelize_CoordinatesToCellName.mono _ _ _ _)
      | (with_reducible exact excelize_coordinatesToRangeRef.mono _ _ _)
      | (with_reducible exact LeO.refl _)
      | (with_reducible exact LeO.none _)
      | (with_reducible refine LeO.ite ?_ ?_)
      | (with_reducible refine LeO.bind ?_ (fun _ => ?_))
      | exact ih0 _ _ _ _ _
      | exact ih1 _ _ _ _ _ _
      | exact excelize_CoordinatesToCellName.mono _ _ _ _
      | exact excelize_coordinatesToRangeRef.mono _ _ _
      | exact LeO.none _
      | refine LeO.ite ?_ ?_
      | refine LeO.bind ?_ (fun _ => ?_)
def excelize_squashSqref.T2 : Bool × List (List Nat × List Nat) := (true, [([], []), ([0], [0]), ([1], [1]), ([2], [2]), ([3], [3]), ([], []), ([5], [5]), ([6], [6]), ([7], [7]), ([8], [8]), ([4, 9], [4, 9]), ([10], [10]), ([11], [11]), ([11], [11]), ([12, 10, 0, 1, 2, 3, 4, 5, 6, 7, 8, 9, 10, 11, 12], [12]), ([13, 14, 0, 1, 2, 3, 4, 5, 6, 7, 8, 9, 10, 11, 12, 13, 14], [13])])
def excelize_squashSqref.B2 : List Nat := [0, 1, 3, 7, 15, 0, 32, 96, 224, 480, 1023, 2047, 4095, 4095, 8191, 32767]
theorem excelize_squashSqref.tab2 : rtab .any (opsOf Tryd.f54 2) = excelize_squashSqref.T2 := by kernel_rfl
theorem excelize_squashSqref.bits2 : waitsOk excelize_squashSqref.T2.2 excelize_squashSqref.B2 = true := by kernel_rfl
def excelize_squashSqref.T11 : Bool × List (List Nat × List Nat) := (true, [([], []), ([], []), ([0, 1], [0, 1]), ([2], [2]), ([3], [3]), ([4], [4]), ([], []), ([], []), ([6, 7], [6, 7]), ([8], [8]), ([9], [9]), ([10], [10]), ([5, 11], [5, 11]), ([12], [12]), ([13], [13]), ([13], [13]), ([14, 15, 13], [13, 14, 15]), ([16, 13], [13, 16]), ([17, 13], [13, 17]), ([18, 13], [13, 18]), ([13], [13]), ([13], [13]), ([20, 21, 13], [13, 20, 21]), ([22, 13], [13, 22]), ([23, 13], [13, 23]), ([24, 13], [13, 24]), ([19, 25, 13], [13, 19, 25]), ([26, 13], [13, 26]), ([13, 27], [13, 27])])
def excelize_squashSqref.B11 : List Nat := [0, 0, 3, 7, 15, 31, 0, 0, 192, 448, 960, 1984, 4095, 8191, 16383, 16383, 65535, 131071, 262143, 524287, 16383, 16383, 3162111, 7356415, 15745023, 32522239, 67108863, 134217727, 268435455]
theorem excelize_squashSqref.tab11 : rtab .any (opsOf Tryd.f54 11) = excelize_squashSqref.T11 := by kernel_rfl
theorem excelize_squashSqref.bits11 : waitsOk excelize_squashSqref.T11.2 excelize_squashSqref.B11 = true := by kernel_rfl
def excelize_squashSqref.T12 : Bool × List (List Nat × List Nat) := (true, [([], []), ([], []), ([0, 1], [0, 1]), ([2], [2]), ([], []), ([], []), ([4, 5], [4, 5]), ([6], [6]), ([3, 7], [3, 7]), ([8, 8], [8]), ([9], [9]), ([10], [10]), ([10], [10]), ([11, 9, 0, 1, 2, 3, 4, 5, 6, 7, 8, 9, 10, 11], [11]), ([12, 13, 0, 1, 2, 3, 4, 5, 6, 7, 8, 9, 10, 11, 12, 13], [12])])
def excelize_squashSqref.B12 : List Nat := [0, 0, 3, 7, 0, 0, 48, 112, 255, 511, 1023, 2047, 2047, 4095, 16383]
theorem excelize_squashSqref.tab12 : rtab .any (opsOf Tryd.f54 12) = excelize_squashSqref.T12 := by kernel_rfl
theorem excelize_squashSqref.bits12 : waitsOk excelize_squashSqref.T12.2 excelize_squashSqref.B12 = true := by kernel_rfl
def excelize_squashSqref.T14 : Bool × List (List Nat × List Nat) := (true, [([], []), ([], []), ([0, 1], [0, 1]), ([2], [2]), ([3], [3]), ([4], [4]), ([], []), ([], []), ([6, 7], [6, 7]), ([8], [8]), ([9], [9]), ([10], [10]), ([5, 11], [5, 11]), ([12], [12]), ([13], [13]), ([13], [13]), ([14, 12, 0, 1, 2, 3, 4, 5, 6, 7, 8, 9, 10, 11, 12, 13, 14], [14])])
def excelize_squashSqref.B14 : List Nat := [0, 0, 3, 7, 15, 31, 0, 0, 192, 448, 960, 1984, 4095, 8191, 16383, 16383, 32767]
theorem excelize_squashSqref.tab14 : rtab .any (opsOf Tryd.f54 14) = excelize_squashSqref.T14 := by kernel_rfl
theorem excelize_squashSqref.bits14 : waitsOk excelize_squashSqref.T14.2 excelize_squashSqref.B14 = true := by kernel_rfl
def excelize_squashSqref.T18 : Bool × List (List Nat × List Nat) := (true, [([], []), ([], []), ([0, 1], [0, 1]), ([2], [2]), ([], []), ([], []), ([4, 5], [4, 5]), ([6], [6]), ([3, 7], [3, 7]), ([8, 8], [8]), ([9], [9]), ([10], [10]), ([10], [10]), ([11, 9, 0, 1, 2, 3, 4, 5, 6, 7, 8, 9, 10, 11], [11]), ([12, 13, 0, 1, 2, 3, 4, 5, 6, 7, 8, 9, 10, 11, 12, 13], [12])])
def excelize_squashSqref.B18 : List Nat := [0, 0, 3, 7, 0, 0, 48, 112, 255, 511, 1023, 2047, 2047, 4095, 16383]
theorem excelize_squashSqref.tab18 : rtab .any (opsOf Tryd.f54 18) = excelize_squashSqref.T18 := by kernel_rfl
theorem excelize_squashSqref.bits18 : waitsOk excelize_squashSqref.T18.2 excelize_squashSqref.B18 = true := by kernel_rfl
def excelize_squashSqref.T20 : Bool × List (List Nat × List Nat) := (true, [([], []), ([], []), ([0, 1], [0, 1]), ([2], [2]), ([3], [3]), ([4], [4]), ([], []), ([], []), ([6, 7], [6, 7]), ([8], [8]), ([9], [9]), ([10], [10]), ([5, 11], [5, 11]), ([12], [12]), ([13], [13]), ([13], [13]), ([14, 12, 0, 1, 2, 3, 4, 5, 6, 7, 8, 9, 10, 11, 12, 13, 14], [14])])
def excelize_squashSqref.B20 : List Nat := [0, 0, 3, 7, 15, 31, 0, 0, 192, 448, 960, 1984, 4095, 8191, 16383, 16383, 32767]
theorem excelize_squashSqref.tab20 : rtab .any (opsOf Tryd.f54 20) = excelize_squashSqref.T20 := by kernel_rfl
theorem excelize_squashSqref.bits20 : waitsOk excelize_squashSqref.T20.2 excelize_squashSqref.B20 = true := by kernel_rfl
set_option maxHeartbeats 8000000 in
set_option maxRecDepth 100000 in
theorem excelize_squashSqref.calls (k : Nat) (A0 : Option Addr) (c0 : Nat) (l0 : List (List Int)) (r : List ByteArray) (w : World) (hr0 : Kd.C (Full.exact 3 (Kd.int .i64)) w A0 l0.length l0) (hc0 : l0.length ≤ c0) (h : excelize_squashSqref.f k l0 = some r) :
    Calls Tryd.prog 54 #[.slice A0 l0.length c0] w fun e w' => ∃ v0_ : Value, e = .returned (v0_) ∧ Kd.R Kd.string 9 w' w.heap.size (fun _ => True) v0_ r ∧ Below w.heap.size w w' := by
  have HR0 := Aside0.mk hr0
  have HC0 := Aside0.mk hc0
  clear hr0 hc0
  have HB := Aside0.mk (Below.refl w.heap.size w)
  have H : (if (l0.length : Int) = 1 then (if 0 < (l0.length : Int) then (if 0 < ((rd_L3 l0 0).length : Int) then (if 1 < ((rd_L3 l0 0).length : Int) then ((excelize_CoordinatesToCellName.f k (rd (rd_L3 l0 0) 0) (rd (rd_L3 l0 0) 1) ([] : List Bool)).bind fun bt131 => (some (([bt131.1] : List ByteArray)))) else (none)) else (none)) else (none)) else (if (l0.length : Int) = 0 then (some (([] : List ByteArray))) else (excelize_squashSqref.l0 k l0 ([] : List ByteArray) 0 0 1))) = some r := h
  clear h
  by_cases c2 : (l0.length : Int) = 1
  · rw [if_pos c2] at H
    have c2b0 : ((l0.length : Int) == 1) = true := beq_iff_eq.mpr c2
    have c2b1 : ((l0.length : Int) != 1) = false := bne_eq_false_iff_eq.mpr c2
    clear c2
    by_cases c3 : 0 < (l0.length : Int)
    · rw [if_pos c3] at H
      have c3b0 : decide (0 < (l0.length : Int)) = true := decide_eq_true c3
      have c3b1 : decide (0 < l0.length) = true := decide_eq_true (by omega)
      clear c3
      by_cases c4 : 0 < ((rd_L3 l0 0).length : Int)
      · rw [if_pos c4] at H
        have c4b0 : decide (0 < ((rd_L3 l0 0).length : Int)) = true := decide_eq_true c4
        have c4b1 : decide (0 < (rd_L3 l0 0).length) = true := decide_eq_true (by omega)
        clear c4
        by_cases c5 : 1 < ((rd_L3 l0 0).length : Int)
        · rw [if_pos c5] at H
          have c5b0 : decide (1 < ((rd_L3 l0 0).length : Int)) = true := decide_eq_true c5
          have c5b1 : decide (1 < (rd_L3 l0 0).length) = true := decide_eq_true (by omega)
          clear c5
          replace H := Option.bind_eq_some_iff.mp H
          obtain ⟨⟨t131, t132⟩, A60, H⟩ := H
          replace H : (some (([t131] : List ByteArray))) = some r := H
          have A6 := Aside0.mk A60
          clear A60
          obtain ⟨y133, hy133⟩ : ∃ y_ : List ByteArray, y_ = (([t131] : List ByteArray)) := ⟨_, rfl⟩
          replace H : (some y133) = some r := by first | (rw [hy133]; with_reducible exact H) | (have H2_ := (Option.bind_some _ _).symm.trans H; rw [hy133]; with_reducible exact H2_) | (have H2_ := (Option.bind_some _ _).symm.trans H; with_reducible exact H2_) | with_reducible exact H | (rw [hy133]; exact H) | exact H
          have Ny133 := Aside0.mk hy133
          clear hy133
          obtain rfl := Option.some.inj H
          go_enter Tryd.func54, Tryd.ntmps54
          try go_wp2
          have n0_ := Aside0.mk (below_drew1 HB.out)
          clear HB
          have HB := n0_
          clear n0_
          have p127 : 0 ≤ (0 : Int) := (by omega)
          have q127 : 0 < (l0.length : Int) := of_decide_eq_true (by first | (with_reducible assumption) | assumption)
          obtain ⟨ad127, A127_0, c127_0, e127, hx127_0, hl127_0, hi127_0⟩ := excelize_squashSqref.at_X HR0.out 0 p127 q127
          have hw127_0 := hx127_0
          (try rw [show ((0 : Int)).toNat = 0 from rfl] at hw127_0)
          (try rw [show 0 * 1 = 0 from rfl] at hw127_0)
          (try rw [Addr.add_zero'] at hw127_0)
          cases e127
          have qi127 : (0 < l0.length) = True := eq_true (by omega)
          (try rw [show ((0 : Int)).toNat = 0 from rfl] at hx127_0)
          (try rw [Addr.add_zero'] at hx127_0)
          replace hx127_0 := (HB.out.cell (World.block_lt_of_cell? w _ hx127_0)).trans hx127_0
          have HR127_0 := Aside0.mk hi127_0
          have HC127_0 := Aside0.mk hl127_0
          clear hi127_0 hl127_0
          replace p127 := eq_true p127
          replace q127 := eq_true q127
          have p128 : 0 ≤ (0 : Int) := (by omega)
          have q128 : 0 < ((rd_L3 l0 0).length : Int) := of_decide_eq_true (by first | (with_reducible assumption) | assumption)
          obtain ⟨ad128, e128, hx128_0⟩ := Kd.at_int HR127_0.out 0 p128 q128
          have hw128_0 := hx128_0
          (try rw [show ((0 : Int)).toNat = 0 from rfl] at hw128_0)
          (try rw [show 0 * 1 = 0 from rfl] at hw128_0)
          (try rw [Addr.add_zero'] at hw128_0)
          cases e128
          have qi128 : (0 < (rd_L3 l0 0).length) = True := eq_true (by omega)
          (try rw [show ((0 : Int)).toNat = 0 from rfl] at hx128_0)
          (try rw [Addr.add_zero'] at hx128_0)
          replace hx128_0 := (HB.out.cell (World.block_lt_of_cell? w _ hx128_0)).trans hx128_0
          replace p128 := eq_true p128
          replace q128 := eq_true q128
          have p129 : 0 ≤ (0 : Int) := (by omega)
          have q129 : 0 < (l0.length : Int) := of_decide_eq_true (by first | (with_reducible assumption) | assumption)
          obtain ⟨ad129, A129_0, c129_0, e129, hx129_0, hl129_0, hi129_0⟩ := excelize_squashSqref.at_X HR0.out 0 p129 q129
          have hw129_0 := hx129_0
          (try rw [show ((0 : Int)).toNat = 0 from rfl] at hw129_0)
          (try rw [show 0 * 1 = 0 from rfl] at hw129_0)
          (try rw [Addr.add_zero'] at hw129_0)
          obtain rfl : ad127 = ad129 := (by injection e129)
          have qi129 : (0 < l0.length) = True := eq_true (by omega)
          (try rw [show ((0 : Int)).toNat = 0 from rfl] at hx129_0)
          (try rw [Addr.add_zero'] at hx129_0)
          replace hx129_0 := (HB.out.cell (World.block_lt_of_cell? w _ hx129_0)).trans hx129_0
          have HR129_0 := Aside0.mk hi129_0
          have HC129_0 := Aside0.mk hl129_0
          clear hi129_0 hl129_0
          replace p129 := eq_true p129
          replace q129 := eq_true q129
          have ea_ := Option.some.inj (hx127_0.symm.trans hx129_0)
          injection ea_ with ea_ en_ ec_
          subst ea_
          subst ec_
          clear en_
          have p130 : 0 ≤ (1 : Int) := (by omega)
          have q130 : 1 < ((rd_L3 l0 0).length : Int) := of_decide_eq_true (by first | (with_reducible assumption) | assumption)
          obtain ⟨ad130, e130, hx130_0⟩ := Kd.at_int HR129_0.out 1 p130 q130
          have hw130_0 := hx130_0
          (try rw [show ((1 : Int)).toNat = 1 from rfl] at hw130_0)
          (try rw [show 1 * 1 = 1 from rfl] at hw130_0)
          (try simp only [Nat.reduceMul, Nat.reduceEqDiff, Go.Addr.add, ↓reduceIte] at hw130_0)
          cases e130
          (try simp only [show (1 : Int).toNat = 1 from rfl, Nat.reduceMul, Nat.reduceEqDiff, Go.Addr.add, ↓reduceIte] at hx130_0)
          have qi130 : (1 < (rd_L3 l0 0).length) = True := eq_true (by omega)
          (try rw [show ((1 : Int)).toNat = 1 from rfl] at hx130_0)
          replace hx130_0 := (HB.out.cell (World.block_lt_of_cell? w _ hx130_0)).trans hx130_0
          replace p130 := eq_true p130
          replace q130 := eq_true q130
          refine start_ (n := 16) (S := fun w' => w'.cell? ad127 = some (.slice (some ad128) (rd_L3 l0 0).length c127_0) ∧ w'.cell? ad128 = some (.int .i64 (rd (rd_L3 l0 0) 0)) ∧ w'.cell? ad127 = some (.slice (some ad128) (rd_L3 l0 0).length c127_0) ∧ w'.cell? ⟨ad128.block, ad128.off + 1, none⟩ = some (.int .i64 (rd (rd_L3 l0 0) 1))) (ds := []) #[false, false, false, false, false, false, false, false, false, false, false, false, false, false, false, false] (by kernel_rfl) rfl rfl ⟨((HB.out.cell (World.block_lt_of_cell? w _ hw127_0)).trans hw127_0), ((HB.out.cell (World.block_lt_of_cell? w _ hw128_0)).trans hw128_0), ((HB.out.cell (World.block_lt_of_cell? w _ hw129_0)).trans hw129_0), ((HB.out.cell (World.block_lt_of_cell? w _ hw130_0)).trans hw130_0)⟩ (fun hHeld => ?_); refine with_tabW excelize_squashSqref.tab2 excelize_squashSqref.bits2 (fun HT_ HW_ => ?_)
          generalize w.drew = w7 at HB HR127_0 HR129_0 hx127_0 hx128_0 hx129_0 hx130_0 hHeld ⊢
          refine pure_ (i := 0) (N := some 17) (v := ?_) (a' := ?_) #[true, false, false, false, false, false, false, false, false, false, false, false, false, false, false, false] rfl rfl (any_of HT_.out (by kernel_rfl)) (fun _ _ _ h => h) (Or.inl ⟨by rfl, ?_⟩) ?_ ?_
          rotate_left
          · intro w'
            go_simp
            with_reducible rfl
          rotate_left
          · simp only [Act.put, List.setIfInBounds_toArray, List.set_cons_zero, List.set_cons_succ, i64_w, i32_w]
            rfl
          refine pure_ (i := 1) (N := some 18) (v := ?_) (a' := ?_) #[true, true, false, false, false, false, false, false, false, false, false, false, false, false, false, false] rfl rfl (any_of HT_.out (by kernel_rfl)) (fun _ _ _ h => h) (Or.inl ⟨by rfl, ?_⟩) ?_ ?_
          rotate_left
          · intro w'
            go_simp
            with_reducible rfl
          rotate_left
          · simp only [Act.put, List.setIfInBounds_toArray, List.set_cons_zero, List.set_cons_succ, i64_w, i32_w]
            rfl
          refine pure_ (i := 5) (N := some 22) (v := ?_) (a' := ?_) #[true, true, false, false, false, true, false, false, false, false, false, false, false, false, false, false] rfl rfl (any_of HT_.out (by kernel_rfl)) (fun _ _ _ h => h) (Or.inl ⟨by rfl, ?_⟩) ?_ ?_
          rotate_left
          · intro w'
            go_simp
            with_reducible rfl
          rotate_left
          · simp only [Act.put, List.setIfInBounds_toArray, List.set_cons_zero, List.set_cons_succ, i64_w, i32_w]
            rfl
          refine pure_ (i := 6) (N := some 23) (v := ?_) (a' := ?_) #[true, true, false, false, false, true, true, false, false, false, false, false, false, false, false, false] rfl rfl (any_of HT_.out (by kernel_rfl)) (fun _ _ _ h => h) (Or.inl ⟨by rfl, ?_⟩) ?_ ?_
          rotate_left
          · intro w'
            go_simp
            with_reducible rfl
          rotate_left
          · simp only [Act.put, List.setIfInBounds_toArray, List.set_cons_zero, List.set_cons_succ, i64_w, i32_w]
            rfl
          refine take_ (i := 2) (N := some 19) (v := ?_) (a' := ?_) #[true, true, true, false, false, true, true, false, false, false, false, false, false, false, false, false] rfl rfl (take_ofW HT_.out HW_.out (by kernel_rfl)) (fun _ _ _ h => h) (Or.inl ⟨by rfl, ?_⟩) hHeld ?_ ?_
          rotate_left
          · rintro w' ⟨s0, s1, s2, s3⟩
            go_simp
            with_reducible rfl
          rotate_left
          · simp only [Act.put, List.setIfInBounds_toArray, List.set_cons_zero, List.set_cons_succ, i64_w, i32_w]
            rfl
          refine pure_ (i := 3) (N := some 20) (v := ?_) (a' := ?_) #[true, true, true, true, false, true, true, false, false, false, false, false, false, false, false, false] rfl rfl (any_of HT_.out (by kernel_rfl)) (fun _ _ _ h => h) (Or.inl ⟨by rfl, ?_⟩) ?_ ?_
          rotate_left
          · intro w'
            go_simp
            with_reducible rfl
          rotate_left
          · simp only [Act.put, List.setIfInBounds_toArray, List.set_cons_zero, List.set_cons_succ, i64_w, i32_w]
            rfl
          refine take_ (i := 4) (N := some 21) (v := ?_) (a' := ?_) #[true, true, true, true, true, true, true, false, false, false, false, false, false, false, false, false] rfl rfl (take_ofW HT_.out HW_.out (by kernel_rfl)) (fun _ _ _ h => h) (Or.inl ⟨by rfl, ?_⟩) hHeld ?_ ?_
          rotate_left
          · rintro w' ⟨s0, s1, s2, s3⟩
            go_simp
            with_reducible rfl
          rotate_left
          · simp only [Act.put, List.setIfInBounds_toArray, List.set_cons_zero, List.set_cons_succ, i64_w, i32_w]
            rfl
          refine take_ (i := 7) (N := some 24) (v := ?_) (a' := ?_) #[true, true, true, true, true, true, true, true, false, false, false, false, false, false, false, false] rfl rfl (take_ofW HT_.out HW_.out (by kernel_rfl)) (fun _ _ _ h => h) (Or.inl ⟨by rfl, ?_⟩) hHeld ?_ ?_
          rotate_left
          · rintro w' ⟨s0, s1, s2, s3⟩
            go_simp
            with_reducible rfl
          rotate_left
          · simp only [Act.put, List.setIfInBounds_toArray, List.set_cons_zero, List.set_cons_succ, i64_w, i32_w]
            rfl
          refine pure_ (i := 8) (N := some 25) (v := ?_) (a' := ?_) #[true, true, true, true, true, true, true, true, true, false, false, false, false, false, false, false] rfl rfl (any_of HT_.out (by kernel_rfl)) (fun _ _ _ h => h) (Or.inl ⟨by rfl, ?_⟩) ?_ ?_
          rotate_left
          · intro w'
            go_simp
            with_reducible rfl
          rotate_left
          · simp only [Act.put, List.setIfInBounds_toArray, List.set_cons_zero, List.set_cons_succ, i64_w, i32_w]
            rfl
          refine take_ (i := 9) (N := some 26) (v := ?_) (a' := ?_) #[true, true, true, true, true, true, true, true, true, true, false, false, false, false, false, false] rfl rfl (take_ofW HT_.out HW_.out (by kernel_rfl)) (fun _ _ _ h => h) (Or.inl ⟨by rfl, ?_⟩) hHeld ?_ ?_
          rotate_left
          · rintro w' ⟨s0, s1, s2, s3⟩
            go_simp
            with_reducible rfl
          rotate_left
          · simp only [Act.put, List.setIfInBounds_toArray, List.set_cons_zero, List.set_cons_succ, i64_w, i32_w]
            rfl
          refine one_ (i := 10) (N := some 27) #[true, true, true, true, true, true, true, true, true, true, true, false, false, false, false, false] rfl rfl (one_of HT_.out (by kernel_rfl)) (by decide) (fun K hK => ?_)
          refine goes_ Tryd.func71 (by kernel_rfl) rfl #[.int .i64 (rd (rd_L3 l0 0) 0), .int .i64 (rd (rd_L3 l0 0) 1), .slice none 0 0] (by rfl) rfl rfl (by (try simp only [List.map_toArray, List.map_cons, List.map_nil]); first | done | rfl | (simp only [List.length_drop, List.length_take]; rfl)) ?_
          refine (excelize_CoordinatesToCellName.calls k (rd (rd_L3 l0 0) 0) (rd (rd_L3 l0 0) 1) _ _ ([] : List Bool) t131 t132 _ ?side1 ?side2 A6.out).mono ?_
          (case side1 => exact Kd.C_nil _ _)
          (case side2 => exact Nat.le_refl _)
          rintro e w8 ⟨rfl, hb⟩
          refine ⟨_, rfl, ?_⟩
          have n0_ := Aside0.mk (below_step (by repeat (first | (with_reducible first | exact HB.out | apply below_alloc | apply pw_below_drewN | apply below_drew1) | exact HB.out)) hb)
          clear HB
          have HB := n0_
          clear n0_
          (try clear hb)
          (try clear hb2)
          (try clear hk)
          (try clear hi)
          (try simp only [errW_none, errW_some])
          refine hK.out _ _ ⟨((HB.out.cell (World.block_lt_of_cell? w _ hw127_0)).trans hw127_0), ((HB.out.cell (World.block_lt_of_cell? w _ hw128_0)).trans hw128_0), ((HB.out.cell (World.block_lt_of_cell? w _ hw129_0)).trans hw129_0), ((HB.out.cell (World.block_lt_of_cell? w _ hw130_0)).trans hw130_0)⟩ (fun hHeld => ?_)
          clear hK K
          refine norm_ (a' := ?_) ?_ ?_
          rotate_left
          · show Act.put _ (some 27) _ = _
            simp only [Act.put, List.setIfInBounds_toArray, List.set_cons_zero, List.set_cons_succ, i64_w, i32_w]
            rfl
          refine pure_ (i := 11) (N := some 16) (v := ?_) (a' := ?_) #[true, true, true, true, true, true, true, true, true, true, true, true, false, false, false, false] rfl rfl (any_of HT_.out (by kernel_rfl)) (fun _ _ _ h => h) (Or.inl ⟨by rfl, ?_⟩) ?_ ?_
          rotate_left
          · intro w'
            go_simp
            with_reducible rfl
          rotate_left
          · simp only [Act.put, List.setIfInBounds_toArray, List.set_cons_zero, List.set_cons_succ, i64_w, i32_w]
            rfl
          refine pure_ (i := 12) (N := some 28) (v := ?_) (a' := ?_) #[true, true, true, true, true, true, true, true, true, true, true, true, true, false, false, false] rfl rfl (any_of HT_.out (by kernel_rfl)) (fun _ _ _ h => h) (Or.inl ⟨by rfl, ?_⟩) ?_ ?_
          rotate_left
          · intro w'
            go_simp
            with_reducible rfl
          rotate_left
          · simp only [Act.put, List.setIfInBounds_toArray, List.set_cons_zero, List.set_cons_succ, i64_w, i32_w]
            rfl
          refine pure_ (i := 13) (N := some 29) (v := ?_) (a' := ?_) #[true, true, true, true, true, true, true, true, true, true, true, true, true, true, false, false] rfl rfl (any_of HT_.out (by kernel_rfl)) (fun _ _ _ h => h) (Or.inl ⟨by rfl, ?_⟩) ?_ ?_
          rotate_left
          · intro w'
            go_simp
            with_reducible rfl
          rotate_left
          · simp only [Act.put, List.setIfInBounds_toArray, List.set_cons_zero, List.set_cons_succ, i64_w, i32_w]
            rfl
          refine pure_ (i := 14) (N := some 3) (v := ?_) (a' := ?_) #[true, true, true, true, true, true, true, true, true, true, true, true, true, true, true, false] rfl rfl (any_of HT_.out (by kernel_rfl)) (fun _ _ _ h => h) (Or.inl ⟨by rfl, ?_⟩) ?_ ?_
          rotate_left
          · intro w'
            go_simp
            with_reducible rfl
          rotate_left
          · simp only [Act.put, List.setIfInBounds_toArray, List.set_cons_zero, List.set_cons_succ, i64_w, i32_w]
            rfl
          refine pure_ (i := 15) (N := some 4) (v := ?_) (a' := ?_) #[true, true, true, true, true, true, true, true, true, true, true, true, true, true, true, true] rfl rfl (any_of HT_.out (by kernel_rfl)) (fun _ _ _ h => h) (Or.inl ⟨by rfl, ?_⟩) ?_ ?_
          rotate_left
          · intro w'
            go_simp
            with_reducible rfl
          rotate_left
          · simp only [Act.put, List.setIfInBounds_toArray, List.set_cons_zero, List.set_cons_succ, i64_w, i32_w]
            rfl
          refine done_ (done_of HT_.out (by kernel_rfl)) ?_
          try go_wp2_with (first | ((with_reducible refine gate_dst (N := 31) rfl ?_); refine Kd.R_lit Kd.string _ 9 ?hg (N := 31) ?hd (xs := ([t131] : List ByteArray)) (inner := [.string t131]) (ok := fun _ => True) (okp := fun _ => True) ?hr ?hp (fun _ hk => hk) trivial (Below.refl _ _) (Nat.le_refl _) (by simp) ?_; (case hd => rfl); (case hg => rfl); (case hr => first | (go_simp; done) | (go_simp; rfl)); (case hp => exact (Reps.one (show Kd.M Kd.string _ _ _ t131 [.string t131] from rfl) (Reps.none _ _))); intro v134 w9 ho10 hb hg_ hnew_; clear hg_ hnew_; (first | rw [← Ny133.out] at ho10 | (simp only [Int.reduceToNat] at ho10; rw [← Ny133.out] at ho10)); have n0_ := Aside0.mk (Kd.R_lower ho10 (below_size (by repeat (first | (with_reducible first | exact HB.out | apply below_alloc | apply pw_below_drewN | apply below_drew1) | exact HB.out)))); have n1_ := Aside0.mk (below_step (by repeat (first | (with_reducible first | exact HB.out | apply below_alloc | apply pw_below_drewN | apply below_drew1) | exact HB.out)) hb); clear HB; have HO135 := n0_; have HB := n1_; clear n0_ n1_; clear hb ho10))
          go_ret
          exact ⟨_, by first | rfl | (simp [errW_none, errW_some] <;> rfl) | (simp [*, errW_none, errW_some] <;> rfl), by (with_reducible repeat (first | apply Kd.R_alloc | apply Kd.R_drewN | apply Kd.R_drew)); exact HO135.out, by repeat (first | (with_reducible first | exact HB.out | apply below_alloc | apply pw_below_drewN | apply below_drew1) | exact HB.out)⟩
        · rw [if_neg c5] at H
          exact absurd H (by simp)
      · rw [if_neg c4] at H
        exact absurd H (by simp)
    · rw [if_neg c3] at H
      exact absurd H (by simp)
  · rw [if_neg c2] at H
    have c2b0 : ((l0.length : Int) == 1) = false := beq_eq_false_iff_ne.mpr c2
    have c2b1 : ((l0.length : Int) != 1) = true := bne_iff_ne.mpr c2
    by_cases c11 : (l0.length : Int) = 0
    · rw [if_pos c11] at H
      have c11b0 : ((l0.length : Int) == 0) = true := beq_iff_eq.mpr c11
      have c11b1 : ((l0.length : Int) != 0) = false := bne_eq_false_iff_eq.mpr c11
      clear c11
      obtain ⟨y136, hy136⟩ : ∃ y_ : List ByteArray, y_ = (([] : List ByteArray)) := ⟨_, rfl⟩
      replace H : (some y136) = some r := by first | (rw [hy136]; with_reducible exact H) | (have H2_ := (Option.bind_some _ _).symm.trans H; rw [hy136]; with_reducible exact H2_) | (have H2_ := (Option.bind_some _ _).symm.trans H; with_reducible exact H2_) | with_reducible exact H | (rw [hy136]; exact H) | exact H
      have Ny136 := Aside0.mk hy136
      clear hy136
      obtain rfl := Option.some.inj H
      go_enter Tryd.func54, Tryd.ntmps54
      go_wp2_with (first | ((with_reducible refine gate_dst (N := 35) rfl ?_); refine Kd.R_lit Kd.string _ 9 ?hg (N := 35) ?hd (xs := ([] : List ByteArray)) (inner := []) (ok := fun _ => True) (okp := fun _ => True) ?hr ?hp (fun _ hk => hk) trivial (Below.refl _ _) (Nat.le_refl _) (by simp) ?_; (case hd => rfl); (case hg => rfl); (case hr => first | (go_simp; done) | (go_simp; rfl)); (case hp => exact (Reps.none _ _)); intro v137 w12 ho13 hb hg_ hnew_; clear hg_ hnew_; (first | rw [← Ny136.out] at ho13 | (simp only [Int.reduceToNat] at ho13; rw [← Ny136.out] at ho13)); have n0_ := Aside0.mk (Kd.R_lower ho13 (below_size (by repeat (first | (with_reducible first | exact HB.out | apply below_alloc | apply pw_below_drewN | apply below_drew1) | exact HB.out)))); have n1_ := Aside0.mk (below_step (by repeat (first | (with_reducible first | exact HB.out | apply below_alloc | apply pw_below_drewN | apply below_drew1) | exact HB.out)) hb); clear HB; have HO138 := n0_; have HB := n1_; clear n0_ n1_; clear hb ho13))
      go_ret
      exact ⟨_, by first | rfl | (simp [errW_none, errW_some] <;> rfl) | (simp [*, errW_none, errW_some] <;> rfl), by (with_reducible repeat (first | apply Kd.R_alloc | apply Kd.R_drewN | apply Kd.R_drew)); exact HO138.out, by repeat (first | (with_reducible first | exact HB.out | apply below_alloc | apply pw_below_drewN | apply below_drew1) | exact HB.out)⟩
    · rw [if_neg c11] at H
      have c11b0 : ((l0.length : Int) == 0) = false := beq_eq_false_iff_ne.mpr c11
      have c11b1 : ((l0.length : Int) != 0) = true := bne_iff_ne.mpr c11
      have c11b2 : ¬ (l0 = []) := fun h_ => c11 (by rw [h_]; rfl)
      have H' := Aside0.mk H
      clear H
      go_enter Tryd.func54, Tryd.ntmps54
      go_wp2
      go_loopg [5, 6, 7, 8] k (fun kq v5 v6 v7 v8 w' => ∃ (x5_1 : List ByteArray) (x6_1 : Int) (x7_1 : Int) (x8_1 : Int), v6 = .int .i64 x6_1 ∧ v7 = .int .i64 x7_1 ∧ v8 = .int .i64 x8_1 ∧ Aside0 (excelize_squashSqref.l0 kq l0 x5_1 x6_1 x7_1 x8_1 = some r) ∧ Aside0 (kq ≤ k) ∧ Aside0 (Kd.R Kd.string 9 w' w.heap.size (fun _ => True) v5 x5_1) ∧ Aside0 (Below w.heap.size w w'))
      case atStart => exact ⟨(([] : List ByteArray)), (0), (0), (1), (by first | rfl | (simp; done) | (simp [*]; done)), (by first | rfl | (simp; done) | (simp [*]; done)), (by first | rfl | (simp; done) | (simp [*]; done)), H', ⟨Nat.le_refl _⟩, ⟨by first | exact Kd.R_nil _ _ _ _ _ | exact Kd.N_nil _ _ _ _ _ | exact Kd.V_nil _ _ _ _ _ | exact Kd.Q_nil _ _ _ _ _ | exact Kd.S_nil _ _ _ _ _⟩, ⟨by repeat (first | (with_reducible first | exact HB.out | apply below_alloc | apply pw_below_drewN | apply below_drew1) | exact HB.out)⟩⟩
      case round =>
        clear H'
        try clear c1
        try clear p1
        try clear q1
        try clear hx1
        try clear qi1
        try clear c2
        try clear c2b0
        try clear c2b1
        try clear p2
        try clear c3
        try clear c3b0
        try clear c3b1
        try clear c4
        try clear c4b0
        try clear c4b1
        try clear c5
        try clear c5b0
        try clear c5b1
        try clear c7
        try clear c11
        try clear c11b0
        try clear c11b1
        try clear c11b2
        try clear c12
        try clear p12
        try clear q12
        try clear hx12
        try clear qi12
        try clear p13
        try clear q13
        try clear hx13
        try clear qi13
        try clear hx127_0
        try clear hx128_0
        try clear hx129_0
        try clear hx130_0
        try clear p127
        try clear p128
        try clear p129
        try clear p130
        try clear q127
        try clear q128
        try clear q129
        try clear q130
        obtain ⟨x5_1, x6_1, x7_1, x8_1, rfl, rfl, rfl, HA, HK1, HO_5, HB⟩ := hrel
        cases gk with
        | zero => exact absurd HA.out (by simp [excelize_squashSqref.l0])
        | succ k1 =>
          have H := HA.out
          clear HA
          simp only [excelize_squashSqref.l0] at H
          by_cases c14 : x8_1 < (l0.length : Int)
          · rw [if_pos c14] at H
            have c14b0 : decide (x8_1 < (l0.length : Int)) = true := decide_eq_true c14
            clear c14
            have HC15 := Aside0.mk H
            clear H
            go_upto_region 11 with (fail)
            go_cut [70] (fun v70 wc => ∃ (kq : Nat) (x70_14 : Bool), v70 = .bool x70_14 ∧ Aside0 (excelize_squashSqref.j1 kq l0 x5_1 x6_1 x7_1 x8_1 x70_14 = some r) ∧ Aside0 (kq ≤ k1) ∧ Aside0 (Kd.R Kd.string 9 wc w.heap.size (fun _ => True) u5 x5_1) ∧ Aside0 (Below w.heap.size w wc))
            case first =>
              have H := HC15.out
              clear HC15
              by_cases c16 : 0 ≤ x8_1
              · rw [if_pos c16] at H
                have c16b0 : decide (0 ≤ x8_1) = true := decide_eq_true c16
                clear c16
                (first | rw [c16b0] | (simp only [i64_w, i32_w]; rw [c16b0]) | skip)
                by_cases c17 : 0 < ((rd_L3 l0 x8_1).length : Int)
                · rw [if_pos c17] at H
                  have c17b0 : decide (0 < ((rd_L3 l0 x8_1).length : Int)) = true := decide_eq_true c17
                  have c17b1 : decide (0 < (rd_L3 l0 x8_1).length) = true := decide_eq_true (by omega)
                  clear c17
                  by_cases c18 : 0 ≤ x7_1
                  · rw [if_pos c18] at H
                    have c18b0 : decide (0 ≤ x7_1) = true := decide_eq_true c18
                    clear c18
                    by_cases c19 : x7_1 < (l0.length : Int)
                    · rw [if_pos c19] at H
                      have c19b0 : decide (x7_1 < (l0.length : Int)) = true := decide_eq_true c19
                      clear c19
                      by_cases c20 : 0 < ((rd_L3 l0 x7_1).length : Int)
                      · rw [if_pos c20] at H
                        have c20b0 : decide (0 < ((rd_L3 l0 x7_1).length : Int)) = true := decide_eq_true c20
                        have c20b1 : decide (0 < (rd_L3 l0 x7_1).length) = true := decide_eq_true (by omega)
                        clear c20
                        by_cases c21 : (rd (rd_L3 l0 x8_1) 0) = (rd (rd_L3 l0 x7_1) 0)
                        · rw [if_pos c21] at H
                          have c21b0 : ((rd (rd_L3 l0 x8_1) 0) == (rd (rd_L3 l0 x7_1) 0)) = true := beq_iff_eq.mpr c21
                          have c21b1 : ((rd (rd_L3 l0 x8_1) 0) != (rd (rd_L3 l0 x7_1) 0)) = false := bne_eq_false_iff_eq.mpr c21
                          clear c21
                          by_cases c22 : 1 < ((rd_L3 l0 x8_1).length : Int)
                          · rw [if_pos c22] at H
                            have c22b0 : decide (1 < ((rd_L3 l0 x8_1).length : Int)) = true := decide_eq_true c22
                            have c22b1 : decide (1 < (rd_L3 l0 x8_1).length) = true := decide_eq_true (by omega)
                            clear c22
                            by_cases c23 : 1 < ((rd_L3 l0 x7_1).length : Int)
                            · rw [if_pos c23] at H
                              have c23b0 : decide (1 < ((rd_L3 l0 x7_1).length : Int)) = true := decide_eq_true c23
                              have c23b1 : decide (1 < (rd_L3 l0 x7_1).length) = true := decide_eq_true (by omega)
                              clear c23
                              have H' := Aside0.mk H
                              clear H
                              try go_wp2
                              have n0_ := Aside0.mk (Kd.R_drew HO_5.out)
                              have n1_ := Aside0.mk (below_drew1 HB.out)
                              clear HO_5
                              clear HB
                              have HO_5 := n0_
                              have HB := n1_
                              clear n0_ n1_
                              have p139 : 0 ≤ (x8_1 : Int) := of_decide_eq_true (by first | (with_reducible assumption) | assumption)
                              have q139 : x8_1 < (l0.length : Int) := of_decide_eq_true (by first | (with_reducible assumption) | assumption)
                              obtain ⟨ad139, A139_0, c139_0, e139, hx139_0, hl139_0, hi139_0⟩ := excelize_squashSqref.at_X HR0.out x8_1 p139 q139
                              have hw139_0 := hx139_0
                              cases e139
                              replace hx139_0 := (HB.out.cell (World.block_lt_of_cell? w _ hx139_0)).trans hx139_0
                              have HR139_0 := Aside0.mk hi139_0
                              have HC139_0 := Aside0.mk hl139_0
                              clear hi139_0 hl139_0
                              replace p139 := eq_true p139
                              replace q139 := eq_true q139
                              have p140 : 0 ≤ (0 : Int) := (by omega)
                              have q140 : 0 < ((rd_L3 l0 x8_1).length : Int) := of_decide_eq_true (by first | (with_reducible assumption) | assumption)
                              obtain ⟨ad140, e140, hx140_0⟩ := Kd.at_int HR139_0.out 0 p140 q140
                              have hw140_0 := hx140_0
                              (try rw [show ((0 : Int)).toNat = 0 from rfl] at hw140_0)
                              (try rw [show 0 * 1 = 0 from rfl] at hw140_0)
                              (try rw [Addr.add_zero'] at hw140_0)
                              cases e140
                              have qi140 : (0 < (rd_L3 l0 x8_1).length) = True := eq_true (by omega)
                              (try rw [show ((0 : Int)).toNat = 0 from rfl] at hx140_0)
                              (try rw [Addr.add_zero'] at hx140_0)
                              replace hx140_0 := (HB.out.cell (World.block_lt_of_cell? w _ hx140_0)).trans hx140_0
                              replace p140 := eq_true p140
                              replace q140 := eq_true q140
                              have p141 : 0 ≤ (x7_1 : Int) := of_decide_eq_true (by first | (with_reducible assumption) | assumption)
                              have q141 : x7_1 < (l0.length : Int) := of_decide_eq_true (by first | (with_reducible assumption) | assumption)
                              obtain ⟨ad141, A141_0, c141_0, e141, hx141_0, hl141_0, hi141_0⟩ := excelize_squashSqref.at_X HR0.out x7_1 p141 q141
                              have hw141_0 := hx141_0
                              obtain rfl : ad139 = ad141 := (by injection e141)
                              replace hx141_0 := (HB.out.cell (World.block_lt_of_cell? w _ hx141_0)).trans hx141_0
                              have HR141_0 := Aside0.mk hi141_0
                              have HC141_0 := Aside0.mk hl141_0
                              clear hi141_0 hl141_0
                              replace p141 := eq_true p141
                              replace q141 := eq_true q141
                              have p142 : 0 ≤ (0 : Int) := (by omega)
                              have q142 : 0 < ((rd_L3 l0 x7_1).length : Int) := of_decide_eq_true (by first | (with_reducible assumption) | assumption)
                              obtain ⟨ad142, e142, hx142_0⟩ := Kd.at_int HR141_0.out 0 p142 q142
                              have hw142_0 := hx142_0
                              (try rw [show ((0 : Int)).toNat = 0 from rfl] at hw142_0)
                              (try rw [show 0 * 1 = 0 from rfl] at hw142_0)
                              (try rw [Addr.add_zero'] at hw142_0)
                              cases e142
                              have qi142 : (0 < (rd_L3 l0 x7_1).length) = True := eq_true (by omega)
                              (try rw [show ((0 : Int)).toNat = 0 from rfl] at hx142_0)
                              (try rw [Addr.add_zero'] at hx142_0)
                              replace hx142_0 := (HB.out.cell (World.block_lt_of_cell? w _ hx142_0)).trans hx142_0
                              replace p142 := eq_true p142
                              replace q142 := eq_true q142
                              have p143 : 0 ≤ (x8_1 : Int) := of_decide_eq_true (by first | (with_reducible assumption) | assumption)
                              have q143 : x8_1 < (l0.length : Int) := of_decide_eq_true (by first | (with_reducible assumption) | assumption)
                              obtain ⟨ad143, A143_0, c143_0, e143, hx143_0, hl143_0, hi143_0⟩ := excelize_squashSqref.at_X HR0.out x8_1 p143 q143
                              have hw143_0 := hx143_0
                              obtain rfl : ad139 = ad143 := (by injection e143)
                              replace hx143_0 := (HB.out.cell (World.block_lt_of_cell? w _ hx143_0)).trans hx143_0
                              have HR143_0 := Aside0.mk hi143_0
                              have HC143_0 := Aside0.mk hl143_0
                              clear hi143_0 hl143_0
                              replace p143 := eq_true p143
                              replace q143 := eq_true q143
                              have ea_ := Option.some.inj (hx139_0.symm.trans hx143_0)
                              injection ea_ with ea_ en_ ec_
                              subst ea_
                              subst ec_
                              clear en_
                              have p144 : 0 ≤ (1 : Int) := (by omega)
                              have q144 : 1 < ((rd_L3 l0 x8_1).length : Int) := of_decide_eq_true (by first | (with_reducible assumption) | assumption)
                              obtain ⟨ad144, e144, hx144_0⟩ := Kd.at_int HR143_0.out 1 p144 q144
                              have hw144_0 := hx144_0
                              (try rw [show ((1 : Int)).toNat = 1 from rfl] at hw144_0)
                              (try rw [show 1 * 1 = 1 from rfl] at hw144_0)
                              (try simp only [Nat.reduceMul, Nat.reduceEqDiff, Go.Addr.add, ↓reduceIte] at hw144_0)
                              cases e144
                              (try simp only [show (1 : Int).toNat = 1 from rfl, Nat.reduceMul, Nat.reduceEqDiff, Go.Addr.add, ↓reduceIte] at hx144_0)
                              have qi144 : (1 < (rd_L3 l0 x8_1).length) = True := eq_true (by omega)
                              (try rw [show ((1 : Int)).toNat = 1 from rfl] at hx144_0)
                              replace hx144_0 := (HB.out.cell (World.block_lt_of_cell? w _ hx144_0)).trans hx144_0
                              replace p144 := eq_true p144
                              replace q144 := eq_true q144
                              have p145 : 0 ≤ (x7_1 : Int) := of_decide_eq_true (by first | (with_reducible assumption) | assumption)
                              have q145 : x7_1 < (l0.length : Int) := of_decide_eq_true (by first | (with_reducible assumption) | assumption)
                              obtain ⟨ad145, A145_0, c145_0, e145, hx145_0, hl145_0, hi145_0⟩ := excelize_squashSqref.at_X HR0.out x7_1 p145 q145
                              have hw145_0 := hx145_0
                              obtain rfl : ad139 = ad145 := (by injection e145)
                              replace hx145_0 := (HB.out.cell (World.block_lt_of_cell? w _ hx145_0)).trans hx145_0
                              have HR145_0 := Aside0.mk hi145_0
                              have HC145_0 := Aside0.mk hl145_0
                              clear hi145_0 hl145_0
                              replace p145 := eq_true p145
                              replace q145 := eq_true q145
                              have ea_ := Option.some.inj (hx141_0.symm.trans hx145_0)
                              injection ea_ with ea_ en_ ec_
                              subst ea_
                              subst ec_
                              clear en_
                              have p146 : 0 ≤ (1 : Int) := (by omega)
                              have q146 : 1 < ((rd_L3 l0 x7_1).length : Int) := of_decide_eq_true (by first | (with_reducible assumption) | assumption)
                              obtain ⟨ad146, e146, hx146_0⟩ := Kd.at_int HR145_0.out 1 p146 q146
                              have hw146_0 := hx146_0
                              (try rw [show ((1 : Int)).toNat = 1 from rfl] at hw146_0)
                              (try rw [show 1 * 1 = 1 from rfl] at hw146_0)
                              (try simp only [Nat.reduceMul, Nat.reduceEqDiff, Go.Addr.add, ↓reduceIte] at hw146_0)
                              cases e146
                              (try simp only [show (1 : Int).toNat = 1 from rfl, Nat.reduceMul, Nat.reduceEqDiff, Go.Addr.add, ↓reduceIte] at hx146_0)
                              have qi146 : (1 < (rd_L3 l0 x7_1).length) = True := eq_true (by omega)
                              (try rw [show ((1 : Int)).toNat = 1 from rfl] at hx146_0)
                              replace hx146_0 := (HB.out.cell (World.block_lt_of_cell? w _ hx146_0)).trans hx146_0
                              replace p146 := eq_true p146
                              replace q146 := eq_true q146
                              refine start_ (n := 29) (S := fun w' => w'.cell? (ad139.add (x8_1).toNat) = some (.slice (some ad140) (rd_L3 l0 x8_1).length c139_0) ∧ w'.cell? ad140 = some (.int .i64 (rd (rd_L3 l0 x8_1) 0)) ∧ w'.cell? (ad139.add (x7_1).toNat) = some (.slice (some ad142) (rd_L3 l0 x7_1).length c141_0) ∧ w'.cell? ad142 = some (.int .i64 (rd (rd_L3 l0 x7_1) 0)) ∧ w'.cell? (ad139.add (x8_1).toNat) = some (.slice (some ad140) (rd_L3 l0 x8_1).length c139_0) ∧ w'.cell? ⟨ad140.block, ad140.off + 1, none⟩ = some (.int .i64 (rd (rd_L3 l0 x8_1) 1)) ∧ w'.cell? (ad139.add (x7_1).toNat) = some (.slice (some ad142) (rd_L3 l0 x7_1).length c141_0) ∧ w'.cell? ⟨ad142.block, ad142.off + 1, none⟩ = some (.int .i64 (rd (rd_L3 l0 x7_1) 1))) (ds := []) #[false, false, false, false, false, false, false, false, false, false, false, false, false, false, false, false, false, false, false, false, false, false, false, false, false, false, false, false, false] (by kernel_rfl) rfl rfl ⟨((HB.out.cell (World.block_lt_of_cell? w _ hw139_0)).trans hw139_0), ((HB.out.cell (World.block_lt_of_cell? w _ hw140_0)).trans hw140_0), ((HB.out.cell (World.block_lt_of_cell? w _ hw141_0)).trans hw141_0), ((HB.out.cell (World.block_lt_of_cell? w _ hw142_0)).trans hw142_0), ((HB.out.cell (World.block_lt_of_cell? w _ hw143_0)).trans hw143_0), ((HB.out.cell (World.block_lt_of_cell? w _ hw144_0)).trans hw144_0), ((HB.out.cell (World.block_lt_of_cell? w _ hw145_0)).trans hw145_0), ((HB.out.cell (World.block_lt_of_cell? w _ hw146_0)).trans hw146_0)⟩ (fun hHeld => ?_); refine with_tabW excelize_squashSqref.tab11 excelize_squashSqref.bits11 (fun HT_ HW_ => ?_)
                              generalize wr.drew = w24 at HO_5 HB HR139_0 HR141_0 HR143_0 HR145_0 hx139_0 hx140_0 hx141_0 hx142_0 hx143_0 hx144_0 hx145_0 hx146_0 hHeld ⊢
                              refine pure_ (i := 0) (N := some 42) (v := ?_) (a' := ?_) #[true, false, false, false, false, false, false, false, false, false, false, false, false, false, false, false, false, false, false, false, false, false, false, false, false, false, false, false, false] rfl rfl (any_of HT_.out (by kernel_rfl)) (fun _ _ _ h => h) (Or.inl ⟨by rfl, ?_⟩) ?_ ?_
                              rotate_left
                              · intro w'
                                go_simp
                                with_reducible rfl
                              rotate_left
                              · simp only [Act.put, List.setIfInBounds_toArray, List.set_cons_zero, List.set_cons_succ, i64_w, i32_w]
                                rfl
                              refine pure_ (i := 1) (N := some 43) (v := ?_) (a' := ?_) #[true, true, false, false, false, false, false, false, false, false, false, false, false, false, false, false, false, false, false, false, false, false, false, false, false, false, false, false, false] rfl rfl (any_of HT_.out (by kernel_rfl)) (fun _ _ _ h => h) (Or.inl ⟨by rfl, ?_⟩) ?_ ?_
                              rotate_left
                              · intro w'
                                go_simp
                                with_reducible rfl
                              rotate_left
                              · simp only [Act.put, List.setIfInBounds_toArray, List.set_cons_zero, List.set_cons_succ, i64_w, i32_w]
                                rfl
                              refine pure_ (i := 2) (N := some 44) (v := ?_) (a' := ?_) #[true, true, true, false, false, false, false, false, false, false, false, false, false, false, false, false, false, false, false, false, false, false, false, false, false, false, false, false, false] rfl rfl (any_of HT_.out (by kernel_rfl)) (fun _ _ _ h => h) (Or.inl ⟨by rfl, ?_⟩) ?_ ?_
                              rotate_left
                              · intro w'
                                go_simp
                                with_reducible rfl
                              rotate_left
                              · simp only [Act.put, List.setIfInBounds_toArray, List.set_cons_zero, List.set_cons_succ, i64_w, i32_w]
                                rfl
                              refine pure_ (i := 6) (N := some 48) (v := ?_) (a' := ?_) #[true, true, true, false, false, false, true, false, false, false, false, false, false, false, false, false, false, false, false, false, false, false, false, false, false, false, false, false, false] rfl rfl (any_of HT_.out (by kernel_rfl)) (fun _ _ _ h => h) (Or.inl ⟨by rfl, ?_⟩) ?_ ?_
                              rotate_left
                              · intro w'
                                go_simp
                                with_reducible rfl
                              rotate_left
                              · simp only [Act.put, List.setIfInBounds_toArray, List.set_cons_zero, List.set_cons_succ, i64_w, i32_w]
                                rfl
                              refine pure_ (i := 7) (N := some 49) (v := ?_) (a' := ?_) #[true, true, true, false, false, false, true, true, false, false, false, false, false, false, false, false, false, false, false, false, false, false, false, false, false, false, false, false, false] rfl rfl (any_of HT_.out (by kernel_rfl)) (fun _ _ _ h => h) (Or.inl ⟨by rfl, ?_⟩) ?_ ?_
                              rotate_left
                              · intro w'
                                go_simp
                                with_reducible rfl
                              rotate_left
                              · simp only [Act.put, List.setIfInBounds_toArray, List.set_cons_zero, List.set_cons_succ, i64_w, i32_w]
                                rfl
                              refine pure_ (i := 8) (N := some 50) (v := ?_) (a' := ?_) #[true, true, true, false, false, false, true, true, true, false, false, false, false, false, false, false, false, false, false, false, false, false, false, false, false, false, false, false, false] rfl rfl (any_of HT_.out (by kernel_rfl)) (fun _ _ _ h => h) (Or.inl ⟨by rfl, ?_⟩) ?_ ?_
                              rotate_left
                              · intro w'
                                go_simp
                                with_reducible rfl
                              rotate_left
                              · simp only [Act.put, List.setIfInBounds_toArray, List.set_cons_zero, List.set_cons_succ, i64_w, i32_w]
                                rfl
                              refine take_ (i := 3) (N := some 45) (v := ?_) (a' := ?_) #[true, true, true, true, false, false, true, true, true, false, false, false, false, false, false, false, false, false, false, false, false, false, false, false, false, false, false, false, false] rfl rfl (take_ofW HT_.out HW_.out (by kernel_rfl)) (fun _ _ _ h => h) (Or.inl ⟨by rfl, ?_⟩) hHeld ?_ ?_
                              rotate_left
                              · rintro w' ⟨s0, s1, s2, s3, s4, s5, s6, s7⟩
                                go_simp
                                with_reducible rfl
                              rotate_left
                              · simp only [Act.put, List.setIfInBounds_toArray, List.set_cons_zero, List.set_cons_succ, i64_w, i32_w]
                                rfl
                              refine pure_ (i := 4) (N := some 46) (v := ?_) (a' := ?_) #[true, true, true, true, true, false, true, true, true, false, false, false, false, false, false, false, false, false, false, false, false, false, false, false, false, false, false, false, false] rfl rfl (any_of HT_.out (by kernel_rfl)) (fun _ _ _ h => h) (Or.inl ⟨by rfl, ?_⟩) ?_ ?_
                              rotate_left
                              · intro w'
                                go_simp
                                with_reducible rfl
                              rotate_left
                              · simp only [Act.put, List.setIfInBounds_toArray, List.set_cons_zero, List.set_cons_succ, i64_w, i32_w]
                                rfl
                              refine take_ (i := 5) (N := some 47) (v := ?_) (a' := ?_) #[true, true, true, true, true, true, true, true, true, false, false, false, false, false, false, false, false, false, false, false, false, false, false, false, false, false, false, false, false] rfl rfl (take_ofW HT_.out HW_.out (by kernel_rfl)) (fun _ _ _ h => h) (Or.inl ⟨by rfl, ?_⟩) hHeld ?_ ?_
                              rotate_left
                              · rintro w' ⟨s0, s1, s2, s3, s4, s5, s6, s7⟩
                                go_simp
                                with_reducible rfl
                              rotate_left
                              · simp only [Act.put, List.setIfInBounds_toArray, List.set_cons_zero, List.set_cons_succ, i64_w, i32_w]
                                rfl
                              refine take_ (i := 9) (N := some 51) (v := ?_) (a' := ?_) #[true, true, true, true, true, true, true, true, true, true, false, false, false, false, false, false, false, false, false, false, false, false, false, false, false, false, false, false, false] rfl rfl (take_ofW HT_.out HW_.out (by kernel_rfl)) (fun _ _ _ h => h) (Or.inl ⟨by rfl, ?_⟩) hHeld ?_ ?_
                              rotate_left
                              · rintro w' ⟨s0, s1, s2, s3, s4, s5, s6, s7⟩
                                go_simp
                                with_reducible rfl
                              rotate_left
                              · simp only [Act.put, List.setIfInBounds_toArray, List.set_cons_zero, List.set_cons_succ, i64_w, i32_w]
                                rfl
                              refine pure_ (i := 10) (N := some 52) (v := ?_) (a' := ?_) #[true, true, true, true, true, true, true, true, true, true, true, false, false, false, false, false, false, false, false, false, false, false, false, false, false, false, false, false, false] rfl rfl (any_of HT_.out (by kernel_rfl)) (fun _ _ _ h => h) (Or.inl ⟨by rfl, ?_⟩) ?_ ?_
                              rotate_left
                              · intro w'
                                go_simp
                                with_reducible rfl
                              rotate_left
                              · simp only [Act.put, List.setIfInBounds_toArray, List.set_cons_zero, List.set_cons_succ, i64_w, i32_w]
                                rfl
                              refine take_ (i := 11) (N := some 53) (v := ?_) (a' := ?_) #[true, true, true, true, true, true, true, true, true, true, true, true, false, false, false, false, false, false, false, false, false, false, false, false, false, false, false, false, false] rfl rfl (take_ofW HT_.out HW_.out (by kernel_rfl)) (fun _ _ _ h => h) (Or.inl ⟨by rfl, ?_⟩) hHeld ?_ ?_
                              rotate_left
                              · rintro w' ⟨s0, s1, s2, s3, s4, s5, s6, s7⟩
                                go_simp
                                with_reducible rfl
                              rotate_left
                              · simp only [Act.put, List.setIfInBounds_toArray, List.set_cons_zero, List.set_cons_succ, i64_w, i32_w]
                                rfl
                              refine pure_ (i := 12) (N := some 54) (v := ?_) (a' := ?_) #[true, true, true, true, true, true, true, true, true, true, true, true, true, false, false, false, false, false, false, false, false, false, false, false, false, false, false, false, false] rfl rfl (any_of HT_.out (by kernel_rfl)) (fun _ _ _ h => h) (Or.inl ⟨by rfl, ?_⟩) ?_ ?_
                              rotate_left
                              · intro w'
                                go_simp
                                with_reducible rfl
                              rotate_left
                              · simp only [Act.put, List.setIfInBounds_toArray, List.set_cons_zero, List.set_cons_succ, i64_w, i32_w]
                                rfl
                              refine pure_ (i := 13) (N := some 55) (v := ?_) (a' := ?_) #[true, true, true, true, true, true, true, true, true, true, true, true, true, true, false, false, false, false, false, false, false, false, false, false, false, false, false, false, false] rfl rfl (any_of HT_.out (by kernel_rfl)) (fun _ _ _ h => h) (Or.inl ⟨by rfl, ?_⟩) ?_ ?_
                              rotate_left
                              · intro w'
                                go_simp
                                with_reducible rfl
                              rotate_left
                              · simp only [Act.put, List.setIfInBounds_toArray, List.set_cons_zero, List.set_cons_succ, i64_w, i32_w]
                                rfl
                              refine pure_ (i := 14) (N := some 56) (v := ?_) (a' := ?_) #[true, true, true, true, true, true, true, true, true, true, true, true, true, true, true, false, false, false, false, false, false, false, false, false, false, false, false, false, false] rfl rfl (any_of HT_.out (by kernel_rfl)) (fun _ _ _ h => h) (Or.inl ⟨by rfl, ?_⟩) ?_ ?_
                              rotate_left
                              · intro w'
                                go_simp
                                with_reducible rfl
                              rotate_left
                              · simp only [Act.put, List.setIfInBounds_toArray, List.set_cons_zero, List.set_cons_succ, i64_w, i32_w]
                                rfl
                              refine pure_ (i := 15) (N := some 57) (v := ?_) (a' := ?_) #[true, true, true, true, true, true, true, true, true, true, true, true, true, true, true, true, false, false, false, false, false, false, false, false, false, false, false, false, false] rfl rfl (any_of HT_.out (by kernel_rfl)) (fun _ _ _ h => h) (Or.inl ⟨by rfl, ?_⟩) ?_ ?_
                              rotate_left
                              · intro w'
                                go_simp
                                with_reducible rfl
                              rotate_left
                              · simp only [Act.put, List.setIfInBounds_toArray, List.set_cons_zero, List.set_cons_succ, i64_w, i32_w]
                                rfl
                              refine pure_ (i := 16) (N := some 58) (v := ?_) (a' := ?_) #[true, true, true, true, true, true, true, true, true, true, true, true, true, true, true, true, true, false, false, false, false, false, false, false, false, false, false, false, false] rfl rfl (any_of HT_.out (by kernel_rfl)) (fun _ _ _ h => h) (Or.inl ⟨by rfl, ?_⟩) ?_ ?_
                              rotate_left
                              · intro w'
                                go_simp
                                with_reducible rfl
                              rotate_left
                              · simp only [Act.put, List.setIfInBounds_toArray, List.set_cons_zero, List.set_cons_succ, i64_w, i32_w]
                                rfl
                              refine pure_ (i := 20) (N := some 62) (v := ?_) (a' := ?_) #[true, true, true, true, true, true, true, true, true, true, true, true, true, true, true, true, true, false, false, false, true, false, false, false, false, false, false, false, false] rfl rfl (any_of HT_.out (by kernel_rfl)) (fun _ _ _ h => h) (Or.inl ⟨by rfl, ?_⟩) ?_ ?_
                              rotate_left
                              · intro w'
                                go_simp
                                with_reducible rfl
                              rotate_left
                              · simp only [Act.put, List.setIfInBounds_toArray, List.set_cons_zero, List.set_cons_succ, i64_w, i32_w]
                                rfl
                              refine pure_ (i := 21) (N := some 63) (v := ?_) (a' := ?_) #[true, true, true, true, true, true, true, true, true, true, true, true, true, true, true, true, true, false, false, false, true, true, false, false, false, false, false, false, false] rfl rfl (any_of HT_.out (by kernel_rfl)) (fun _ _ _ h => h) (Or.inl ⟨by rfl, ?_⟩) ?_ ?_
                              rotate_left
                              · intro w'
                                go_simp
                                with_reducible rfl
                              rotate_left
                              · simp only [Act.put, List.setIfInBounds_toArray, List.set_cons_zero, List.set_cons_succ, i64_w, i32_w]
                                rfl
                              refine pure_ (i := 22) (N := some 64) (v := ?_) (a' := ?_) #[true, true, true, true, true, true, true, true, true, true, true, true, true, true, true, true, true, false, false, false, true, true, true, false, false, false, false, false, false] rfl rfl (any_of HT_.out (by kernel_rfl)) (fun _ _ _ h => h) (Or.inl ⟨by rfl, ?_⟩) ?_ ?_
                              rotate_left
                              · intro w'
                                go_simp
                                with_reducible rfl
                              rotate_left
                              · simp only [Act.put, List.setIfInBounds_toArray, List.set_cons_zero, List.set_cons_succ, i64_w, i32_w]
                                rfl
                              refine take_ (i := 17) (N := some 59) (v := ?_) (a' := ?_) #[true, true, true, true, true, true, true, true, true, true, true, true, true, true, true, true, true, true, false, false, true, true, true, false, false, false, false, false, false] rfl rfl (take_ofW HT_.out HW_.out (by kernel_rfl)) (fun _ _ _ h => h) (Or.inl ⟨by rfl, ?_⟩) hHeld ?_ ?_
                              rotate_left
                              · rintro w' ⟨s0, s1, s2, s3, s4, s5, s6, s7⟩
                                go_simp
                                with_reducible rfl
                              rotate_left
                              · simp only [Act.put, List.setIfInBounds_toArray, List.set_cons_zero, List.set_cons_succ, i64_w, i32_w]
                                rfl
                              refine pure_ (i := 18) (N := some 60) (v := ?_) (a' := ?_) #[true, true, true, true, true, true, true, true, true, true, true, true, true, true, true, true, true, true, true, false, true, true, true, false, false, false, false, false, false] rfl rfl (any_of HT_.out (by kernel_rfl)) (fun _ _ _ h => h) (Or.inl ⟨by rfl, ?_⟩) ?_ ?_
                              rotate_left
                              · intro w'
                                go_simp
                                with_reducible rfl
                              rotate_left
                              · simp only [Act.put, List.setIfInBounds_toArray, List.set_cons_zero, List.set_cons_succ, i64_w, i32_w]
                                rfl
                              refine take_ (i := 19) (N := some 61) (v := ?_) (a' := ?_) #[true, true, true, true, true, true, true, true, true, true, true, true, true, true, true, true, true, true, true, true, true, true, true, false, false, false, false, false, false] rfl rfl (take_ofW HT_.out HW_.out (by kernel_rfl)) (fun _ _ _ h => h) (Or.inl ⟨by rfl, ?_⟩) hHeld ?_ ?_
                              rotate_left
                              · rintro w' ⟨s0, s1, s2, s3, s4, s5, s6, s7⟩
                                go_simp
                                with_reducible rfl
                              rotate_left
                              · simp only [Act.put, List.setIfInBounds_toArray, List.set_cons_zero, List.set_cons_succ, i64_w, i32_w]
                                rfl
                              refine take_ (i := 23) (N := some 65) (v := ?_) (a' := ?_) #[true, true, true, true, true, true, true, true, true, true, true, true, true, true, true, true, true, true, true, true, true, true, true, true, false, false, false, false, false] rfl rfl (take_ofW HT_.out HW_.out (by kernel_rfl)) (fun _ _ _ h => h) (Or.inl ⟨by rfl, ?_⟩) hHeld ?_ ?_
                              rotate_left
                              · rintro w' ⟨s0, s1, s2, s3, s4, s5, s6, s7⟩
                                go_simp
                                with_reducible rfl
                              rotate_left
                              · simp only [Act.put, List.setIfInBounds_toArray, List.set_cons_zero, List.set_cons_succ, i64_w, i32_w]
                                rfl
                              refine pure_ (i := 24) (N := some 66) (v := ?_) (a' := ?_) #[true, true, true, true, true, true, true, true, true, true, true, true, true, true, true, true, true, true, true, true, true, true, true, true, true, false, false, false, false] rfl rfl (any_of HT_.out (by kernel_rfl)) (fun _ _ _ h => h) (Or.inl ⟨by rfl, ?_⟩) ?_ ?_
                              rotate_left
                              · intro w'
                                go_simp
                                with_reducible rfl
                              rotate_left
                              · simp only [Act.put, List.setIfInBounds_toArray, List.set_cons_zero, List.set_cons_succ, i64_w, i32_w]
                                rfl
                              refine take_ (i := 25) (N := some 67) (v := ?_) (a' := ?_) #[true, true, true, true, true, true, true, true, true, true, true, true, true, true, true, true, true, true, true, true, true, true, true, true, true, true, false, false, false] rfl rfl (take_ofW HT_.out HW_.out (by kernel_rfl)) (fun _ _ _ h => h) (Or.inl ⟨by rfl, ?_⟩) hHeld ?_ ?_
                              rotate_left
                              · rintro w' ⟨s0, s1, s2, s3, s4, s5, s6, s7⟩
                                go_simp
                                with_reducible rfl
                              rotate_left
                              · simp only [Act.put, List.setIfInBounds_toArray, List.set_cons_zero, List.set_cons_succ, i64_w, i32_w]
                                rfl
                              refine pure_ (i := 26) (N := some 68) (v := ?_) (a' := ?_) #[true, true, true, true, true, true, true, true, true, true, true, true, true, true, true, true, true, true, true, true, true, true, true, true, true, true, true, false, false] rfl rfl (any_of HT_.out (by kernel_rfl)) (fun _ _ _ h => h) (Or.inl ⟨by rfl, ?_⟩) ?_ ?_
                              rotate_left
                              · intro w'
                                go_simp
                                with_reducible rfl
                              rotate_left
                              · simp only [Act.put, List.setIfInBounds_toArray, List.set_cons_zero, List.set_cons_succ, i64_w, i32_w]
                                rfl
                              refine pure_ (i := 27) (N := some 69) (v := ?_) (a' := ?_) #[true, true, true, true, true, true, true, true, true, true, true, true, true, true, true, true, true, true, true, true, true, true, true, true, true, true, true, true, false] rfl rfl (any_of HT_.out (by kernel_rfl)) (fun _ _ _ h => h) (Or.inl ⟨by rfl, ?_⟩) ?_ ?_
                              rotate_left
                              · intro w'
                                go_simp
                                with_reducible rfl
                              rotate_left
                              · simp only [Act.put, List.setIfInBounds_toArray, List.set_cons_zero, List.set_cons_succ, i64_w, i32_w]
                                rfl
                              refine pure_ (i := 28) (N := some 70) (v := ?_) (a' := ?_) #[true, true, true, true, true, true, true, true, true, true, true, true, true, true, true, true, true, true, true, true, true, true, true, true, true, true, true, true, true] rfl rfl (any_of HT_.out (by kernel_rfl)) (fun _ _ _ h => h) (Or.inl ⟨by rfl, ?_⟩) ?_ ?_
                              rotate_left
                              · intro w'
                                go_simp
                                with_reducible rfl
                              rotate_left
                              · simp only [Act.put, List.setIfInBounds_toArray, List.set_cons_zero, List.set_cons_succ, i64_w, i32_w]
                                rfl
                              refine done_ (done_of HT_.out (by kernel_rfl)) ?_
                              try go_wp2
                              go_meet
                              case rel => exact ⟨_, (decide ((wrap64 ((rd (rd_L3 l0 x8_1) 1) - (rd (rd_L3 l0 x7_1) 1))) > 1)), (by first | rfl | (simp; done) | (simp [*]; done)), H', ⟨by have := HK1.out; first | omega | exact Nat.le_refl _⟩, ⟨by (with_reducible repeat (first | apply Kd.R_alloc | apply Kd.R_drewN | apply Kd.R_drew)); exact HO_5.out⟩, ⟨by repeat (first | (with_reducible first | exact HB.out | apply below_alloc | apply pw_below_drewN | apply below_drew1) | exact HB.out)⟩⟩
                            · rw [if_neg c23] at H
                              exact absurd H (by simp)
                          · rw [if_neg c22] at H
                            exact absurd H (by simp)
                        · rw [if_neg c21] at H
                          have c21b0 : ((rd (rd_L3 l0 x8_1) 0) == (rd (rd_L3 l0 x7_1) 0)) = false := beq_eq_false_iff_ne.mpr c21
                          have c21b1 : ((rd (rd_L3 l0 x8_1) 0) != (rd (rd_L3 l0 x7_1) 0)) = true := bne_iff_ne.mpr c21
                          have H' := Aside0.mk H
                          clear H
                          try go_wp2
                          have n0_ := Aside0.mk (Kd.R_drew HO_5.out)
                          have n1_ := Aside0.mk (below_drew1 HB.out)
                          clear HO_5
                          clear HB
                          have HO_5 := n0_
                          have HB := n1_
                          clear n0_ n1_
                          have p139 : 0 ≤ (x8_1 : Int) := of_decide_eq_true (by first | (with_reducible assumption) | assumption)
                          have q139 : x8_1 < (l0.length : Int) := of_decide_eq_true (by first | (with_reducible assumption) | assumption)
                          obtain ⟨ad139, A139_0, c139_0, e139, hx139_0, hl139_0, hi139_0⟩ := excelize_squashSqref.at_X HR0.out x8_1 p139 q139
                          have hw139_0 := hx139_0
                          cases e139
                          replace hx139_0 := (HB.out.cell (World.block_lt_of_cell? w _ hx139_0)).trans hx139_0
                          have HR139_0 := Aside0.mk hi139_0
                          have HC139_0 := Aside0.mk hl139_0
                          clear hi139_0 hl139_0
                          replace p139 := eq_true p139
                          replace q139 := eq_true q139
                          have p140 : 0 ≤ (0 : Int) := (by omega)
                          have q140 : 0 < ((rd_L3 l0 x8_1).length : Int) := of_decide_eq_true (by first | (with_reducible assumption) | assumption)
                          obtain ⟨ad140, e140, hx140_0⟩ := Kd.at_int HR139_0.out 0 p140 q140
                          have hw140_0 := hx140_0
                          (try rw [show ((0 : Int)).toNat = 0 from rfl] at hw140_0)
                          (try rw [show 0 * 1 = 0 from rfl] at hw140_0)
                          (try rw [Addr.add_zero'] at hw140_0)
                          cases e140
                          have qi140 : (0 < (rd_L3 l0 x8_1).length) = True := eq_true (by omega)
                          (try rw [show ((0 : Int)).toNat = 0 from rfl] at hx140_0)
                          (try rw [Addr.add_zero'] at hx140_0)
                          replace hx140_0 := (HB.out.cell (World.block_lt_of_cell? w _ hx140_0)).trans hx140_0
                          replace p140 := eq_true p140
                          replace q140 := eq_true q140
                          have p141 : 0 ≤ (x7_1 : Int) := of_decide_eq_true (by first | (with_reducible assumption) | assumption)
                          have q141 : x7_1 < (l0.length : Int) := of_decide_eq_true (by first | (with_reducible assumption) | assumption)
                          obtain ⟨ad141, A141_0, c141_0, e141, hx141_0, hl141_0, hi141_0⟩ := excelize_squashSqref.at_X HR0.out x7_1 p141 q141
                          have hw141_0 := hx141_0
                          obtain rfl : ad139 = ad141 := (by injection e141)
                          replace hx141_0 := (HB.out.cell (World.block_lt_of_cell? w _ hx141_0)).trans hx141_0
                          have HR141_0 := Aside0.mk hi141_0
                          have HC141_0 := Aside0.mk hl141_0
                          clear hi141_0 hl141_0
                          replace p141 := eq_true p141
                          replace q141 := eq_true q141
                          have p142 : 0 ≤ (0 : Int) := (by omega)
                          have q142 : 0 < ((rd_L3 l0 x7_1).length : Int) := of_decide_eq_true (by first | (with_reducible assumption) | assumption)
                          obtain ⟨ad142, e142, hx142_0⟩ := Kd.at_int HR141_0.out 0 p142 q142
                          have hw142_0 := hx142_0
                          (try rw [show ((0 : Int)).toNat = 0 from rfl] at hw142_0)
                          (try rw [show 0 * 1 = 0 from rfl] at hw142_0)
                          (try rw [Addr.add_zero'] at hw142_0)
                          cases e142
                          have qi142 : (0 < (rd_L3 l0 x7_1).length) = True := eq_true (by omega)
                          (try rw [show ((0 : Int)).toNat = 0 from rfl] at hx142_0)
                          (try rw [Addr.add_zero'] at hx142_0)
                          replace hx142_0 := (HB.out.cell (World.block_lt_of_cell? w _ hx142_0)).trans hx142_0
                          replace p142 := eq_true p142
                          replace q142 := eq_true q142
                          refine start_ (n := 29) (S := fun w' => w'.cell? (ad139.add (x8_1).toNat) = some (.slice (some ad140) (rd_L3 l0 x8_1).length c139_0) ∧ w'.cell? ad140 = some (.int .i64 (rd (rd_L3 l0 x8_1) 0)) ∧ w'.cell? (ad139.add (x7_1).toNat) = some (.slice (some ad142) (rd_L3 l0 x7_1).length c141_0) ∧ w'.cell? ad142 = some (.int .i64 (rd (rd_L3 l0 x7_1) 0))) (ds := []) #[false, false, false, false, false, false, false, false, false, false, false, false, false, false, false, false, false, false, false, false, false, false, false, false, false, false, false, false, false] (by kernel_rfl) rfl rfl ⟨((HB.out.cell (World.block_lt_of_cell? w _ hw139_0)).trans hw139_0), ((HB.out.cell (World.block_lt_of_cell? w _ hw140_0)).trans hw140_0), ((HB.out.cell (World.block_lt_of_cell? w _ hw141_0)).trans hw141_0), ((HB.out.cell (World.block_lt_of_cell? w _ hw142_0)).trans hw142_0)⟩ (fun hHeld => ?_); refine with_tabW excelize_squashSqref.tab11 excelize_squashSqref.bits11 (fun HT_ HW_ => ?_)
                          generalize wr.drew = w25 at HO_5 HB HR139_0 HR141_0 hx139_0 hx140_0 hx141_0 hx142_0 hHeld ⊢
                          refine pure_ (i := 0) (N := some 42) (v := ?_) (a' := ?_) #[true, false, false, false, false, false, false, false, false, false, false, false, false, false, false, false, false, false, false, false, false, false, false, false, false, false, false, false, false] rfl rfl (any_of HT_.out (by kernel_rfl)) (fun _ _ _ h => h) (Or.inl ⟨by rfl, ?_⟩) ?_ ?_
                          rotate_left
                          · intro w'
                            go_simp
                            with_reducible rfl
                          rotate_left
                          · simp only [Act.put, List.setIfInBounds_toArray, List.set_cons_zero, List.set_cons_succ, i64_w, i32_w]
                            rfl
                          refine pure_ (i := 1) (N := some 43) (v := ?_) (a' := ?_) #[true, true, false, false, false, false, false, false, false, false, false, false, false, false, false, false, false, false, false, false, false, false, false, false, false, false, false, false, false] rfl rfl (any_of HT_.out (by kernel_rfl)) (fun _ _ _ h => h) (Or.inl ⟨by rfl, ?_⟩) ?_ ?_
                          rotate_left
                          · intro w'
                            go_simp
                            with_reducible rfl
                          rotate_left
                          · simp only [Act.put, List.setIfInBounds_toArray, List.set_cons_zero, List.set_cons_succ, i64_w, i32_w]
                            rfl
                          refine pure_ (i := 2) (N := some 44) (v := ?_) (a' := ?_) #[true, true, true, false, false, false, false, false, false, false, false, false, false, false, false, false, false, false, false, false, false, false, false, false, false, false, false, false, false] rfl rfl (any_of HT_.out (by kernel_rfl)) (fun _ _ _ h => h) (Or.inl ⟨by rfl, ?_⟩) ?_ ?_
                          rotate_left
                          · intro w'
                            go_simp
                            with_reducible rfl
                          rotate_left
                          · simp only [Act.put, List.setIfInBounds_toArray, List.set_cons_zero, List.set_cons_succ, i64_w, i32_w]
                            rfl
                          refine pure_ (i := 6) (N := some 48) (v := ?_) (a' := ?_) #[true, true, true, false, false, false, true, false, false, false, false, false, false, false, false, false, false, false, false, false, false, false, false, false, false, false, false, false, false] rfl rfl (any_of HT_.out (by kernel_rfl)) (fun _ _ _ h => h) (Or.inl ⟨by rfl, ?_⟩) ?_ ?_
                          rotate_left
                          · intro w'
                            go_simp
                            with_reducible rfl
                          rotate_left
                          · simp only [Act.put, List.setIfInBounds_toArray, List.set_cons_zero, List.set_cons_succ, i64_w, i32_w]
                            rfl
                          refine pure_ (i := 7) (N := some 49) (v := ?_) (a' := ?_) #[true, true, true, false, false, false, true, true, false, false, false, false, false, false, false, false, false, false, false, false, false, false, false, false, false, false, false, false, false] rfl rfl (any_of HT_.out (by kernel_rfl)) (fun _ _ _ h => h) (Or.inl ⟨by rfl, ?_⟩) ?_ ?_
                          rotate_left
                          · intro w'
                            go_simp
                            with_reducible rfl
                          rotate_left
                          · simp only [Act.put, List.setIfInBounds_toArray, List.set_cons_zero, List.set_cons_succ, i64_w, i32_w]
                            rfl
                          refine pure_ (i := 8) (N := some 50) (v := ?_) (a' := ?_) #[true, true, true, false, false, false, true, true, true, false, false, false, false, false, false, false, false, false, false, false, false, false, false, false, false, false, false, false, false] rfl rfl (any_of HT_.out (by kernel_rfl)) (fun _ _ _ h => h) (Or.inl ⟨by rfl, ?_⟩) ?_ ?_
                          rotate_left
                          · intro w'
                            go_simp
                            with_reducible rfl
                          rotate_left
                          · simp only [Act.put, List.setIfInBounds_toArray, List.set_cons_zero, List.set_cons_succ, i64_w, i32_w]
                            rfl
                          refine take_ (i := 3) (N := some 45) (v := ?_) (a' := ?_) #[true, true, true, true, false, false, true, true, true, false, false, false, false, false, false, false, false, false, false, false, false, false, false, false, false, false, false, false, false] rfl rfl (take_ofW HT_.out HW_.out (by kernel_rfl)) (fun _ _ _ h => h) (Or.inl ⟨by rfl, ?_⟩) hHeld ?_ ?_
                          rotate_left
                          · rintro w' ⟨s0, s1, s2, s3⟩
                            go_simp
                            with_reducible rfl
                          rotate_left
                          · simp only [Act.put, List.setIfInBounds_toArray, List.set_cons_zero, List.set_cons_succ, i64_w, i32_w]
                            rfl
                          refine pure_ (i := 4) (N := some 46) (v := ?_) (a' := ?_) #[true, true, true, true, true, false, true, true, true, false, false, false, false, false, false, false, false, false, false, false, false, false, false, false, false, false, false, false, false] rfl rfl (any_of HT_.out (by kernel_rfl)) (fun _ _ _ h => h) (Or.inl ⟨by rfl, ?_⟩) ?_ ?_
                          rotate_left
                          · intro w'
                            go_simp
                            with_reducible rfl
                          rotate_left
                          · simp only [Act.put, List.setIfInBounds_toArray, List.set_cons_zero, List.set_cons_succ, i64_w, i32_w]
                            rfl
                          refine take_ (i := 5) (N := some 47) (v := ?_) (a' := ?_) #[true, true, true, true, true, true, true, true, true, false, false, false, false, false, false, false, false, false, false, false, false, false, false, false, false, false, false, false, false] rfl rfl (take_ofW HT_.out HW_.out (by kernel_rfl)) (fun _ _ _ h => h) (Or.inl ⟨by rfl, ?_⟩) hHeld ?_ ?_
                          rotate_left
                          · rintro w' ⟨s0, s1, s2, s3⟩
                            go_simp
                            with_reducible rfl
                          rotate_left
                          · simp only [Act.put, List.setIfInBounds_toArray, List.set_cons_zero, List.set_cons_succ, i64_w, i32_w]
                            rfl
                          refine take_ (i := 9) (N := some 51) (v := ?_) (a' := ?_) #[true, true, true, true, true, true, true, true, true, true, false, false, false, false, false, false, false, false, false, false, false, false, false, false, false, false, false, false, false] rfl rfl (take_ofW HT_.out HW_.out (by kernel_rfl)) (fun _ _ _ h => h) (Or.inl ⟨by rfl, ?_⟩) hHeld ?_ ?_
                          rotate_left
                          · rintro w' ⟨s0, s1, s2, s3⟩
                            go_simp
                            with_reducible rfl
                          rotate_left
                          · simp only [Act.put, List.setIfInBounds_toArray, List.set_cons_zero, List.set_cons_succ, i64_w, i32_w]
                            rfl
                          refine pure_ (i := 10) (N := some 52) (v := ?_) (a' := ?_) #[true, true, true, true, true, true, true, true, true, true, true, false, false, false, false, false, false, false, false, false, false, false, false, false, false, false, false, false, false] rfl rfl (any_of HT_.out (by kernel_rfl)) (fun _ _ _ h => h) (Or.inl ⟨by rfl, ?_⟩) ?_ ?_
                          rotate_left
                          · intro w'
                            go_simp
                            with_reducible rfl
                          rotate_left
                          · simp only [Act.put, List.setIfInBounds_toArray, List.set_cons_zero, List.set_cons_succ, i64_w, i32_w]
                            rfl
                          refine take_ (i := 11) (N := some 53) (v := ?_) (a' := ?_) #[true, true, true, true, true, true, true, true, true, true, true, true, false, false, false, false, false, false, false, false, false, false, false, false, false, false, false, false, false] rfl rfl (take_ofW HT_.out HW_.out (by kernel_rfl)) (fun _ _ _ h => h) (Or.inl ⟨by rfl, ?_⟩) hHeld ?_ ?_
                          rotate_left
                          · rintro w' ⟨s0, s1, s2, s3⟩
                            go_simp
                            with_reducible rfl
                          rotate_left
                          · simp only [Act.put, List.setIfInBounds_toArray, List.set_cons_zero, List.set_cons_succ, i64_w, i32_w]
                            rfl
                          refine pure_ (i := 12) (N := some 54) (v := ?_) (a' := ?_) #[true, true, true, true, true, true, true, true, true, true, true, true, true, false, false, false, false, false, false, false, false, false, false, false, false, false, false, false, false] rfl rfl (any_of HT_.out (by kernel_rfl)) (fun _ _ _ h => h) (Or.inl ⟨by rfl, ?_⟩) ?_ ?_
                          rotate_left
                          · intro w'
                            go_simp
                            with_reducible rfl
                          rotate_left
                          · simp only [Act.put, List.setIfInBounds_toArray, List.set_cons_zero, List.set_cons_succ, i64_w, i32_w]
                            rfl
                          refine pure_ (i := 13) (N := some 55) (v := ?_) (a' := ?_) #[true, true, true, true, true, true, true, true, true, true, true, true, true, true, false, false, false, false, false, false, false, false, false, false, false, false, false, false, false] rfl rfl (any_of HT_.out (by kernel_rfl)) (fun _ _ _ h => h) (Or.inl ⟨by rfl, ?_⟩) ?_ ?_
                          rotate_left
                          · intro w'
                            go_simp
                            with_reducible rfl
                          rotate_left
                          · simp only [Act.put, List.setIfInBounds_toArray, List.set_cons_zero, List.set_cons_succ, i64_w, i32_w]
                            rfl
                          refine pure_ (i := 14) (N := some 56) (v := undef) (a' := ?_) #[true, true, true, true, true, true, true, true, true, true, true, true, true, true, true, false, false, false, false, false, false, false, false, false, false, false, false, false, false] rfl rfl (any_of HT_.out (by kernel_rfl)) (fun _ _ _ h => h) (Or.inr ⟨by rfl, rfl⟩) ?_ ?_
                          rotate_left
                          · simp only [Act.put, List.setIfInBounds_toArray, List.set_cons_zero, List.set_cons_succ, i64_w, i32_w]
                            rfl
                          refine pure_ (i := 15) (N := some 57) (v := undef) (a' := ?_) #[true, true, true, true, true, true, true, true, true, true, true, true, true, true, true, true, false, false, false, false, false, false, false, false, false, false, false, false, false] rfl rfl (any_of HT_.out (by kernel_rfl)) (fun _ _ _ h => h) (Or.inr ⟨by rfl, rfl⟩) ?_ ?_
                          rotate_left
                          · simp only [Act.put, List.setIfInBounds_toArray, List.set_cons_zero, List.set_cons_succ, i64_w, i32_w]
                            rfl
                          refine pure_ (i := 16) (N := some 58) (v := undef) (a' := ?_) #[true, true, true, true, true, true, true, true, true, true, true, true, true, true, true, true, true, false, false, false, false, false, false, false, false, false, false, false, false] rfl rfl (any_of HT_.out (by kernel_rfl)) (fun _ _ _ h => h) (Or.inr ⟨by rfl, rfl⟩) ?_ ?_
                          rotate_left
                          · simp only [Act.put, List.setIfInBounds_toArray, List.set_cons_zero, List.set_cons_succ, i64_w, i32_w]
                            rfl
                          refine pure_ (i := 17) (N := some 59) (v := undef) (a' := ?_) #[true, true, true, true, true, true, true, true, true, true, true, true, true, true, true, true, true, true, false, false, false, false, false, false, false, false, false, false, false] rfl rfl (any_of HT_.out (by kernel_rfl)) (fun _ _ _ h => h) (Or.inr ⟨by rfl, rfl⟩) ?_ ?_
                          rotate_left
                          · simp only [Act.put, List.setIfInBounds_toArray, List.set_cons_zero, List.set_cons_succ, i64_w, i32_w]
                            rfl
                          refine pure_ (i := 18) (N := some 60) (v := undef) (a' := ?_) #[true, true, true, true, true, true, true, true, true, true, true, true, true, true, true, true, true, true, true, false, false, false, false, false, false, false, false, false, false] rfl rfl (any_of HT_.out (by kernel_rfl)) (fun _ _ _ h => h) (Or.inr ⟨by rfl, rfl⟩) ?_ ?_
                          rotate_left
                          · simp only [Act.put, List.setIfInBounds_toArray, List.set_cons_zero, List.set_cons_succ, i64_w, i32_w]
                            rfl
                          refine pure_ (i := 19) (N := some 61) (v := undef) (a' := ?_) #[true, true, true, true, true, true, true, true, true, true, true, true, true, true, true, true, true, true, true, true, false, false, false, false, false, false, false, false, false] rfl rfl (any_of HT_.out (by kernel_rfl)) (fun _ _ _ h => h) (Or.inr ⟨by rfl, rfl⟩) ?_ ?_
                          rotate_left
                          · simp only [Act.put, List.setIfInBounds_toArray, List.set_cons_zero, List.set_cons_succ, i64_w, i32_w]
                            rfl
                          refine pure_ (i := 20) (N := some 62) (v := undef) (a' := ?_) #[true, true, true, true, true, true, true, true, true, true, true, true, true, true, true, true, true, true, true, true, true, false, false, false, false, false, false, false, false] rfl rfl (any_of HT_.out (by kernel_rfl)) (fun _ _ _ h => h) (Or.inr ⟨by rfl, rfl⟩) ?_ ?_
                          rotate_left
                          · simp only [Act.put, List.setIfInBounds_toArray, List.set_cons_zero, List.set_cons_succ, i64_w, i32_w]
                            rfl
                          refine pure_ (i := 21) (N := some 63) (v := undef) (a' := ?_) #[true, true, true, true, true, true, true, true, true, true, true, true, true, true, true, true, true, true, true, true, true, true, false, false, false, false, false, false, false] rfl rfl (any_of HT_.out (by kernel_rfl)) (fun _ _ _ h => h) (Or.inr ⟨by rfl, rfl⟩) ?_ ?_
                          rotate_left
                          · simp only [Act.put, List.setIfInBounds_toArray, List.set_cons_zero, List.set_cons_succ, i64_w, i32_w]
                            rfl
                          refine pure_ (i := 22) (N := some 64) (v := undef) (a' := ?_) #[true, true, true, true, true, true, true, true, true, true, true, true, true, true, true, true, true, true, true, true, true, true, true, false, false, false, false, false, false] rfl rfl (any_of HT_.out (by kernel_rfl)) (fun _ _ _ h => h) (Or.inr ⟨by rfl, rfl⟩) ?_ ?_
                          rotate_left
                          · simp only [Act.put, List.setIfInBounds_toArray, List.set_cons_zero, List.set_cons_succ, i64_w, i32_w]
                            rfl
                          refine pure_ (i := 23) (N := some 65) (v := undef) (a' := ?_) #[true, true, true, true, true, true, true, true, true, true, true, true, true, true, true, true, true, true, true, true, true, true, true, true, false, false, false, false, false] rfl rfl (any_of HT_.out (by kernel_rfl)) (fun _ _ _ h => h) (Or.inr ⟨by rfl, rfl⟩) ?_ ?_
                          rotate_left
                          · simp only [Act.put, List.setIfInBounds_toArray, List.set_cons_zero, List.set_cons_succ, i64_w, i32_w]
                            rfl
                          refine pure_ (i := 24) (N := some 66) (v := undef) (a' := ?_) #[true, true, true, true, true, true, true, true, true, true, true, true, true, true, true, true, true, true, true, true, true, true, true, true, true, false, false, false, false] rfl rfl (any_of HT_.out (by kernel_rfl)) (fun _ _ _ h => h) (Or.inr ⟨by rfl, rfl⟩) ?_ ?_
                          rotate_left
                          · simp only [Act.put, List.setIfInBounds_toArray, List.set_cons_zero, List.set_cons_succ, i64_w, i32_w]
                            rfl
                          refine pure_ (i := 25) (N := some 67) (v := undef) (a' := ?_) #[true, true, true, true, true, true, true, true, true, true, true, true, true, true, true, true, true, true, true, true, true, true, true, true, true, true, false, false, false] rfl rfl (any_of HT_.out (by kernel_rfl)) (fun _ _ _ h => h) (Or.inr ⟨by rfl, rfl⟩) ?_ ?_
                          rotate_left
                          · simp only [Act.put, List.setIfInBounds_toArray, List.set_cons_zero, List.set_cons_succ, i64_w, i32_w]
                            rfl
                          refine pure_ (i := 26) (N := some 68) (v := undef) (a' := ?_) #[true, true, true, true, true, true, true, true, true, true, true, true, true, true, true, true, true, true, true, true, true, true, true, true, true, true, true, false, false] rfl rfl (any_of HT_.out (by kernel_rfl)) (fun _ _ _ h => h) (Or.inr ⟨by rfl, rfl⟩) ?_ ?_
                          rotate_left
                          · simp only [Act.put, List.setIfInBounds_toArray, List.set_cons_zero, List.set_cons_succ, i64_w, i32_w]
                            rfl
                          refine pure_ (i := 27) (N := some 69) (v := undef) (a' := ?_) #[true, true, true, true, true, true, true, true, true, true, true, true, true, true, true, true, true, true, true, true, true, true, true, true, true, true, true, true, false] rfl rfl (any_of HT_.out (by kernel_rfl)) (fun _ _ _ h => h) (Or.inr ⟨by rfl, rfl⟩) ?_ ?_
                          rotate_left
                          · simp only [Act.put, List.setIfInBounds_toArray, List.set_cons_zero, List.set_cons_succ, i64_w, i32_w]
                            rfl
                          refine pure_ (i := 28) (N := some 70) (v := ?_) (a' := ?_) #[true, true, true, true, true, true, true, true, true, true, true, true, true, true, true, true, true, true, true, true, true, true, true, true, true, true, true, true, true] rfl rfl (any_of HT_.out (by kernel_rfl)) (fun _ _ _ h => h) (Or.inl ⟨by rfl, ?_⟩) ?_ ?_
                          rotate_left
                          · intro w'
                            go_simp
                            with_reducible rfl
                          rotate_left
                          · simp only [Act.put, List.setIfInBounds_toArray, List.set_cons_zero, List.set_cons_succ, i64_w, i32_w]
                            rfl
                          refine done_ (done_of HT_.out (by kernel_rfl)) ?_
                          try go_wp2
                          go_meet
                          case rel => exact ⟨_, (false), (by first | rfl | (simp; done) | (simp [*]; done)), H', ⟨by have := HK1.out; first | omega | exact Nat.le_refl _⟩, ⟨by (with_reducible repeat (first | apply Kd.R_alloc | apply Kd.R_drewN | apply Kd.R_drew)); exact HO_5.out⟩, ⟨by repeat (first | (with_reducible first | exact HB.out | apply below_alloc | apply pw_below_drewN | apply below_drew1) | exact HB.out)⟩⟩
                      · rw [if_neg c20] at H
                        exact absurd H (by simp)
                    · rw [if_neg c19] at H
                      exact absurd H (by simp)
                  · rw [if_neg c18] at H
                    exact absurd H (by simp)
                · rw [if_neg c17] at H
                  exact absurd H (by simp)
              · rw [if_neg c16] at H
                exact absurd H (by simp)
            case rest =>
              clear HC15
              try clear c1
              try clear p1
              try clear q1
              try clear hx1
              try clear qi1
              try clear c2
              try clear p2
              try clear p6
              try clear c13
              try clear p13
              try clear q13
              try clear hx13
              try clear c14
              try clear p14
              try clear q14
              try clear hx14
              try clear qi14
              try clear c16
              try clear c17
              try clear c18
              try clear c19
              try clear c20
              try clear c21
              try clear c21b0
              try clear c21b1
              try clear c22
              try clear c23
              try clear hx139_0
              try clear hx140_0
              try clear hx141_0
              try clear hx142_0
              try clear hx143_0
              try clear hx144_0
              try clear hx145_0
              try clear hx146_0
              try clear p139
              try clear p140
              try clear p141
              try clear p142
              try clear p143
              try clear p144
              try clear p145
              try clear p146
              try clear q139
              try clear q140
              try clear q141
              try clear q142
              try clear q143
              try clear q144
              try clear q145
              try clear q146
              obtain ⟨kq, x70_14, rfl, HA, HJ14, HO_5, HB⟩ := hcut
              cases kq with
              | zero => exact absurd HA.out (by simp [excelize_squashSqref.j1])
              | succ kj14 =>
                have H := HA.out
                clear HA
                simp only [excelize_squashSqref.j1] at H
                by_cases c26 : x70_14 = true
                · subst c26
                  have H1 : (if 0 ≤ x6_1 then (if x6_1 < (l0.length : Int) then (if 0 ≤ x7_1 then (if x7_1 < (l0.length : Int) then (if 0 < ((rd_L3 l0 x6_1).length : Int) then (if 0 < ((rd_L3 l0 x7_1).length : Int) then (if (rd_L3 l0 x6_1).length + (rd_L3 l0 x7_1).length < 17592186044416 then ((excelize_coordinatesToRangeRef.f kj14 ((rd_L3 l0 x6_1) ++ (rd_L3 l0 x7_1)) ([] : List Bool)).bind fun bt152 => (if x6_1 = x7_1 then (if 1 < ((rd_L3 l0 x6_1).length : Int) then ((excelize_CoordinatesToCellName.f kj14 (rd (rd_L3 l0 x6_1) 0) (rd (rd_L3 l0 x6_1) 1) ([] : List Bool)).bind fun bt158 => (if x5_1.length < 8796093022208 then (excelize_squashSqref.l0 kj14 l0 (x5_1 ++ [bt158.1]) x8_1 x8_1 (wrap64 (x8_1 + 1))) else (none))) else (none)) else (if x5_1.length < 8796093022208 then (excelize_squashSqref.l0 kj14 l0 (x5_1 ++ [bt152.1]) x8_1 x8_1 (wrap64 (x8_1 + 1))) else (none)))) else (none)) else (none)) else (none)) else (none)) else (none)) else (none)) else (none)) = some r := by rw [if_pos rfl] at H; exact H
                  clear H
                  have H := H1
                  clear H1
                  by_cases c27 : 0 ≤ x6_1
                  · rw [if_pos c27] at H
                    have c27b0 : decide (0 ≤ x6_1) = true := decide_eq_true c27
                    clear c27
                    by_cases c28 : x6_1 < (l0.length : Int)
                    · rw [if_pos c28] at H
                      have c28b0 : decide (x6_1 < (l0.length : Int)) = true := decide_eq_true c28
                      clear c28
                      by_cases c29 : 0 ≤ x7_1
                      · rw [if_pos c29] at H
                        have c29b0 : decide (0 ≤ x7_1) = true := decide_eq_true c29
                        clear c29
                        by_cases c30 : x7_1 < (l0.length : Int)
                        · rw [if_pos c30] at H
                          have c30b0 : decide (x7_1 < (l0.length : Int)) = true := decide_eq_true c30
                          clear c30
                          by_cases c31 : 0 < ((rd_L3 l0 x6_1).length : Int)
                          · rw [if_pos c31] at H
                            have c31b0 : decide (0 < ((rd_L3 l0 x6_1).length : Int)) = true := decide_eq_true c31
                            have c31b1 : decide (0 < (rd_L3 l0 x6_1).length) = true := decide_eq_true (by omega)
                            clear c31
                            by_cases c32 : 0 < ((rd_L3 l0 x7_1).length : Int)
                            · rw [if_pos c32] at H
                              have c32b0 : decide (0 < ((rd_L3 l0 x7_1).length : Int)) = true := decide_eq_true c32
                              have c32b1 : decide (0 < (rd_L3 l0 x7_1).length) = true := decide_eq_true (by omega)
                              clear c32
                              by_cases c33 : (rd_L3 l0 x6_1).length + (rd_L3 l0 x7_1).length < 17592186044416
                              · rw [if_pos c33] at H
                                have LMc33 := Aside0.mk c33
                                clear c33
                                obtain ⟨y149, hy149⟩ : ∃ y_ : List Int, y_ = ((rd_L3 l0 x6_1) ++ (rd_L3 l0 x7_1)) := ⟨_, rfl⟩
                                replace H : ((excelize_coordinatesToRangeRef.f kj14 y149 ([] : List Bool)).bind fun bt152 => (if x6_1 = x7_1 then (if 1 < ((rd_L3 l0 x6_1).length : Int) then ((excelize_CoordinatesToCellName.f kj14 (rd (rd_L3 l0 x6_1) 0) (rd (rd_L3 l0 x6_1) 1) ([] : List Bool)).bind fun bt158 => (if x5_1.length < 8796093022208 then (excelize_squashSqref.l0 kj14 l0 (x5_1 ++ [bt158.1]) x8_1 x8_1 (wrap64 (x8_1 + 1))) else (none))) else (none)) else (if x5_1.length < 8796093022208 then (excelize_squashSqref.l0 kj14 l0 (x5_1 ++ [bt152.1]) x8_1 x8_1 (wrap64 (x8_1 + 1))) else (none)))) = some r := by first | (rw [hy149]; with_reducible exact H) | (have H2_ := (Option.bind_some _ _).symm.trans H; rw [hy149]; with_reducible exact H2_) | (have H2_ := (Option.bind_some _ _).symm.trans H; with_reducible exact H2_) | with_reducible exact H | (rw [hy149]; exact H) | exact H
                                have Ny149 := Aside0.mk hy149
                                clear hy149
                                replace H := Option.bind_eq_some_iff.mp H
                                obtain ⟨⟨t152, t153⟩, A340, H⟩ := H
                                replace H : (if x6_1 = x7_1 then (if 1 < ((rd_L3 l0 x6_1).length : Int) then ((excelize_CoordinatesToCellName.f kj14 (rd (rd_L3 l0 x6_1) 0) (rd (rd_L3 l0 x6_1) 1) ([] : List Bool)).bind fun bt158 => (if x5_1.length < 8796093022208 then (excelize_squashSqref.l0 kj14 l0 (x5_1 ++ [bt158.1]) x8_1 x8_1 (wrap64 (x8_1 + 1))) else (none))) else (none)) else (if x5_1.length < 8796093022208 then (excelize_squashSqref.l0 kj14 l0 (x5_1 ++ [t152]) x8_1 x8_1 (wrap64 (x8_1 + 1))) else (none))) = some r := H
                                have A34 := Aside0.mk A340
                                clear A340
                                by_cases c35 : x6_1 = x7_1
                                · rw [if_pos c35] at H
                                  have c35b0 : (x6_1 == x7_1) = true := beq_iff_eq.mpr c35
                                  have c35b1 : (x6_1 != x7_1) = false := bne_eq_false_iff_eq.mpr c35
                                  clear c35
                                  by_cases c36 : 1 < ((rd_L3 l0 x6_1).length : Int)
                                  · rw [if_pos c36] at H
                                    have c36b0 : decide (1 < ((rd_L3 l0 x6_1).length : Int)) = true := decide_eq_true c36
                                    have c36b1 : decide (1 < (rd_L3 l0 x6_1).length) = true := decide_eq_true (by omega)
                                    clear c36
                                    replace H := Option.bind_eq_some_iff.mp H
                                    obtain ⟨⟨t158, t159⟩, A370, H⟩ := H
                                    replace H : (if x5_1.length < 8796093022208 then (excelize_squashSqref.l0 kj14 l0 (x5_1 ++ [t158]) x8_1 x8_1 (wrap64 (x8_1 + 1))) else (none)) = some r := H
                                    have A37 := Aside0.mk A370
                                    clear A370
                                    by_cases c38 : x5_1.length < 8796093022208
                                    · rw [if_pos c38] at H
                                      have LMc38 := Aside0.mk c38
                                      clear c38
                                      obtain ⟨y160, hy160⟩ : ∃ y_ : List ByteArray, y_ = (x5_1 ++ [t158]) := ⟨_, rfl⟩
                                      replace H : (excelize_squashSqref.l0 kj14 l0 y160 x8_1 x8_1 (wrap64 (x8_1 + 1))) = some r := by first | (rw [hy160]; with_reducible exact H) | (have H2_ := (Option.bind_some _ _).symm.trans H; rw [hy160]; with_reducible exact H2_) | (have H2_ := (Option.bind_some _ _).symm.trans H; with_reducible exact H2_) | with_reducible exact H | (rw [hy160]; exact H) | exact H
                                      have Ny160 := Aside0.mk hy160
                                      clear hy160
                                      have H' := Aside0.mk H
                                      clear H
                                      try go_wp2
                                      have n0_ := Aside0.mk (Kd.R_drew HO_5.out)
                                      have n1_ := Aside0.mk (below_drew1 HB.out)
                                      clear HO_5
                                      clear HB
                                      have HO_5 := n0_
                                      have HB := n1_
                                      clear n0_ n1_
                                      have p147 : 0 ≤ (x6_1 : Int) := of_decide_eq_true (by first | (with_reducible assumption) | assumption)
                                      have q147 : x6_1 < (l0.length : Int) := of_decide_eq_true (by first | (with_reducible assumption) | assumption)
                                      obtain ⟨ad147, A147_0, c147_0, e147, hx147_0, hl147_0, hi147_0⟩ := excelize_squashSqref.at_X HR0.out x6_1 p147 q147
                                      have hw147_0 := hx147_0
                                      cases e147
                                      replace hx147_0 := (HB.out.cell (World.block_lt_of_cell? w _ hx147_0)).trans hx147_0
                                      have HR147_0 := Aside0.mk hi147_0
                                      have HC147_0 := Aside0.mk hl147_0
                                      clear hi147_0 hl147_0
                                      replace p147 := eq_true p147
                                      replace q147 := eq_true q147
                                      have p148 : 0 ≤ (x7_1 : Int) := of_decide_eq_true (by first | (with_reducible assumption) | assumption)
                                      have q148 : x7_1 < (l0.length : Int) := of_decide_eq_true (by first | (with_reducible assumption) | assumption)
                                      obtain ⟨ad148, A148_0, c148_0, e148, hx148_0, hl148_0, hi148_0⟩ := excelize_squashSqref.at_X HR0.out x7_1 p148 q148
                                      have hw148_0 := hx148_0
                                      obtain rfl : ad147 = ad148 := (by injection e148)
                                      replace hx148_0 := (HB.out.cell (World.block_lt_of_cell? w _ hx148_0)).trans hx148_0
                                      have HR148_0 := Aside0.mk hi148_0
                                      have HC148_0 := Aside0.mk hl148_0
                                      clear hi148_0 hl148_0
                                      replace p148 := eq_true p148
                                      replace q148 := eq_true q148
                                      refine start_ (n := 15) (S := fun w' => w'.cell? (ad147.add (x6_1).toNat) = some (.slice A147_0 (rd_L3 l0 x6_1).length c147_0) ∧ w'.cell? (ad147.add (x7_1).toNat) = some (.slice A148_0 (rd_L3 l0 x7_1).length c148_0)) (ds := []) #[false, false, false, false, false, false, false, false, false, false, false, false, false, false, false] (by kernel_rfl) rfl rfl ⟨((HB.out.cell (World.block_lt_of_cell? w _ hw147_0)).trans hw147_0), ((HB.out.cell (World.block_lt_of_cell? w _ hw148_0)).trans hw148_0)⟩ (fun hHeld => ?_); refine with_tabW excelize_squashSqref.tab12 excelize_squashSqref.bits12 (fun HT_ HW_ => ?_)
                                      generalize wc.drew = w39 at HO_5 HB HR147_0 HR148_0 hx147_0 hx148_0 hHeld ⊢
                                      refine pure_ (i := 0) (N := some 72) (v := ?_) (a' := ?_) #[true, false, false, false, false, false, false, false, false, false, false, false, false, false, false] rfl rfl (any_of HT_.out (by kernel_rfl)) (fun _ _ _ h => h) (Or.inl ⟨by rfl, ?_⟩) ?_ ?_
                                      rotate_left
                                      · intro w'
                                        go_simp
                                        with_reducible rfl
                                      rotate_left
                                      · simp only [Act.put, List.setIfInBounds_toArray, List.set_cons_zero, List.set_cons_succ, i64_w, i32_w]
                                        rfl
                                      refine pure_ (i := 1) (N := some 73) (v := ?_) (a' := ?_) #[true, true, false, false, false, false, false, false, false, false, false, false, false, false, false] rfl rfl (any_of HT_.out (by kernel_rfl)) (fun _ _ _ h => h) (Or.inl ⟨by rfl, ?_⟩) ?_ ?_
                                      rotate_left
                                      · intro w'
                                        go_simp
                                        with_reducible rfl
                                      rotate_left
                                      · simp only [Act.put, List.setIfInBounds_toArray, List.set_cons_zero, List.set_cons_succ, i64_w, i32_w]
                                        rfl
                                      refine pure_ (i := 2) (N := some 74) (v := ?_) (a' := ?_) #[true, true, true, false, false, false, false, false, false, false, false, false, false, false, false] rfl rfl (any_of HT_.out (by kernel_rfl)) (fun _ _ _ h => h) (Or.inl ⟨by rfl, ?_⟩) ?_ ?_
                                      rotate_left
                                      · intro w'
                                        go_simp
                                        with_reducible rfl
                                      rotate_left
                                      · simp only [Act.put, List.setIfInBounds_toArray, List.set_cons_zero, List.set_cons_succ, i64_w, i32_w]
                                        rfl
                                      refine pure_ (i := 4) (N := some 76) (v := ?_) (a' := ?_) #[true, true, true, false, true, false, false, false, false, false, false, false, false, false, false] rfl rfl (any_of HT_.out (by kernel_rfl)) (fun _ _ _ h => h) (Or.inl ⟨by rfl, ?_⟩) ?_ ?_
                                      rotate_left
                                      · intro w'
                                        go_simp
                                        with_reducible rfl
                                      rotate_left
                                      · simp only [Act.put, List.setIfInBounds_toArray, List.set_cons_zero, List.set_cons_succ, i64_w, i32_w]
                                        rfl
                                      refine pure_ (i := 5) (N := some 77) (v := ?_) (a' := ?_) #[true, true, true, false, true, true, false, false, false, false, false, false, false, false, false] rfl rfl (any_of HT_.out (by kernel_rfl)) (fun _ _ _ h => h) (Or.inl ⟨by rfl, ?_⟩) ?_ ?_
                                      rotate_left
                                      · intro w'
                                        go_simp
                                        with_reducible rfl
                                      rotate_left
                                      · simp only [Act.put, List.setIfInBounds_toArray, List.set_cons_zero, List.set_cons_succ, i64_w, i32_w]
                                        rfl
                                      refine pure_ (i := 6) (N := some 78) (v := ?_) (a' := ?_) #[true, true, true, false, true, true, true, false, false, false, false, false, false, false, false] rfl rfl (any_of HT_.out (by kernel_rfl)) (fun _ _ _ h => h) (Or.inl ⟨by rfl, ?_⟩) ?_ ?_
                                      rotate_left
                                      · intro w'
                                        go_simp
                                        with_reducible rfl
                                      rotate_left
                                      · simp only [Act.put, List.setIfInBounds_toArray, List.set_cons_zero, List.set_cons_succ, i64_w, i32_w]
                                        rfl
                                      refine take_ (i := 3) (N := some 75) (v := ?_) (a' := ?_) #[true, true, true, true, true, true, true, false, false, false, false, false, false, false, false] rfl rfl (take_ofW HT_.out HW_.out (by kernel_rfl)) (fun _ _ _ h => h) (Or.inl ⟨by rfl, ?_⟩) hHeld ?_ ?_
                                      rotate_left
                                      · rintro w' ⟨s0, s1⟩
                                        go_simp
                                        with_reducible rfl
                                      rotate_left
                                      · simp only [Act.put, List.setIfInBounds_toArray, List.set_cons_zero, List.set_cons_succ, i64_w, i32_w]
                                        rfl
                                      refine take_ (i := 7) (N := some 79) (v := ?_) (a' := ?_) #[true, true, true, true, true, true, true, true, false, false, false, false, false, false, false] rfl rfl (take_ofW HT_.out HW_.out (by kernel_rfl)) (fun _ _ _ h => h) (Or.inl ⟨by rfl, ?_⟩) hHeld ?_ ?_
                                      rotate_left
                                      · rintro w' ⟨s0, s1⟩
                                        go_simp
                                        with_reducible rfl
                                      rotate_left
                                      · simp only [Act.put, List.setIfInBounds_toArray, List.set_cons_zero, List.set_cons_succ, i64_w, i32_w]
                                        rfl
                                      refine one_ (i := 8) (N := some 80) #[true, true, true, true, true, true, true, true, true, false, false, false, false, false, false] rfl rfl (one_of HT_.out (by kernel_rfl)) (by decide) (fun K hK => ?_)
                                      refine Full.append_full_step (w0 := w) w.heap.size (by rfl) (.tmp 75) (.tmp 79) 26 3 (.int .i64 0) 8 rfl Tryd.underlying26 info3 rfl (by decide) (by omega) (.slice A147_0 (rd_L3 l0 x6_1).length c147_0) (rd_L3 l0 x6_1) (rd_L3 l0 x7_1) _ _ _ (fun _ => True) (fun _ => False) rfl rfl ?aO ?aR (fun _ _ h => h) (fun _ h => h.elim) ?aF ?aB ?aS ?aL ?_
                                      (case aR => repeat (first | exact (Kd.C_below HR148_0.out HB.out) | (with_reducible refine Kd.C_alloc ?_ _) | (with_reducible refine Kd.C_drewN ?_ _) | (with_reducible refine Kd.C_drew ?_)))
                                      (case aB => exact (by repeat (first | (with_reducible first | exact HB.out | apply below_alloc | apply pw_below_drewN | apply below_drew1) | exact HB.out)))
                                      (case aF => exact (fun _ _ => trivial))
                                      (case aO => exact ⟨A147_0, by rw [HC147_0.out], by repeat (first | exact (Kd.C_below HR147_0.out HB.out) | (with_reducible refine Kd.C_alloc ?_ _) | (with_reducible refine Kd.C_drewN ?_ _) | (with_reducible refine Kd.C_drew ?_)), (by have hz_ := of_decide_eq_true (show decide (0 < ((rd_L3 l0 x6_1).length : Int)) = true by first | (with_reducible assumption) | assumption); omega), (by have hz_ := of_decide_eq_true (show decide (0 < ((rd_L3 l0 x7_1).length : Int)) = true by first | (with_reducible assumption) | assumption); omega)⟩)
                                      (case aS => exact (below_size (by repeat (first | (with_reducible first | exact HB.out | apply below_alloc | apply pw_below_drewN | apply below_drew1) | exact HB.out))))
                                      (case aL => have := LMc33.out; omega)
                                      intro v150 w40 ho hb hg hat
                                      rw [← Ny149.out] at ho
                                      have n0_ := Aside0.mk (Kd.R_grown (by (with_reducible repeat (first | apply Kd.R_alloc | apply Kd.R_drewN | apply Kd.R_drew)); exact HO_5.out) hg (fun _ _ => by simp [Value.ownBlock]))
                                      have n1_ := Aside0.mk (hb)
                                      have n2_ := Aside0.mk (ho)
                                      clear HO_5
                                      clear HB
                                      have HO_5 := n0_
                                      have HB := n1_
                                      have HO151 := n2_
                                      clear n0_ n1_ n2_
                                      clear ho hb hg hat
                                      obtain ⟨Ao41, co41, eo41⟩ := Kd.R_slice HO151.out
                                      (first | subst eo41 | (injection eo41 with f1_ f2_ f3_; have f4_ := f1_.symm; have f5_ := f3_.symm; clear f1_ f2_ f3_; subst f4_; subst f5_))
                                      refine hK.out _ _ ⟨((HB.out.cell (World.block_lt_of_cell? w _ hw147_0)).trans hw147_0), ((HB.out.cell (World.block_lt_of_cell? w _ hw148_0)).trans hw148_0)⟩ (fun hHeld => ?_)
                                      clear hK K
                                      refine norm_ (a' := ?_) ?_ ?_
                                      rotate_left
                                      · show Act.put _ (some 80) _ = _
                                        simp only [Act.put, List.setIfInBounds_toArray, List.set_cons_zero, List.set_cons_succ, i64_w, i32_w]
                                        rfl
                                      refine one_ (i := 9) (N := some 81) #[true, true, true, true, true, true, true, true, true, true, false, false, false, false, false] rfl rfl (one_of HT_.out (by kernel_rfl)) (by decide) (fun K hK => ?_)
                                      refine goes_ Tryd.func72 (by kernel_rfl) rfl #[.slice Ao41 y149.length co41, .slice none 0 0] (by rfl) rfl rfl (by (try simp only [List.map_toArray, List.map_cons, List.map_nil]); first | done | rfl | (simp only [List.length_drop, List.length_take]; rfl)) ?_
                                      refine (excelize_coordinatesToRangeRef.calls kj14 _ _ y149 _ _ ([] : List Bool) t152 t153 _ ?side1 ?side2 ?side3 ?side4 A34.out).mono ?_
                                      (case side1 => repeat (first | exact (Kd.R_reads' HO151.out).2.2 | (with_reducible refine Kd.C_alloc ?_ _) | (with_reducible refine Kd.C_drewN ?_ _) | (with_reducible refine Kd.C_drew ?_)))
                                      (case side2 => exact (Kd.R_reads' HO151.out).2.1)
                                      (case side3 => exact Kd.C_nil _ _)
                                      (case side4 => exact Nat.le_refl _)
                                      rintro e w42 ⟨rfl, hb⟩
                                      refine ⟨_, rfl, ?_⟩
                                      have n0_ := Aside0.mk (Kd.R_below (by (with_reducible repeat (first | apply Kd.R_alloc | apply Kd.R_drewN | apply Kd.R_drew)); exact HO_5.out) hb)
                                      have n1_ := Aside0.mk (Kd.R_below (by (with_reducible repeat (first | apply Kd.R_alloc | apply Kd.R_drewN | apply Kd.R_drew)); exact HO151.out) hb)
                                      have n2_ := Aside0.mk (below_step (by repeat (first | (with_reducible first | exact HB.out | apply below_alloc | apply pw_below_drewN | apply below_drew1) | exact HB.out)) hb)
                                      clear HO_5
                                      clear HO151
                                      clear HB
                                      have HO_5 := n0_
                                      have HO151 := n1_
                                      have HB := n2_
                                      clear n0_ n1_ n2_
                                      (try clear hb)
                                      (try clear hb2)
                                      (try clear hk)
                                      (try clear hi)
                                      (try simp only [errW_none, errW_some])
                                      refine hK.out _ _ ⟨((HB.out.cell (World.block_lt_of_cell? w _ hw147_0)).trans hw147_0), ((HB.out.cell (World.block_lt_of_cell? w _ hw148_0)).trans hw148_0)⟩ (fun hHeld => ?_)
                                      clear hK K
                                      refine norm_ (a' := ?_) ?_ ?_
                                      rotate_left
                                      · show Act.put _ (some 81) _ = _
                                        simp only [Act.put, List.setIfInBounds_toArray, List.set_cons_zero, List.set_cons_succ, i64_w, i32_w]
                                        rfl
                                      refine pure_ (i := 10) (N := some 71) (v := ?_) (a' := ?_) #[true, true, true, true, true, true, true, true, true, true, true, false, false, false, false] rfl rfl (any_of HT_.out (by kernel_rfl)) (fun _ _ _ h => h) (Or.inl ⟨by rfl, ?_⟩) ?_ ?_
                                      rotate_left
                                      · intro w'
                                        go_simp
                                        with_reducible rfl
                                      rotate_left
                                      · simp only [Act.put, List.setIfInBounds_toArray, List.set_cons_zero, List.set_cons_succ, i64_w, i32_w]
                                        rfl
                                      refine pure_ (i := 11) (N := some 82) (v := ?_) (a' := ?_) #[true, true, true, true, true, true, true, true, true, true, true, true, false, false, false] rfl rfl (any_of HT_.out (by kernel_rfl)) (fun _ _ _ h => h) (Or.inl ⟨by rfl, ?_⟩) ?_ ?_
                                      rotate_left
                                      · intro w'
                                        go_simp
                                        with_reducible rfl
                                      rotate_left
                                      · simp only [Act.put, List.setIfInBounds_toArray, List.set_cons_zero, List.set_cons_succ, i64_w, i32_w]
                                        rfl
                                      refine pure_ (i := 12) (N := some 83) (v := ?_) (a' := ?_) #[true, true, true, true, true, true, true, true, true, true, true, true, true, false, false] rfl rfl (any_of HT_.out (by kernel_rfl)) (fun _ _ _ h => h) (Or.inl ⟨by rfl, ?_⟩) ?_ ?_
                                      rotate_left
                                      · intro w'
                                        go_simp
                                        with_reducible rfl
                                      rotate_left
                                      · simp only [Act.put, List.setIfInBounds_toArray, List.set_cons_zero, List.set_cons_succ, i64_w, i32_w]
                                        rfl
                                      refine pure_ (i := 13) (N := some 9) (v := ?_) (a' := ?_) #[true, true, true, true, true, true, true, true, true, true, true, true, true, true, false] rfl rfl (any_of HT_.out (by kernel_rfl)) (fun _ _ _ h => h) (Or.inl ⟨by rfl, ?_⟩) ?_ ?_
                                      rotate_left
                                      · intro w'
                                        go_simp
                                        with_reducible rfl
                                      rotate_left
                                      · simp only [Act.put, List.setIfInBounds_toArray, List.set_cons_zero, List.set_cons_succ, i64_w, i32_w]
                                        rfl
                                      refine pure_ (i := 14) (N := some 10) (v := ?_) (a' := ?_) #[true, true, true, true, true, true, true, true, true, true, true, true, true, true, true] rfl rfl (any_of HT_.out (by kernel_rfl)) (fun _ _ _ h => h) (Or.inl ⟨by rfl, ?_⟩) ?_ ?_
                                      rotate_left
                                      · intro w'
                                        go_simp
                                        with_reducible rfl
                                      rotate_left
                                      · simp only [Act.put, List.setIfInBounds_toArray, List.set_cons_zero, List.set_cons_succ, i64_w, i32_w]
                                        rfl
                                      refine done_ (done_of HT_.out (by kernel_rfl)) ?_
                                      try go_wp2
                                      have n0_ := Aside0.mk (Kd.R_drew HO_5.out)
                                      have n1_ := Aside0.mk (Kd.R_drew HO151.out)
                                      have n2_ := Aside0.mk (below_drew1 HB.out)
                                      clear HO_5
                                      clear HO151
                                      clear HB
                                      have HO_5 := n0_
                                      have HO151 := n1_
                                      have HB := n2_
                                      clear n0_ n1_ n2_
                                      have p154 : 0 ≤ (x6_1 : Int) := of_decide_eq_true (by first | (with_reducible assumption) | assumption)
                                      have q154 : x6_1 < (l0.length : Int) := of_decide_eq_true (by first | (with_reducible assumption) | assumption)
                                      obtain ⟨ad154, A154_0, c154_0, e154, hx154_0, hl154_0, hi154_0⟩ := excelize_squashSqref.at_X HR0.out x6_1 p154 q154
                                      have hw154_0 := hx154_0
                                      obtain rfl : ad147 = ad154 := (by injection e154)
                                      replace hx154_0 := (HB.out.cell (World.block_lt_of_cell? w _ hx154_0)).trans hx154_0
                                      have HR154_0 := Aside0.mk hi154_0
                                      have HC154_0 := Aside0.mk hl154_0
                                      clear hi154_0 hl154_0
                                      replace p154 := eq_true p154
                                      replace q154 := eq_true q154
                                      have p155 : 0 ≤ (0 : Int) := (by omega)
                                      have q155 : 0 < ((rd_L3 l0 x6_1).length : Int) := of_decide_eq_true (by first | (with_reducible assumption) | assumption)
                                      obtain ⟨ad155, e155, hx155_0⟩ := Kd.at_int HR154_0.out 0 p155 q155
                                      have hw155_0 := hx155_0
                                      (try rw [show ((0 : Int)).toNat = 0 from rfl] at hw155_0)
                                      (try rw [show 0 * 1 = 0 from rfl] at hw155_0)
                                      (try rw [Addr.add_zero'] at hw155_0)
                                      cases e155
                                      have qi155 : (0 < (rd_L3 l0 x6_1).length) = True := eq_true (by omega)
                                      (try rw [show ((0 : Int)).toNat = 0 from rfl] at hx155_0)
                                      (try rw [Addr.add_zero'] at hx155_0)
                                      replace hx155_0 := (HB.out.cell (World.block_lt_of_cell? w _ hx155_0)).trans hx155_0
                                      replace p155 := eq_true p155
                                      replace q155 := eq_true q155
                                      have p156 : 0 ≤ (x6_1 : Int) := of_decide_eq_true (by first | (with_reducible assumption) | assumption)
                                      have q156 : x6_1 < (l0.length : Int) := of_decide_eq_true (by first | (with_reducible assumption) | assumption)
                                      obtain ⟨ad156, A156_0, c156_0, e156, hx156_0, hl156_0, hi156_0⟩ := excelize_squashSqref.at_X HR0.out x6_1 p156 q156
                                      have hw156_0 := hx156_0
                                      obtain rfl : ad147 = ad156 := (by injection e156)
                                      replace hx156_0 := (HB.out.cell (World.block_lt_of_cell? w _ hx156_0)).trans hx156_0
                                      have HR156_0 := Aside0.mk hi156_0
                                      have HC156_0 := Aside0.mk hl156_0
                                      clear hi156_0 hl156_0
                                      replace p156 := eq_true p156
                                      replace q156 := eq_true q156
                                      have ea_ := Option.some.inj (hx154_0.symm.trans hx156_0)
                                      injection ea_ with ea_ en_ ec_
                                      subst ea_
                                      subst ec_
                                      clear en_
                                      have p157 : 0 ≤ (1 : Int) := (by omega)
                                      have q157 : 1 < ((rd_L3 l0 x6_1).length : Int) := of_decide_eq_true (by first | (with_reducible assumption) | assumption)
                                      obtain ⟨ad157, e157, hx157_0⟩ := Kd.at_int HR156_0.out 1 p157 q157
                                      have hw157_0 := hx157_0
                                      (try rw [show ((1 : Int)).toNat = 1 from rfl] at hw157_0)
                                      (try rw [show 1 * 1 = 1 from rfl] at hw157_0)
                                      (try simp only [Nat.reduceMul, Nat.reduceEqDiff, Go.Addr.add, ↓reduceIte] at hw157_0)
                                      cases e157
                                      (try simp only [show (1 : Int).toNat = 1 from rfl, Nat.reduceMul, Nat.reduceEqDiff, Go.Addr.add, ↓reduceIte] at hx157_0)
                                      have qi157 : (1 < (rd_L3 l0 x6_1).length) = True := eq_true (by omega)
                                      (try rw [show ((1 : Int)).toNat = 1 from rfl] at hx157_0)
                                      replace hx157_0 := (HB.out.cell (World.block_lt_of_cell? w _ hx157_0)).trans hx157_0
                                      replace p157 := eq_true p157
                                      replace q157 := eq_true q157
                                      refine start_ (n := 17) (S := fun w' => w'.cell? (ad147.add (x6_1).toNat) = some (.slice (some ad155) (rd_L3 l0 x6_1).length c154_0) ∧ w'.cell? ad155 = some (.int .i64 (rd (rd_L3 l0 x6_1) 0)) ∧ w'.cell? (ad147.add (x6_1).toNat) = some (.slice (some ad155) (rd_L3 l0 x6_1).length c154_0) ∧ w'.cell? ⟨ad155.block, ad155.off + 1, none⟩ = some (.int .i64 (rd (rd_L3 l0 x6_1) 1))) (ds := []) #[false, false, false, false, false, false, false, false, false, false, false, false, false, false, false, false, false] (by kernel_rfl) rfl rfl ⟨((HB.out.cell (World.block_lt_of_cell? w _ hw154_0)).trans hw154_0), ((HB.out.cell (World.block_lt_of_cell? w _ hw155_0)).trans hw155_0), ((HB.out.cell (World.block_lt_of_cell? w _ hw156_0)).trans hw156_0), ((HB.out.cell (World.block_lt_of_cell? w _ hw157_0)).trans hw157_0)⟩ (fun hHeld => ?_); refine with_tabW excelize_squashSqref.tab14 excelize_squashSqref.bits14 (fun HT_ HW_ => ?_)
                                      generalize w42.drew = w43 at HO_5 HO151 HB HR154_0 HR156_0 hx154_0 hx155_0 hx156_0 hx157_0 hHeld ⊢
                                      refine pure_ (i := 0) (N := some 88) (v := ?_) (a' := ?_) #[true, false, false, false, false, false, false, false, false, false, false, false, false, false, false, false, false] rfl rfl (any_of HT_.out (by kernel_rfl)) (fun _ _ _ h => h) (Or.inl ⟨by rfl, ?_⟩) ?_ ?_
                                      rotate_left
                                      · intro w'
                                        go_simp
                                        with_reducible rfl
                                      rotate_left
                                      · simp only [Act.put, List.setIfInBounds_toArray, List.set_cons_zero, List.set_cons_succ, i64_w, i32_w]
                                        rfl
                                      refine pure_ (i := 1) (N := some 89) (v := ?_) (a' := ?_) #[true, true, false, false, false, false, false, false, false, false, false, false, false, false, false, false, false] rfl rfl (any_of HT_.out (by kernel_rfl)) (fun _ _ _ h => h) (Or.inl ⟨by rfl, ?_⟩) ?_ ?_
                                      rotate_left
                                      · intro w'
                                        go_simp
                                        with_reducible rfl
                                      rotate_left
                                      · simp only [Act.put, List.setIfInBounds_toArray, List.set_cons_zero, List.set_cons_succ, i64_w, i32_w]
                                        rfl
                                      refine pure_ (i := 2) (N := some 90) (v := ?_) (a' := ?_) #[true, true, true, false, false, false, false, false, false, false, false, false, false, false, false, false, false] rfl rfl (any_of HT_.out (by kernel_rfl)) (fun _ _ _ h => h) (Or.inl ⟨by rfl, ?_⟩) ?_ ?_
                                      rotate_left
                                      · intro w'
                                        go_simp
                                        with_reducible rfl
                                      rotate_left
                                      · simp only [Act.put, List.setIfInBounds_toArray, List.set_cons_zero, List.set_cons_succ, i64_w, i32_w]
                                        rfl
                                      refine pure_ (i := 6) (N := some 94) (v := ?_) (a' := ?_) #[true, true, true, false, false, false, true, false, false, false, false, false, false, false, false, false, false] rfl rfl (any_of HT_.out (by kernel_rfl)) (fun _ _ _ h => h) (Or.inl ⟨by rfl, ?_⟩) ?_ ?_
                                      rotate_left
                                      · intro w'
                                        go_simp
                                        with_reducible rfl
                                      rotate_left
                                      · simp only [Act.put, List.setIfInBounds_toArray, List.set_cons_zero, List.set_cons_succ, i64_w, i32_w]
                                        rfl
                                      refine pure_ (i := 7) (N := some 95) (v := ?_) (a' := ?_) #[true, true, true, false, false, false, true, true, false, false, false, false, false, false, false, false, false] rfl rfl (any_of HT_.out (by kernel_rfl)) (fun _ _ _ h => h) (Or.inl ⟨by rfl, ?_⟩) ?_ ?_
                                      rotate_left
                                      · intro w'
                                        go_simp
                                        with_reducible rfl
                                      rotate_left
                                      · simp only [Act.put, List.setIfInBounds_toArray, List.set_cons_zero, List.set_cons_succ, i64_w, i32_w]
                                        rfl
                                      refine pure_ (i := 8) (N := some 96) (v := ?_) (a' := ?_) #[true, true, true, false, false, false, true, true, true, false, false, false, false, false, false, false, false] rfl rfl (any_of HT_.out (by kernel_rfl)) (fun _ _ _ h => h) (Or.inl ⟨by rfl, ?_⟩) ?_ ?_
                                      rotate_left
                                      · intro w'
                                        go_simp
                                        with_reducible rfl
                                      rotate_left
                                      · simp only [Act.put, List.setIfInBounds_toArray, List.set_cons_zero, List.set_cons_succ, i64_w, i32_w]
                                        rfl
                                      refine take_ (i := 3) (N := some 91) (v := ?_) (a' := ?_) #[true, true, true, true, false, false, true, true, true, false, false, false, false, false, false, false, false] rfl rfl (take_ofW HT_.out HW_.out (by kernel_rfl)) (fun _ _ _ h => h) (Or.inl ⟨by rfl, ?_⟩) hHeld ?_ ?_
                                      rotate_left
                                      · rintro w' ⟨s0, s1, s2, s3⟩
                                        go_simp
                                        with_reducible rfl
                                      rotate_left
                                      · simp only [Act.put, List.setIfInBounds_toArray, List.set_cons_zero, List.set_cons_succ, i64_w, i32_w]
                                        rfl
                                      refine pure_ (i := 4) (N := some 92) (v := ?_) (a' := ?_) #[true, true, true, true, true, false, true, true, true, false, false, false, false, false, false, false, false] rfl rfl (any_of HT_.out (by kernel_rfl)) (fun _ _ _ h => h) (Or.inl ⟨by rfl, ?_⟩) ?_ ?_
                                      rotate_left
                                      · intro w'
                                        go_simp
                                        with_reducible rfl
                                      rotate_left
                                      · simp only [Act.put, List.setIfInBounds_toArray, List.set_cons_zero, List.set_cons_succ, i64_w, i32_w]
                                        rfl
                                      refine take_ (i := 5) (N := some 93) (v := ?_) (a' := ?_) #[true, true, true, true, true, true, true, true, true, false, false, false, false, false, false, false, false] rfl rfl (take_ofW HT_.out HW_.out (by kernel_rfl)) (fun _ _ _ h => h) (Or.inl ⟨by rfl, ?_⟩) hHeld ?_ ?_
                                      rotate_left
                                      · rintro w' ⟨s0, s1, s2, s3⟩
                                        go_simp
                                        with_reducible rfl
                                      rotate_left
                                      · simp only [Act.put, List.setIfInBounds_toArray, List.set_cons_zero, List.set_cons_succ, i64_w, i32_w]
                                        rfl
                                      refine take_ (i := 9) (N := some 97) (v := ?_) (a' := ?_) #[true, true, true, true, true, true, true, true, true, true, false, false, false, false, false, false, false] rfl rfl (take_ofW HT_.out HW_.out (by kernel_rfl)) (fun _ _ _ h => h) (Or.inl ⟨by rfl, ?_⟩) hHeld ?_ ?_
                                      rotate_left
                                      · rintro w' ⟨s0, s1, s2, s3⟩
                                        go_simp
                                        with_reducible rfl
                                      rotate_left
                                      · simp only [Act.put, List.setIfInBounds_toArray, List.set_cons_zero, List.set_cons_succ, i64_w, i32_w]
                                        rfl
                                      refine pure_ (i := 10) (N := some 98) (v := ?_) (a' := ?_) #[true, true, true, true, true, true, true, true, true, true, true, false, false, false, false, false, false] rfl rfl (any_of HT_.out (by kernel_rfl)) (fun _ _ _ h => h) (Or.inl ⟨by rfl, ?_⟩) ?_ ?_
                                      rotate_left
                                      · intro w'
                                        go_simp
                                        with_reducible rfl
                                      rotate_left
                                      · simp only [Act.put, List.setIfInBounds_toArray, List.set_cons_zero, List.set_cons_succ, i64_w, i32_w]
                                        rfl
                                      refine take_ (i := 11) (N := some 99) (v := ?_) (a' := ?_) #[true, true, true, true, true, true, true, true, true, true, true, true, false, false, false, false, false] rfl rfl (take_ofW HT_.out HW_.out (by kernel_rfl)) (fun _ _ _ h => h) (Or.inl ⟨by rfl, ?_⟩) hHeld ?_ ?_
                                      rotate_left
                                      · rintro w' ⟨s0, s1, s2, s3⟩
                                        go_simp
                                        with_reducible rfl
                                      rotate_left
                                      · simp only [Act.put, List.setIfInBounds_toArray, List.set_cons_zero, List.set_cons_succ, i64_w, i32_w]
                                        rfl
                                      refine one_ (i := 12) (N := some 100) #[true, true, true, true, true, true, true, true, true, true, true, true, true, false, false, false, false] rfl rfl (one_of HT_.out (by kernel_rfl)) (by decide) (fun K hK => ?_)
                                      refine goes_ Tryd.func71 (by kernel_rfl) rfl #[.int .i64 (rd (rd_L3 l0 x6_1) 0), .int .i64 (rd (rd_L3 l0 x6_1) 1), .slice none 0 0] (by rfl) rfl rfl (by (try simp only [List.map_toArray, List.map_cons, List.map_nil]); first | done | rfl | (simp only [List.length_drop, List.length_take]; rfl)) ?_
                                      refine (excelize_CoordinatesToCellName.calls kj14 (rd (rd_L3 l0 x6_1) 0) (rd (rd_L3 l0 x6_1) 1) _ _ ([] : List Bool) t158 t159 _ ?side1 ?side2 A37.out).mono ?_
                                      (case side1 => exact Kd.C_nil _ _)
                                      (case side2 => exact Nat.le_refl _)
                                      rintro e w44 ⟨rfl, hb⟩
                                      refine ⟨_, rfl, ?_⟩
                                      have n0_ := Aside0.mk (Kd.R_below (by (with_reducible repeat (first | apply Kd.R_alloc | apply Kd.R_drewN | apply Kd.R_drew)); exact HO_5.out) hb)
                                      have n1_ := Aside0.mk (Kd.R_below (by (with_reducible repeat (first | apply Kd.R_alloc | apply Kd.R_drewN | apply Kd.R_drew)); exact HO151.out) hb)
                                      have n2_ := Aside0.mk (below_step (by repeat (first | (with_reducible first | exact HB.out | apply below_alloc | apply pw_below_drewN | apply below_drew1) | exact HB.out)) hb)
                                      clear HO_5
                                      clear HO151
                                      clear HB
                                      have HO_5 := n0_
                                      have HO151 := n1_
                                      have HB := n2_
                                      clear n0_ n1_ n2_
                                      (try clear hb)
                                      (try clear hb2)
                                      (try clear hk)
                                      (try clear hi)
                                      (try simp only [errW_none, errW_some])
                                      refine hK.out _ _ ⟨((HB.out.cell (World.block_lt_of_cell? w _ hw154_0)).trans hw154_0), ((HB.out.cell (World.block_lt_of_cell? w _ hw155_0)).trans hw155_0), ((HB.out.cell (World.block_lt_of_cell? w _ hw156_0)).trans hw156_0), ((HB.out.cell (World.block_lt_of_cell? w _ hw157_0)).trans hw157_0)⟩ (fun hHeld => ?_)
                                      clear hK K
                                      refine norm_ (a' := ?_) ?_ ?_
                                      rotate_left
                                      · show Act.put _ (some 100) _ = _
                                        simp only [Act.put, List.setIfInBounds_toArray, List.set_cons_zero, List.set_cons_succ, i64_w, i32_w]
                                        rfl
                                      refine pure_ (i := 13) (N := some 87) (v := ?_) (a' := ?_) #[true, true, true, true, true, true, true, true, true, true, true, true, true, true, false, false, false] rfl rfl (any_of HT_.out (by kernel_rfl)) (fun _ _ _ h => h) (Or.inl ⟨by rfl, ?_⟩) ?_ ?_
                                      rotate_left
                                      · intro w'
                                        go_simp
                                        with_reducible rfl
                                      rotate_left
                                      · simp only [Act.put, List.setIfInBounds_toArray, List.set_cons_zero, List.set_cons_succ, i64_w, i32_w]
                                        rfl
                                      refine pure_ (i := 14) (N := some 101) (v := ?_) (a' := ?_) #[true, true, true, true, true, true, true, true, true, true, true, true, true, true, true, false, false] rfl rfl (any_of HT_.out (by kernel_rfl)) (fun _ _ _ h => h) (Or.inl ⟨by rfl, ?_⟩) ?_ ?_
                                      rotate_left
                                      · intro w'
                                        go_simp
                                        with_reducible rfl
                                      rotate_left
                                      · simp only [Act.put, List.setIfInBounds_toArray, List.set_cons_zero, List.set_cons_succ, i64_w, i32_w]
                                        rfl
                                      refine pure_ (i := 15) (N := some 102) (v := ?_) (a' := ?_) #[true, true, true, true, true, true, true, true, true, true, true, true, true, true, true, true, false] rfl rfl (any_of HT_.out (by kernel_rfl)) (fun _ _ _ h => h) (Or.inl ⟨by rfl, ?_⟩) ?_ ?_
                                      rotate_left
                                      · intro w'
                                        go_simp
                                        with_reducible rfl
                                      rotate_left
                                      · simp only [Act.put, List.setIfInBounds_toArray, List.set_cons_zero, List.set_cons_succ, i64_w, i32_w]
                                        rfl
                                      refine pure_ (i := 16) (N := some 9) (v := ?_) (a' := ?_) #[true, true, true, true, true, true, true, true, true, true, true, true, true, true, true, true, true] rfl rfl (any_of HT_.out (by kernel_rfl)) (fun _ _ _ h => h) (Or.inl ⟨by rfl, ?_⟩) ?_ ?_
                                      rotate_left
                                      · intro w'
                                        go_simp
                                        with_reducible rfl
                                      rotate_left
                                      · simp only [Act.put, List.setIfInBounds_toArray, List.set_cons_zero, List.set_cons_succ, i64_w, i32_w]
                                        rfl
                                      refine done_ (done_of HT_.out (by kernel_rfl)) ?_
                                      try go_wp2_with (first | ((with_reducible refine gate_builtin (b := .append) (xs := #[.tmp 103, .tmp 105]) rfl ?_); at_builtin; refine Kd.R_append Kd.string (w0 := w) w.heap.size rfl (.tmp 103) (.tmp 105) 39 9 (.string ⟨#[]⟩) 16 rfl Tryd.underlying39 info9 rfl (by decide) (by omega) u5 x5_1 t158 [.string t158] (fun _ => True) (fun _ => False) rfl rfl ?aP (fun _ hk => hk.elim) ?aF ?aO ?aB ?aS ?aL ?_; (case aP => exact rfl); (case aB => exact (by repeat (first | (with_reducible first | exact HB.out | apply below_alloc | apply pw_below_drewN | apply below_drew1) | exact HB.out))); (case aF => exact (fun _ _ => trivial)); (case aO => exact (by (with_reducible repeat (first | apply Kd.R_alloc | apply Kd.R_drewN | apply Kd.R_drew)); exact HO_5.out)); (case aS => exact (below_size (by repeat (first | (with_reducible first | exact HB.out | apply below_alloc | apply pw_below_drewN | apply below_drew1) | exact HB.out)))); (case aL => have := LMc38.out; omega); intro v161 w45 ho hb hg hat; rw [← Ny160.out] at ho; have n0_ := Aside0.mk (Kd.R_over' (by (with_reducible repeat (first | apply Kd.R_alloc | apply Kd.R_drewN | apply Kd.R_drew)); exact HO151.out) (Kd.R_typed (by (with_reducible repeat (first | apply Kd.R_alloc | apply Kd.R_drewN | apply Kd.R_drew)); exact HO_5.out)) (by decide) hg); have n1_ := Aside0.mk (hb); have n2_ := Aside0.mk (ho); clear HO151; clear HB; clear HO_5; have HO151 := n0_; have HB := n1_; have HO162 := n2_; clear n0_ n1_ n2_; clear ho hb hg hat))
                                      go_roundg kj14
                                      case measure => have := HK1.out; have := HJ14.out; omega
                                      case rel => exact ⟨(y160), (x8_1), (x8_1), (wrap64 (x8_1 + 1)), (by first | rfl | (simp; done) | (simp [*]; done)), (by first | rfl | (simp; done) | (simp [*]; done)), (by first | rfl | (simp; done) | (simp [*]; done)), H', ⟨by have := HK1.out; have := HJ14.out; omega⟩, ⟨by (with_reducible repeat (first | apply Kd.R_alloc | apply Kd.R_drewN | apply Kd.R_drew)); exact HO162.out⟩, ⟨by repeat (first | (with_reducible first | exact HB.out | apply below_alloc | apply pw_below_drewN | apply below_drew1) | exact HB.out)⟩⟩
                                    · rw [if_neg c38] at H
                                      exact absurd H (by simp)
                                  · rw [if_neg c36] at H
                                    exact absurd H (by simp)
                                · rw [if_neg c35] at H
                                  have c35b0 : (x6_1 == x7_1) = false := beq_eq_false_iff_ne.mpr c35
                                  have c35b1 : (x6_1 != x7_1) = true := bne_iff_ne.mpr c35
                                  by_cases c46 : x5_1.length < 8796093022208
                                  · rw [if_pos c46] at H
                                    have LMc46 := Aside0.mk c46
                                    clear c46
                                    obtain ⟨y163, hy163⟩ : ∃ y_ : List ByteArray, y_ = (x5_1 ++ [t152]) := ⟨_, rfl⟩
                                    replace H : (excelize_squashSqref.l0 kj14 l0 y163 x8_1 x8_1 (wrap64 (x8_1 + 1))) = some r := by first | (rw [hy163]; with_reducible exact H) | (have H2_ := (Option.bind_some _ _).symm.trans H; rw [hy163]; with_reducible exact H2_) | (have H2_ := (Option.bind_some _ _).symm.trans H; with_reducible exact H2_) | with_reducible exact H | (rw [hy163]; exact H) | exact H
                                    have Ny163 := Aside0.mk hy163
                                    clear hy163
                                    have H' := Aside0.mk H
                                    clear H
                                    try go_wp2
                                    have n0_ := Aside0.mk (Kd.R_drew HO_5.out)
                                    have n1_ := Aside0.mk (below_drew1 HB.out)
                                    clear HO_5
                                    clear HB
                                    have HO_5 := n0_
                                    have HB := n1_
                                    clear n0_ n1_
                                    have p147 : 0 ≤ (x6_1 : Int) := of_decide_eq_true (by first | (with_reducible assumption) | assumption)
                                    have q147 : x6_1 < (l0.length : Int) := of_decide_eq_true (by first | (with_reducible assumption) | assumption)
                                    obtain ⟨ad147, A147_0, c147_0, e147, hx147_0, hl147_0, hi147_0⟩ := excelize_squashSqref.at_X HR0.out x6_1 p147 q147
                                    have hw147_0 := hx147_0
                                    cases e147
                                    replace hx147_0 := (HB.out.cell (World.block_lt_of_cell? w _ hx147_0)).trans hx147_0
                                    have HR147_0 := Aside0.mk hi147_0
                                    have HC147_0 := Aside0.mk hl147_0
                                    clear hi147_0 hl147_0
                                    replace p147 := eq_true p147
                                    replace q147 := eq_true q147
                                    have p148 : 0 ≤ (x7_1 : Int) := of_decide_eq_true (by first | (with_reducible assumption) | assumption)
                                    have q148 : x7_1 < (l0.length : Int) := of_decide_eq_true (by first | (with_reducible assumption) | assumption)
                                    obtain ⟨ad148, A148_0, c148_0, e148, hx148_0, hl148_0, hi148_0⟩ := excelize_squashSqref.at_X HR0.out x7_1 p148 q148
                                    have hw148_0 := hx148_0
                                    obtain rfl : ad147 = ad148 := (by injection e148)
                                    replace hx148_0 := (HB.out.cell (World.block_lt_of_cell? w _ hx148_0)).trans hx148_0
                                    have HR148_0 := Aside0.mk hi148_0
                                    have HC148_0 := Aside0.mk hl148_0
                                    clear hi148_0 hl148_0
                                    replace p148 := eq_true p148
                                    replace q148 := eq_true q148
                                    refine start_ (n := 15) (S := fun w' => w'.cell? (ad147.add (x6_1).toNat) = some (.slice A147_0 (rd_L3 l0 x6_1).length c147_0) ∧ w'.cell? (ad147.add (x7_1).toNat) = some (.slice A148_0 (rd_L3 l0 x7_1).length c148_0)) (ds := []) #[false, false, false, false, false, false, false, false, false, false, false, false, false, false, false] (by kernel_rfl) rfl rfl ⟨((HB.out.cell (World.block_lt_of_cell? w _ hw147_0)).trans hw147_0), ((HB.out.cell (World.block_lt_of_cell? w _ hw148_0)).trans hw148_0)⟩ (fun hHeld => ?_); refine with_tabW excelize_squashSqref.tab12 excelize_squashSqref.bits12 (fun HT_ HW_ => ?_)
                                    generalize wc.drew = w47 at HO_5 HB HR147_0 HR148_0 hx147_0 hx148_0 hHeld ⊢
                                    refine pure_ (i := 0) (N := some 72) (v := ?_) (a' := ?_) #[true, false, false, false, false, false, false, false, false, false, false, false, false, false, false] rfl rfl (any_of HT_.out (by kernel_rfl)) (fun _ _ _ h => h) (Or.inl ⟨by rfl, ?_⟩) ?_ ?_
                                    rotate_left
                                    · intro w'
                                      go_simp
                                      with_reducible rfl
                                    rotate_left
                                    · simp only [Act.put, List.setIfInBounds_toArray, List.set_cons_zero, List.set_cons_succ, i64_w, i32_w]
                                      rfl
                                    refine pure_ (i := 1) (N := some 73) (v := ?_) (a' := ?_) #[true, true, false, false, false, false, false, false, false, false, false, false, false, false, false] rfl rfl (any_of HT_.out (by kernel_rfl)) (fun _ _ _ h => h) (Or.inl ⟨by rfl, ?_⟩) ?_ ?_
                                    rotate_left
                                    · intro w'
                                      go_simp
                                      with_reducible rfl
                                    rotate_left
                                    · simp only [Act.put, List.setIfInBounds_toArray, List.set_cons_zero, List.set_cons_succ, i64_w, i32_w]
                                      rfl
                                    refine pure_ (i := 2) (N := some 74) (v := ?_) (a' := ?_) #[true, true, true, false, false, false, false, false, false, false, false, false, false, false, false] rfl rfl (any_of HT_.out (by kernel_rfl)) (fun _ _ _ h => h) (Or.inl ⟨by rfl, ?_⟩) ?_ ?_
                                    rotate_left
                                    · intro w'
                                      go_simp
                                      with_reducible rfl
                                    rotate_left
                                    · simp only [Act.put, List.setIfInBounds_toArray, List.set_cons_zero, List.set_cons_succ, i64_w, i32_w]
                                      rfl
                                    refine pure_ (i := 4) (N := some 76) (v := ?_) (a' := ?_) #[true, true, true, false, true, false, false, false, false, false, false, false, false, false, false] rfl rfl (any_of HT_.out (by kernel_rfl)) (fun _ _ _ h => h) (Or.inl ⟨by rfl, ?_⟩) ?_ ?_
                                    rotate_left
                                    · intro w'
                                      go_simp
                                      with_reducible rfl
                                    rotate_left
                                    · simp only [Act.put, List.setIfInBounds_toArray, List.set_cons_zero, List.set_cons_succ, i64_w, i32_w]
                                      rfl
                                    refine pure_ (i := 5) (N := some 77) (v := ?_) (a' := ?_) #[true, true, true, false, true, true, false, false, false, false, false, false, false, false, false] rfl rfl (any_of HT_.out (by kernel_rfl)) (fun _ _ _ h => h) (Or.inl ⟨by rfl, ?_⟩) ?_ ?_
                                    rotate_left
                                    · intro w'
                                      go_simp
                                      with_reducible rfl
                                    rotate_left
                                    · simp only [Act.put, List.setIfInBounds_toArray, List.set_cons_zero, List.set_cons_succ, i64_w, i32_w]
                                      rfl
                                    refine pure_ (i := 6) (N := some 78) (v := ?_) (a' := ?_) #[true, true, true, false, true, true, true, false, false, false, false, false, false, false, false] rfl rfl (any_of HT_.out (by kernel_rfl)) (fun _ _ _ h => h) (Or.inl ⟨by rfl, ?_⟩) ?_ ?_
                                    rotate_left
                                    · intro w'
                                      go_simp
                                      with_reducible rfl
                                    rotate_left
                                    · simp only [Act.put, List.setIfInBounds_toArray, List.set_cons_zero, List.set_cons_succ, i64_w, i32_w]
                                      rfl
                                    refine take_ (i := 3) (N := some 75) (v := ?_) (a' := ?_) #[true, true, true, true, true, true, true, false, false, false, false, false, false, false, false] rfl rfl (take_ofW HT_.out HW_.out (by kernel_rfl)) (fun _ _ _ h => h) (Or.inl ⟨by rfl, ?_⟩) hHeld ?_ ?_
                                    rotate_left
                                    · rintro w' ⟨s0, s1⟩
                                      go_simp
                                      with_reducible rfl
                                    rotate_left
                                    · simp only [Act.put, List.setIfInBounds_toArray, List.set_cons_zero, List.set_cons_succ, i64_w, i32_w]
                                      rfl
                                    refine take_ (i := 7) (N := some 79) (v := ?_) (a' := ?_) #[true, true, true, true, true, true, true, true, false, false, false, false, false, false, false] rfl rfl (take_ofW HT_.out HW_.out (by kernel_rfl)) (fun _ _ _ h => h) (Or.inl ⟨by rfl, ?_⟩) hHeld ?_ ?_
                                    rotate_left
                                    · rintro w' ⟨s0, s1⟩
                                      go_simp
                                      with_reducible rfl
                                    rotate_left
                                    · simp only [Act.put, List.setIfInBounds_toArray, List.set_cons_zero, List.set_cons_succ, i64_w, i32_w]
                                      rfl
                                    refine one_ (i := 8) (N := some 80) #[true, true, true, true, true, true, true, true, true, false, false, false, false, false, false] rfl rfl (one_of HT_.out (by kernel_rfl)) (by decide) (fun K hK => ?_)
                                    refine Full.append_full_step (w0 := w) w.heap.size (by rfl) (.tmp 75) (.tmp 79) 26 3 (.int .i64 0) 8 rfl Tryd.underlying26 info3 rfl (by decide) (by omega) (.slice A147_0 (rd_L3 l0 x6_1).length c147_0) (rd_L3 l0 x6_1) (rd_L3 l0 x7_1) _ _ _ (fun _ => True) (fun _ => False) rfl rfl ?aO ?aR (fun _ _ h => h) (fun _ h => h.elim) ?aF ?aB ?aS ?aL ?_
                                    (case aR => repeat (first | exact (Kd.C_below HR148_0.out HB.out) | (with_reducible refine Kd.C_alloc ?_ _) | (with_reducible refine Kd.C_drewN ?_ _) | (with_reducible refine Kd.C_drew ?_)))
                                    (case aB => exact (by repeat (first | (with_reducible first | exact HB.out | apply below_alloc | apply pw_below_drewN | apply below_drew1) | exact HB.out)))
                                    (case aF => exact (fun _ _ => trivial))
                                    (case aO => exact ⟨A147_0, by rw [HC147_0.out], by repeat (first | exact (Kd.C_below HR147_0.out HB.out) | (with_reducible refine Kd.C_alloc ?_ _) | (with_reducible refine Kd.C_drewN ?_ _) | (with_reducible refine Kd.C_drew ?_)), (by have hz_ := of_decide_eq_true (show decide (0 < ((rd_L3 l0 x6_1).length : Int)) = true by first | (with_reducible assumption) | assumption); omega), (by have hz_ := of_decide_eq_true (show decide (0 < ((rd_L3 l0 x7_1).length : Int)) = true by first | (with_reducible assumption) | assumption); omega)⟩)
                                    (case aS => exact (below_size (by repeat (first | (with_reducible first | exact HB.out | apply below_alloc | apply pw_below_drewN | apply below_drew1) | exact HB.out))))
                                    (case aL => have := LMc33.out; omega)
                                    intro v150 w48 ho hb hg hat
                                    rw [← Ny149.out] at ho
                                    have n0_ := Aside0.mk (Kd.R_grown (by (with_reducible repeat (first | apply Kd.R_alloc | apply Kd.R_drewN | apply Kd.R_drew)); exact HO_5.out) hg (fun _ _ => by simp [Value.ownBlock]))
                                    have n1_ := Aside0.mk (hb)
                                    have n2_ := Aside0.mk (ho)
                                    clear HO_5
                                    clear HB
                                    have HO_5 := n0_
                                    have HB := n1_
                                    have HO151 := n2_
                                    clear n0_ n1_ n2_
                                    clear ho hb hg hat
                                    obtain ⟨Ao49, co49, eo49⟩ := Kd.R_slice HO151.out
                                    (first | subst eo49 | (injection eo49 with f1_ f2_ f3_; have f4_ := f1_.symm; have f5_ := f3_.symm; clear f1_ f2_ f3_; subst f4_; subst f5_))
                                    refine hK.out _ _ ⟨((HB.out.cell (World.block_lt_of_cell? w _ hw147_0)).trans hw147_0), ((HB.out.cell (World.block_lt_of_cell? w _ hw148_0)).trans hw148_0)⟩ (fun hHeld => ?_)
                                    clear hK K
                                    refine norm_ (a' := ?_) ?_ ?_
                                    rotate_left
                                    · show Act.put _ (some 80) _ = _
                                      simp only [Act.put, List.setIfInBounds_toArray, List.set_cons_zero, List.set_cons_succ, i64_w, i32_w]
                                      rfl
                                    refine one_ (i := 9) (N := some 81) #[true, true, true, true, true, true, true, true, true, true, false, false, false, false, false] rfl rfl (one_of HT_.out (by kernel_rfl)) (by decide) (fun K hK => ?_)
                                    refine goes_ Tryd.func72 (by kernel_rfl) rfl #[.slice Ao49 y149.length co49, .slice none 0 0] (by rfl) rfl rfl (by (try simp only [List.map_toArray, List.map_cons, List.map_nil]); first | done | rfl | (simp only [List.length_drop, List.length_take]; rfl)) ?_
                                    refine (excelize_coordinatesToRangeRef.calls kj14 _ _ y149 _ _ ([] : List Bool) t152 t153 _ ?side1 ?side2 ?side3 ?side4 A34.out).mono ?_
                                    (case side1 => repeat (first | exact (Kd.R_reads' HO151.out).2.2 | (with_reducible refine Kd.C_alloc ?_ _) | (with_reducible refine Kd.C_drewN ?_ _) | (with_reducible refine Kd.C_drew ?_)))
                                    (case side2 => exact (Kd.R_reads' HO151.out).2.1)
                                    (case side3 => exact Kd.C_nil _ _)
                                    (case side4 => exact Nat.le_refl _)
                                    rintro e w50 ⟨rfl, hb⟩
                                    refine ⟨_, rfl, ?_⟩
                                    have n0_ := Aside0.mk (Kd.R_below (by (with_reducible repeat (first | apply Kd.R_alloc | apply Kd.R_drewN | apply Kd.R_drew)); exact HO_5.out) hb)
                                    have n1_ := Aside0.mk (Kd.R_below (by (with_reducible repeat (first | apply Kd.R_alloc | apply Kd.R_drewN | apply Kd.R_drew)); exact HO151.out) hb)
                                    have n2_ := Aside0.mk (below_step (by repeat (first | (with_reducible first | exact HB.out | apply below_alloc | apply pw_below_drewN | apply below_drew1) | exact HB.out)) hb)
                                    clear HO_5
                                    clear HO151
                                    clear HB
                                    have HO_5 := n0_
                                    have HO151 := n1_
                                    have HB := n2_
                                    clear n0_ n1_ n2_
                                    (try clear hb)
                                    (try clear hb2)
                                    (try clear hk)
                                    (try clear hi)
                                    (try simp only [errW_none, errW_some])
                                    refine hK.out _ _ ⟨((HB.out.cell (World.block_lt_of_cell? w _ hw147_0)).trans hw147_0), ((HB.out.cell (World.block_lt_of_cell? w _ hw148_0)).trans hw148_0)⟩ (fun hHeld => ?_)
                                    clear hK K
                                    refine norm_ (a' := ?_) ?_ ?_
                                    rotate_left
                                    · show Act.put _ (some 81) _ = _
                                      simp only [Act.put, List.setIfInBounds_toArray, List.set_cons_zero, List.set_cons_succ, i64_w, i32_w]
                                      rfl
                                    refine pure_ (i := 10) (N := some 71) (v := ?_) (a' := ?_) #[true, true, true, true, true, true, true, true, true, true, true, false, false, false, false] rfl rfl (any_of HT_.out (by kernel_rfl)) (fun _ _ _ h => h) (Or.inl ⟨by rfl, ?_⟩) ?_ ?_
                                    rotate_left
                                    · intro w'
                                      go_simp
                                      with_reducible rfl
                                    rotate_left
                                    · simp only [Act.put, List.setIfInBounds_toArray, List.set_cons_zero, List.set_cons_succ, i64_w, i32_w]
                                      rfl
                                    refine pure_ (i := 11) (N := some 82) (v := ?_) (a' := ?_) #[true, true, true, true, true, true, true, true, true, true, true, true, false, false, false] rfl rfl (any_of HT_.out (by kernel_rfl)) (fun _ _ _ h => h) (Or.inl ⟨by rfl, ?_⟩) ?_ ?_
                                    rotate_left
                                    · intro w'
                                      go_simp
                                      with_reducible rfl
                                    rotate_left
                                    · simp only [Act.put, List.setIfInBounds_toArray, List.set_cons_zero, List.set_cons_succ, i64_w, i32_w]
                                      rfl
                                    refine pure_ (i := 12) (N := some 83) (v := ?_) (a' := ?_) #[true, true, true, true, true, true, true, true, true, true, true, true, true, false, false] rfl rfl (any_of HT_.out (by kernel_rfl)) (fun _ _ _ h => h) (Or.inl ⟨by rfl, ?_⟩) ?_ ?_
                                    rotate_left
                                    · intro w'
                                      go_simp
                                      with_reducible rfl
                                    rotate_left
                                    · simp only [Act.put, List.setIfInBounds_toArray, List.set_cons_zero, List.set_cons_succ, i64_w, i32_w]
                                      rfl
                                    refine pure_ (i := 13) (N := some 9) (v := ?_) (a' := ?_) #[true, true, true, true, true, true, true, true, true, true, true, true, true, true, false] rfl rfl (any_of HT_.out (by kernel_rfl)) (fun _ _ _ h => h) (Or.inl ⟨by rfl, ?_⟩) ?_ ?_
                                    rotate_left
                                    · intro w'
                                      go_simp
                                      with_reducible rfl
                                    rotate_left
                                    · simp only [Act.put, List.setIfInBounds_toArray, List.set_cons_zero, List.set_cons_succ, i64_w, i32_w]
                                      rfl
                                    refine pure_ (i := 14) (N := some 10) (v := ?_) (a' := ?_) #[true, true, true, true, true, true, true, true, true, true, true, true, true, true, true] rfl rfl (any_of HT_.out (by kernel_rfl)) (fun _ _ _ h => h) (Or.inl ⟨by rfl, ?_⟩) ?_ ?_
                                    rotate_left
                                    · intro w'
                                      go_simp
                                      with_reducible rfl
                                    rotate_left
                                    · simp only [Act.put, List.setIfInBounds_toArray, List.set_cons_zero, List.set_cons_succ, i64_w, i32_w]
                                      rfl
                                    refine done_ (done_of HT_.out (by kernel_rfl)) ?_
                                    try go_wp2_with (first | ((with_reducible refine gate_builtin (b := .append) (xs := #[.tmp 103, .tmp 105]) rfl ?_); at_builtin; refine Kd.R_append Kd.string (w0 := w) w.heap.size rfl (.tmp 103) (.tmp 105) 39 9 (.string ⟨#[]⟩) 16 rfl Tryd.underlying39 info9 rfl (by decide) (by omega) u5 x5_1 t152 [.string t152] (fun _ => True) (fun _ => False) rfl rfl ?aP (fun _ hk => hk.elim) ?aF ?aO ?aB ?aS ?aL ?_; (case aP => exact rfl); (case aB => exact (by repeat (first | (with_reducible first | exact HB.out | apply below_alloc | apply pw_below_drewN | apply below_drew1) | exact HB.out))); (case aF => exact (fun _ _ => trivial)); (case aO => exact (by (with_reducible repeat (first | apply Kd.R_alloc | apply Kd.R_drewN | apply Kd.R_drew)); exact HO_5.out)); (case aS => exact (below_size (by repeat (first | (with_reducible first | exact HB.out | apply below_alloc | apply pw_below_drewN | apply below_drew1) | exact HB.out)))); (case aL => have := LMc46.out; omega); intro v164 w51 ho hb hg hat; rw [← Ny163.out] at ho; have n0_ := Aside0.mk (Kd.R_over' (by (with_reducible repeat (first | apply Kd.R_alloc | apply Kd.R_drewN | apply Kd.R_drew)); exact HO151.out) (Kd.R_typed (by (with_reducible repeat (first | apply Kd.R_alloc | apply Kd.R_drewN | apply Kd.R_drew)); exact HO_5.out)) (by decide) hg); have n1_ := Aside0.mk (hb); have n2_ := Aside0.mk (ho); clear HO151; clear HB; clear HO_5; have HO151 := n0_; have HB := n1_; have HO165 := n2_; clear n0_ n1_ n2_; clear ho hb hg hat))
                                    go_roundg kj14
                                    case measure => have := HK1.out; have := HJ14.out; omega
                                    case rel => exact ⟨(y163), (x8_1), (x8_1), (wrap64 (x8_1 + 1)), (by first | rfl | (simp; done) | (simp [*]; done)), (by first | rfl | (simp; done) | (simp [*]; done)), (by first | rfl | (simp; done) | (simp [*]; done)), H', ⟨by have := HK1.out; have := HJ14.out; omega⟩, ⟨by (with_reducible repeat (first | apply Kd.R_alloc | apply Kd.R_drewN | apply Kd.R_drew)); exact HO165.out⟩, ⟨by repeat (first | (with_reducible first | exact HB.out | apply below_alloc | apply pw_below_drewN | apply below_drew1) | exact HB.out)⟩⟩
                                  · rw [if_neg c46] at H
                                    exact absurd H (by simp)
                              · rw [if_neg c33] at H
                                exact absurd H (by simp)
                            · rw [if_neg c32] at H
                              exact absurd H (by simp)
                          · rw [if_neg c31] at H
                            exact absurd H (by simp)
                        · rw [if_neg c30] at H
                          exact absurd H (by simp)
                      · rw [if_neg c29] at H
                        exact absurd H (by simp)
                    · rw [if_neg c28] at H
                      exact absurd H (by simp)
                  · rw [if_neg c27] at H
                    exact absurd H (by simp)
                · replace c26 := Bool.eq_false_iff.mpr c26
                  subst c26
                  have H1 : (excelize_squashSqref.l0 kj14 l0 x5_1 x6_1 (wrap64 (x7_1 + 1)) (wrap64 (x8_1 + 1))) = some r := by rw [if_neg (show ¬ (false = true) by decide)] at H; exact H
                  clear H
                  have H := H1
                  clear H1
                  have H' := Aside0.mk H
                  clear H
                  go_wp2
                  go_roundg kj14
                  case measure => have := HK1.out; have := HJ14.out; omega
                  case rel => exact ⟨(x5_1), (x6_1), (wrap64 (x7_1 + 1)), (wrap64 (x8_1 + 1)), (by first | rfl | (simp; done) | (simp [*]; done)), (by first | rfl | (simp; done) | (simp [*]; done)), (by first | rfl | (simp; done) | (simp [*]; done)), H', ⟨by have := HK1.out; have := HJ14.out; omega⟩, ⟨by (with_reducible repeat (first | apply Kd.R_alloc | apply Kd.R_drewN | apply Kd.R_drew)); exact HO_5.out⟩, ⟨by repeat (first | (with_reducible first | exact HB.out | apply below_alloc | apply pw_below_drewN | apply below_drew1) | exact HB.out)⟩⟩
          · rw [if_neg c14] at H
            have c14b0 : decide (x8_1 < (l0.length : Int)) = false := decide_eq_false c14
            clear c14
            by_cases c52 : 0 ≤ x6_1
            · rw [if_pos c52] at H
              have c52b0 : decide (0 ≤ x6_1) = true := decide_eq_true c52
              clear c52
              by_cases c53 : x6_1 < (l0.length : Int)
              · rw [if_pos c53] at H
                have c53b0 : decide (x6_1 < (l0.length : Int)) = true := decide_eq_true c53
                clear c53
                by_cases c54 : 0 ≤ x7_1
                · rw [if_pos c54] at H
                  have c54b0 : decide (0 ≤ x7_1) = true := decide_eq_true c54
                  clear c54
                  by_cases c55 : x7_1 < (l0.length : Int)
                  · rw [if_pos c55] at H
                    have c55b0 : decide (x7_1 < (l0.length : Int)) = true := decide_eq_true c55
                    clear c55
                    by_cases c56 : 0 < ((rd_L3 l0 x6_1).length : Int)
                    · rw [if_pos c56] at H
                      have c56b0 : decide (0 < ((rd_L3 l0 x6_1).length : Int)) = true := decide_eq_true c56
                      have c56b1 : decide (0 < (rd_L3 l0 x6_1).length) = true := decide_eq_true (by omega)
                      clear c56
                      by_cases c57 : 0 < ((rd_L3 l0 x7_1).length : Int)
                      · rw [if_pos c57] at H
                        have c57b0 : decide (0 < ((rd_L3 l0 x7_1).length : Int)) = true := decide_eq_true c57
                        have c57b1 : decide (0 < (rd_L3 l0 x7_1).length) = true := decide_eq_true (by omega)
                        clear c57
                        by_cases c58 : (rd_L3 l0 x6_1).length + (rd_L3 l0 x7_1).length < 17592186044416
                        · rw [if_pos c58] at H
                          have LMc58 := Aside0.mk c58
                          clear c58
                          obtain ⟨y168, hy168⟩ : ∃ y_ : List Int, y_ = ((rd_L3 l0 x6_1) ++ (rd_L3 l0 x7_1)) := ⟨_, rfl⟩
                          replace H : ((excelize_coordinatesToRangeRef.f k1 y168 ([] : List Bool)).bind fun bt171 => (if x6_1 = x7_1 then (if 1 < ((rd_L3 l0 x6_1).length : Int) then ((excelize_CoordinatesToCellName.f k1 (rd (rd_L3 l0 x6_1) 0) (rd (rd_L3 l0 x6_1) 1) ([] : List Bool)).bind fun bt177 => (if x5_1.length < 8796093022208 then (some (x5_1 ++ [bt177.1])) else (none))) else (none)) else (if x5_1.length < 8796093022208 then (some (x5_1 ++ [bt171.1])) else (none)))) = some r := by first | (rw [hy168]; with_reducible exact H) | (have H2_ := (Option.bind_some _ _).symm.trans H; rw [hy168]; with_reducible exact H2_) | (have H2_ := (Option.bind_some _ _).symm.trans H; with_reducible exact H2_) | with_reducible exact H | (rw [hy168]; exact H) | exact H
                          have Ny168 := Aside0.mk hy168
                          clear hy168
                          replace H := Option.bind_eq_some_iff.mp H
                          obtain ⟨⟨t171, t172⟩, A590, H⟩ := H
                          replace H : (if x6_1 = x7_1 then (if 1 < ((rd_L3 l0 x6_1).length : Int) then ((excelize_CoordinatesToCellName.f k1 (rd (rd_L3 l0 x6_1) 0) (rd (rd_L3 l0 x6_1) 1) ([] : List Bool)).bind fun bt177 => (if x5_1.length < 8796093022208 then (some (x5_1 ++ [bt177.1])) else (none))) else (none)) else (if x5_1.length < 8796093022208 then (some (x5_1 ++ [t171])) else (none))) = some r := H
                          have A59 := Aside0.mk A590
                          clear A590
                          by_cases c60 : x6_1 = x7_1
                          · rw [if_pos c60] at H
                            have c60b0 : (x6_1 == x7_1) = true := beq_iff_eq.mpr c60
                            have c60b1 : (x6_1 != x7_1) = false := bne_eq_false_iff_eq.mpr c60
                            clear c60
                            by_cases c61 : 1 < ((rd_L3 l0 x6_1).length : Int)
                            · rw [if_pos c61] at H
                              have c61b0 : decide (1 < ((rd_L3 l0 x6_1).length : Int)) = true := decide_eq_true c61
                              have c61b1 : decide (1 < (rd_L3 l0 x6_1).length) = true := decide_eq_true (by omega)
                              clear c61
                              replace H := Option.bind_eq_some_iff.mp H
                              obtain ⟨⟨t177, t178⟩, A620, H⟩ := H
                              replace H : (if x5_1.length < 8796093022208 then (some (x5_1 ++ [t177])) else (none)) = some r := H
                              have A62 := Aside0.mk A620
                              clear A620
                              by_cases c63 : x5_1.length < 8796093022208
                              · rw [if_pos c63] at H
                                have LMc63 := Aside0.mk c63
                                clear c63
                                obtain ⟨y179, hy179⟩ : ∃ y_ : List ByteArray, y_ = (x5_1 ++ [t177]) := ⟨_, rfl⟩
                                replace H : (some y179) = some r := by first | (rw [hy179]; with_reducible exact H) | (have H2_ := (Option.bind_some _ _).symm.trans H; rw [hy179]; with_reducible exact H2_) | (have H2_ := (Option.bind_some _ _).symm.trans H; with_reducible exact H2_) | with_reducible exact H | (rw [hy179]; exact H) | exact H
                                have Ny179 := Aside0.mk hy179
                                clear hy179
                                obtain rfl := Option.some.inj H
                                try go_wp2
                                have n0_ := Aside0.mk (Kd.R_drew HO_5.out)
                                have n1_ := Aside0.mk (below_drew1 HB.out)
                                clear HO_5
                                clear HB
                                have HO_5 := n0_
                                have HB := n1_
                                clear n0_ n1_
                                have p166 : 0 ≤ (x6_1 : Int) := of_decide_eq_true (by first | (with_reducible assumption) | assumption)
                                have q166 : x6_1 < (l0.length : Int) := of_decide_eq_true (by first | (with_reducible assumption) | assumption)
                                obtain ⟨ad166, A166_0, c166_0, e166, hx166_0, hl166_0, hi166_0⟩ := excelize_squashSqref.at_X HR0.out x6_1 p166 q166
                                have hw166_0 := hx166_0
                                cases e166
                                replace hx166_0 := (HB.out.cell (World.block_lt_of_cell? w _ hx166_0)).trans hx166_0
                                have HR166_0 := Aside0.mk hi166_0
                                have HC166_0 := Aside0.mk hl166_0
                                clear hi166_0 hl166_0
                                replace p166 := eq_true p166
                                replace q166 := eq_true q166
                                have p167 : 0 ≤ (x7_1 : Int) := of_decide_eq_true (by first | (with_reducible assumption) | assumption)
                                have q167 : x7_1 < (l0.length : Int) := of_decide_eq_true (by first | (with_reducible assumption) | assumption)
                                obtain ⟨ad167, A167_0, c167_0, e167, hx167_0, hl167_0, hi167_0⟩ := excelize_squashSqref.at_X HR0.out x7_1 p167 q167
                                have hw167_0 := hx167_0
                                obtain rfl : ad166 = ad167 := (by injection e167)
                                replace hx167_0 := (HB.out.cell (World.block_lt_of_cell? w _ hx167_0)).trans hx167_0
                                have HR167_0 := Aside0.mk hi167_0
                                have HC167_0 := Aside0.mk hl167_0
                                clear hi167_0 hl167_0
                                replace p167 := eq_true p167
                                replace q167 := eq_true q167
                                refine start_ (n := 15) (S := fun w' => w'.cell? (ad166.add (x6_1).toNat) = some (.slice A166_0 (rd_L3 l0 x6_1).length c166_0) ∧ w'.cell? (ad166.add (x7_1).toNat) = some (.slice A167_0 (rd_L3 l0 x7_1).length c167_0)) (ds := []) #[false, false, false, false, false, false, false, false, false, false, false, false, false, false, false] (by kernel_rfl) rfl rfl ⟨((HB.out.cell (World.block_lt_of_cell? w _ hw166_0)).trans hw166_0), ((HB.out.cell (World.block_lt_of_cell? w _ hw167_0)).trans hw167_0)⟩ (fun hHeld => ?_); refine with_tabW excelize_squashSqref.tab18 excelize_squashSqref.bits18 (fun HT_ HW_ => ?_)
                                generalize wr.drew = w64 at HO_5 HB HR166_0 HR167_0 hx166_0 hx167_0 hHeld ⊢
                                refine pure_ (i := 0) (N := some 112) (v := ?_) (a' := ?_) #[true, false, false, false, false, false, false, false, false, false, false, false, false, false, false] rfl rfl (any_of HT_.out (by kernel_rfl)) (fun _ _ _ h => h) (Or.inl ⟨by rfl, ?_⟩) ?_ ?_
                                rotate_left
                                · intro w'
                                  go_simp
                                  with_reducible rfl
                                rotate_left
                                · simp only [Act.put, List.setIfInBounds_toArray, List.set_cons_zero, List.set_cons_succ, i64_w, i32_w]
                                  rfl
                                refine pure_ (i := 1) (N := some 113) (v := ?_) (a' := ?_) #[true, true, false, false, false, false, false, false, false, false, false, false, false, false, false] rfl rfl (any_of HT_.out (by kernel_rfl)) (fun _ _ _ h => h) (Or.inl ⟨by rfl, ?_⟩) ?_ ?_
                                rotate_left
                                · intro w'
                                  go_simp
                                  with_reducible rfl
                                rotate_left
                                · simp only [Act.put, List.setIfInBounds_toArray, List.set_cons_zero, List.set_cons_succ, i64_w, i32_w]
                                  rfl
                                refine pure_ (i := 2) (N := some 114) (v := ?_) (a' := ?_) #[true, true, true, false, false, false, false, false, false, false, false, false, false, false, false] rfl rfl (any_of HT_.out (by kernel_rfl)) (fun _ _ _ h => h) (Or.inl ⟨by rfl, ?_⟩) ?_ ?_
                                rotate_left
                                · intro w'
                                  go_simp
                                  with_reducible rfl
                                rotate_left
                                · simp only [Act.put, List.setIfInBounds_toArray, List.set_cons_zero, List.set_cons_succ, i64_w, i32_w]
                                  rfl
                                refine pure_ (i := 4) (N := some 116) (v := ?_) (a' := ?_) #[true, true, true, false, true, false, false, false, false, false, false, false, false, false, false] rfl rfl (any_of HT_.out (by kernel_rfl)) (fun _ _ _ h => h) (Or.inl ⟨by rfl, ?_⟩) ?_ ?_
                                rotate_left
                                · intro w'
                                  go_simp
                                  with_reducible rfl
                                rotate_left
                                · simp only [Act.put, List.setIfInBounds_toArray, List.set_cons_zero, List.set_cons_succ, i64_w, i32_w]
                                  rfl
                                refine pure_ (i := 5) (N := some 117) (v := ?_) (a' := ?_) #[true, true, true, false, true, true, false, false, false, false, false, false, false, false, false] rfl rfl (any_of HT_.out (by kernel_rfl)) (fun _ _ _ h => h) (Or.inl ⟨by rfl, ?_⟩) ?_ ?_
                                rotate_left
                                · intro w'
                                  go_simp
                                  with_reducible rfl
                                rotate_left
                                · simp only [Act.put, List.setIfInBounds_toArray, List.set_cons_zero, List.set_cons_succ, i64_w, i32_w]
                                  rfl
                                refine pure_ (i := 6) (N := some 118) (v := ?_) (a' := ?_) #[true, true, true, false, true, true, true, false, false, false, false, false, false, false, false] rfl rfl (any_of HT_.out (by kernel_rfl)) (fun _ _ _ h => h) (Or.inl ⟨by rfl, ?_⟩) ?_ ?_
                                rotate_left
                                · intro w'
                                  go_simp
                                  with_reducible rfl
                                rotate_left
                                · simp only [Act.put, List.setIfInBounds_toArray, List.set_cons_zero, List.set_cons_succ, i64_w, i32_w]
                                  rfl
                                refine take_ (i := 3) (N := some 115) (v := ?_) (a' := ?_) #[true, true, true, true, true, true, true, false, false, false, false, false, false, false, false] rfl rfl (take_ofW HT_.out HW_.out (by kernel_rfl)) (fun _ _ _ h => h) (Or.inl ⟨by rfl, ?_⟩) hHeld ?_ ?_
                                rotate_left
                                · rintro w' ⟨s0, s1⟩
                                  go_simp
                                  with_reducible rfl
                                rotate_left
                                · simp only [Act.put, List.setIfInBounds_toArray, List.set_cons_zero, List.set_cons_succ, i64_w, i32_w]
                                  rfl
                                refine take_ (i := 7) (N := some 119) (v := ?_) (a' := ?_) #[true, true, true, true, true, true, true, true, false, false, false, false, false, false, false] rfl rfl (take_ofW HT_.out HW_.out (by kernel_rfl)) (fun _ _ _ h => h) (Or.inl ⟨by rfl, ?_⟩) hHeld ?_ ?_
                                rotate_left
                                · rintro w' ⟨s0, s1⟩
                                  go_simp
                                  with_reducible rfl
                                rotate_left
                                · simp only [Act.put, List.setIfInBounds_toArray, List.set_cons_zero, List.set_cons_succ, i64_w, i32_w]
                                  rfl
                                refine one_ (i := 8) (N := some 120) #[true, true, true, true, true, true, true, true, true, false, false, false, false, false, false] rfl rfl (one_of HT_.out (by kernel_rfl)) (by decide) (fun K hK => ?_)
                                refine Full.append_full_step (w0 := w) w.heap.size (by rfl) (.tmp 115) (.tmp 119) 26 3 (.int .i64 0) 8 rfl Tryd.underlying26 info3 rfl (by decide) (by omega) (.slice A166_0 (rd_L3 l0 x6_1).length c166_0) (rd_L3 l0 x6_1) (rd_L3 l0 x7_1) _ _ _ (fun _ => True) (fun _ => False) rfl rfl ?aO ?aR (fun _ _ h => h) (fun _ h => h.elim) ?aF ?aB ?aS ?aL ?_
                                (case aR => repeat (first | exact (Kd.C_below HR167_0.out HB.out) | (with_reducible refine Kd.C_alloc ?_ _) | (with_reducible refine Kd.C_drewN ?_ _) | (with_reducible refine Kd.C_drew ?_)))
                                (case aB => exact (by repeat (first | (with_reducible first | exact HB.out | apply below_alloc | apply pw_below_drewN | apply below_drew1) | exact HB.out)))
                                (case aF => exact (fun _ _ => trivial))
                                (case aO => exact ⟨A166_0, by rw [HC166_0.out], by repeat (first | exact (Kd.C_below HR166_0.out HB.out) | (with_reducible refine Kd.C_alloc ?_ _) | (with_reducible refine Kd.C_drewN ?_ _) | (with_reducible refine Kd.C_drew ?_)), (by have hz_ := of_decide_eq_true (show decide (0 < ((rd_L3 l0 x6_1).length : Int)) = true by first | (with_reducible assumption) | assumption); omega), (by have hz_ := of_decide_eq_true (show decide (0 < ((rd_L3 l0 x7_1).length : Int)) = true by first | (with_reducible assumption) | assumption); omega)⟩)
                                (case aS => exact (below_size (by repeat (first | (with_reducible first | exact HB.out | apply below_alloc | apply pw_below_drewN | apply below_drew1) | exact HB.out))))
                                (case aL => have := LMc58.out; omega)
                                intro v169 w65 ho hb hg hat
                                rw [← Ny168.out] at ho
                                have n0_ := Aside0.mk (Kd.R_grown (by (with_reducible repeat (first | apply Kd.R_alloc | apply Kd.R_drewN | apply Kd.R_drew)); exact HO_5.out) hg (fun _ _ => by simp [Value.ownBlock]))
                                have n1_ := Aside0.mk (hb)
                                have n2_ := Aside0.mk (ho)
                                clear HO_5
                                clear HB
                                have HO_5 := n0_
                                have HB := n1_
                                have HO170 := n2_
                                clear n0_ n1_ n2_
                                clear ho hb hg hat
                                obtain ⟨Ao66, co66, eo66⟩ := Kd.R_slice HO170.out
                                (first | subst eo66 | (injection eo66 with f1_ f2_ f3_; have f4_ := f1_.symm; have f5_ := f3_.symm; clear f1_ f2_ f3_; subst f4_; subst f5_))
                                refine hK.out _ _ ⟨((HB.out.cell (World.block_lt_of_cell? w _ hw166_0)).trans hw166_0), ((HB.out.cell (World.block_lt_of_cell? w _ hw167_0)).trans hw167_0)⟩ (fun hHeld => ?_)
                                clear hK K
                                refine norm_ (a' := ?_) ?_ ?_
                                rotate_left
                                · show Act.put _ (some 120) _ = _
                                  simp only [Act.put, List.setIfInBounds_toArray, List.set_cons_zero, List.set_cons_succ, i64_w, i32_w]
                                  rfl
                                refine one_ (i := 9) (N := some 121) #[true, true, true, true, true, true, true, true, true, true, false, false, false, false, false] rfl rfl (one_of HT_.out (by kernel_rfl)) (by decide) (fun K hK => ?_)
                                refine goes_ Tryd.func72 (by kernel_rfl) rfl #[.slice Ao66 y168.length co66, .slice none 0 0] (by rfl) rfl rfl (by (try simp only [List.map_toArray, List.map_cons, List.map_nil]); first | done | rfl | (simp only [List.length_drop, List.length_take]; rfl)) ?_
                                refine (excelize_coordinatesToRangeRef.calls k1 _ _ y168 _ _ ([] : List Bool) t171 t172 _ ?side1 ?side2 ?side3 ?side4 A59.out).mono ?_
                                (case side1 => repeat (first | exact (Kd.R_reads' HO170.out).2.2 | (with_reducible refine Kd.C_alloc ?_ _) | (with_reducible refine Kd.C_drewN ?_ _) | (with_reducible refine Kd.C_drew ?_)))
                                (case side2 => exact (Kd.R_reads' HO170.out).2.1)
                                (case side3 => exact Kd.C_nil _ _)
                                (case side4 => exact Nat.le_refl _)
                                rintro e w67 ⟨rfl, hb⟩
                                refine ⟨_, rfl, ?_⟩
                                have n0_ := Aside0.mk (Kd.R_below (by (with_reducible repeat (first | apply Kd.R_alloc | apply Kd.R_drewN | apply Kd.R_drew)); exact HO_5.out) hb)
                                have n1_ := Aside0.mk (Kd.R_below (by (with_reducible repeat (first | apply Kd.R_alloc | apply Kd.R_drewN | apply Kd.R_drew)); exact HO170.out) hb)
                                have n2_ := Aside0.mk (below_step (by repeat (first | (with_reducible first | exact HB.out | apply below_alloc | apply pw_below_drewN | apply below_drew1) | exact HB.out)) hb)
                                clear HO_5
                                clear HO170
                                clear HB
                                have HO_5 := n0_
                                have HO170 := n1_
                                have HB := n2_
                                clear n0_ n1_ n2_
                                (try clear hb)
                                (try clear hb2)
                                (try clear hk)
                                (try clear hi)
                                (try simp only [errW_none, errW_some])
                                refine hK.out _ _ ⟨((HB.out.cell (World.block_lt_of_cell? w _ hw166_0)).trans hw166_0), ((HB.out.cell (World.block_lt_of_cell? w _ hw167_0)).trans hw167_0)⟩ (fun hHeld => ?_)
                                clear hK K
                                refine norm_ (a' := ?_) ?_ ?_
                                rotate_left
                                · show Act.put _ (some 121) _ = _
                                  simp only [Act.put, List.setIfInBounds_toArray, List.set_cons_zero, List.set_cons_succ, i64_w, i32_w]
                                  rfl
                                refine pure_ (i := 10) (N := some 111) (v := ?_) (a' := ?_) #[true, true, true, true, true, true, true, true, true, true, true, false, false, false, false] rfl rfl (any_of HT_.out (by kernel_rfl)) (fun _ _ _ h => h) (Or.inl ⟨by rfl, ?_⟩) ?_ ?_
                                rotate_left
                                · intro w'
                                  go_simp
                                  with_reducible rfl
                                rotate_left
                                · simp only [Act.put, List.setIfInBounds_toArray, List.set_cons_zero, List.set_cons_succ, i64_w, i32_w]
                                  rfl
                                refine pure_ (i := 11) (N := some 122) (v := ?_) (a' := ?_) #[true, true, true, true, true, true, true, true, true, true, true, true, false, false, false] rfl rfl (any_of HT_.out (by kernel_rfl)) (fun _ _ _ h => h) (Or.inl ⟨by rfl, ?_⟩) ?_ ?_
                                rotate_left
                                · intro w'
                                  go_simp
                                  with_reducible rfl
                                rotate_left
                                · simp only [Act.put, List.setIfInBounds_toArray, List.set_cons_zero, List.set_cons_succ, i64_w, i32_w]
                                  rfl
                                refine pure_ (i := 12) (N := some 123) (v := ?_) (a' := ?_) #[true, true, true, true, true, true, true, true, true, true, true, true, true, false, false] rfl rfl (any_of HT_.out (by kernel_rfl)) (fun _ _ _ h => h) (Or.inl ⟨by rfl, ?_⟩) ?_ ?_
                                rotate_left
                                · intro w'
                                  go_simp
                                  with_reducible rfl
                                rotate_left
                                · simp only [Act.put, List.setIfInBounds_toArray, List.set_cons_zero, List.set_cons_succ, i64_w, i32_w]
                                  rfl
                                refine pure_ (i := 13) (N := some 11) (v := ?_) (a' := ?_) #[true, true, true, true, true, true, true, true, true, true, true, true, true, true, false] rfl rfl (any_of HT_.out (by kernel_rfl)) (fun _ _ _ h => h) (Or.inl ⟨by rfl, ?_⟩) ?_ ?_
                                rotate_left
                                · intro w'
                                  go_simp
                                  with_reducible rfl
                                rotate_left
                                · simp only [Act.put, List.setIfInBounds_toArray, List.set_cons_zero, List.set_cons_succ, i64_w, i32_w]
                                  rfl
                                refine pure_ (i := 14) (N := some 12) (v := ?_) (a' := ?_) #[true, true, true, true, true, true, true, true, true, true, true, true, true, true, true] rfl rfl (any_of HT_.out (by kernel_rfl)) (fun _ _ _ h => h) (Or.inl ⟨by rfl, ?_⟩) ?_ ?_
                                rotate_left
                                · intro w'
                                  go_simp
                                  with_reducible rfl
                                rotate_left
                                · simp only [Act.put, List.setIfInBounds_toArray, List.set_cons_zero, List.set_cons_succ, i64_w, i32_w]
                                  rfl
                                refine done_ (done_of HT_.out (by kernel_rfl)) ?_
                                try go_wp2
                                have n0_ := Aside0.mk (Kd.R_drew HO_5.out)
                                have n1_ := Aside0.mk (Kd.R_drew HO170.out)
                                have n2_ := Aside0.mk (below_drew1 HB.out)
                                clear HO_5
                                clear HO170
                                clear HB
                                have HO_5 := n0_
                                have HO170 := n1_
                                have HB := n2_
                                clear n0_ n1_ n2_
                                have p173 : 0 ≤ (x6_1 : Int) := of_decide_eq_true (by first | (with_reducible assumption) | assumption)
                                have q173 : x6_1 < (l0.length : Int) := of_decide_eq_true (by first | (with_reducible assumption) | assumption)
                                obtain ⟨ad173, A173_0, c173_0, e173, hx173_0, hl173_0, hi173_0⟩ := excelize_squashSqref.at_X HR0.out x6_1 p173 q173
                                have hw173_0 := hx173_0
                                obtain rfl : ad166 = ad173 := (by injection e173)
                                replace hx173_0 := (HB.out.cell (World.block_lt_of_cell? w _ hx173_0)).trans hx173_0
                                have HR173_0 := Aside0.mk hi173_0
                                have HC173_0 := Aside0.mk hl173_0
                                clear hi173_0 hl173_0
                                replace p173 := eq_true p173
                                replace q173 := eq_true q173
                                have p174 : 0 ≤ (0 : Int) := (by omega)
                                have q174 : 0 < ((rd_L3 l0 x6_1).length : Int) := of_decide_eq_true (by first | (with_reducible assumption) | assumption)
                                obtain ⟨ad174, e174, hx174_0⟩ := Kd.at_int HR173_0.out 0 p174 q174
                                have hw174_0 := hx174_0
                                (try rw [show ((0 : Int)).toNat = 0 from rfl] at hw174_0)
                                (try rw [show 0 * 1 = 0 from rfl] at hw174_0)
                                (try rw [Addr.add_zero'] at hw174_0)
                                cases e174
                                have qi174 : (0 < (rd_L3 l0 x6_1).length) = True := eq_true (by omega)
                                (try rw [show ((0 : Int)).toNat = 0 from rfl] at hx174_0)
                                (try rw [Addr.add_zero'] at hx174_0)
                                replace hx174_0 := (HB.out.cell (World.block_lt_of_cell? w _ hx174_0)).trans hx174_0
                                replace p174 := eq_true p174
                                replace q174 := eq_true q174
                                have p175 : 0 ≤ (x6_1 : Int) := of_decide_eq_true (by first | (with_reducible assumption) | assumption)
                                have q175 : x6_1 < (l0.length : Int) := of_decide_eq_true (by first | (with_reducible assumption) | assumption)
                                obtain ⟨ad175, A175_0, c175_0, e175, hx175_0, hl175_0, hi175_0⟩ := excelize_squashSqref.at_X HR0.out x6_1 p175 q175
                                have hw175_0 := hx175_0
                                obtain rfl : ad166 = ad175 := (by injection e175)
                                replace hx175_0 := (HB.out.cell (World.block_lt_of_cell? w _ hx175_0)).trans hx175_0
                                have HR175_0 := Aside0.mk hi175_0
                                have HC175_0 := Aside0.mk hl175_0
                                clear hi175_0 hl175_0
                                replace p175 := eq_true p175
                                replace q175 := eq_true q175
                                have ea_ := Option.some.inj (hx173_0.symm.trans hx175_0)
                                injection ea_ with ea_ en_ ec_
                                subst ea_
                                subst ec_
                                clear en_
                                have p176 : 0 ≤ (1 : Int) := (by omega)
                                have q176 : 1 < ((rd_L3 l0 x6_1).length : Int) := of_decide_eq_true (by first | (with_reducible assumption) | assumption)
                                obtain ⟨ad176, e176, hx176_0⟩ := Kd.at_int HR175_0.out 1 p176 q176
                                have hw176_0 := hx176_0
                                (try rw [show ((1 : Int)).toNat = 1 from rfl] at hw176_0)
                                (try rw [show 1 * 1 = 1 from rfl] at hw176_0)
                                (try simp only [Nat.reduceMul, Nat.reduceEqDiff, Go.Addr.add, ↓reduceIte] at hw176_0)
                                cases e176
                                (try simp only [show (1 : Int).toNat = 1 from rfl, Nat.reduceMul, Nat.reduceEqDiff, Go.Addr.add, ↓reduceIte] at hx176_0)
                                have qi176 : (1 < (rd_L3 l0 x6_1).length) = True := eq_true (by omega)
                                (try rw [show ((1 : Int)).toNat = 1 from rfl] at hx176_0)
                                replace hx176_0 := (HB.out.cell (World.block_lt_of_cell? w _ hx176_0)).trans hx176_0
                                replace p176 := eq_true p176
                                replace q176 := eq_true q176
                                refine start_ (n := 17) (S := fun w' => w'.cell? (ad166.add (x6_1).toNat) = some (.slice (some ad174) (rd_L3 l0 x6_1).length c173_0) ∧ w'.cell? ad174 = some (.int .i64 (rd (rd_L3 l0 x6_1) 0)) ∧ w'.cell? (ad166.add (x6_1).toNat) = some (.slice (some ad174) (rd_L3 l0 x6_1).length c173_0) ∧ w'.cell? ⟨ad174.block, ad174.off + 1, none⟩ = some (.int .i64 (rd (rd_L3 l0 x6_1) 1))) (ds := []) #[false, false, false, false, false, false, false, false, false, false, false, false, false, false, false, false, false] (by kernel_rfl) rfl rfl ⟨((HB.out.cell (World.block_lt_of_cell? w _ hw173_0)).trans hw173_0), ((HB.out.cell (World.block_lt_of_cell? w _ hw174_0)).trans hw174_0), ((HB.out.cell (World.block_lt_of_cell? w _ hw175_0)).trans hw175_0), ((HB.out.cell (World.block_lt_of_cell? w _ hw176_0)).trans hw176_0)⟩ (fun hHeld => ?_); refine with_tabW excelize_squashSqref.tab20 excelize_squashSqref.bits20 (fun HT_ HW_ => ?_)
                                generalize w67.drew = w68 at HO_5 HO170 HB HR173_0 HR175_0 hx173_0 hx174_0 hx175_0 hx176_0 hHeld ⊢
                                refine pure_ (i := 0) (N := some 128) (v := ?_) (a' := ?_) #[true, false, false, false, false, false, false, false, false, false, false, false, false, false, false, false, false] rfl rfl (any_of HT_.out (by kernel_rfl)) (fun _ _ _ h => h) (Or.inl ⟨by rfl, ?_⟩) ?_ ?_
                                rotate_left
                                · intro w'
                                  go_simp
                                  with_reducible rfl
                                rotate_left
                                · simp only [Act.put, List.setIfInBounds_toArray, List.set_cons_zero, List.set_cons_succ, i64_w, i32_w]
                                  rfl
                                refine pure_ (i := 1) (N := some 129) (v := ?_) (a' := ?_) #[true, true, false, false, false, false, false, false, false, false, false, false, false, false, false, false, false] rfl rfl (any_of HT_.out (by kernel_rfl)) (fun _ _ _ h => h) (Or.inl ⟨by rfl, ?_⟩) ?_ ?_
                                rotate_left
                                · intro w'
                                  go_simp
                                  with_reducible rfl
                                rotate_left
                                · simp only [Act.put, List.setIfInBounds_toArray, List.set_cons_zero, List.set_cons_succ, i64_w, i32_w]
                                  rfl
                                refine pure_ (i := 2) (N := some 130) (v := ?_) (a' := ?_) #[true, true, true, false, false, false, false, false, false, false, false, false, false, false, false, false, false] rfl rfl (any_of HT_.out (by kernel_rfl)) (fun _ _ _ h => h) (Or.inl ⟨by rfl, ?_⟩) ?_ ?_
                                rotate_left
                                · intro w'
                                  go_simp
                                  with_reducible rfl
                                rotate_left
                                · simp only [Act.put, List.setIfInBounds_toArray, List.set_cons_zero, List.set_cons_succ, i64_w, i32_w]
                                  rfl
                                refine pure_ (i := 6) (N := some 134) (v := ?_) (a' := ?_) #[true, true, true, false, false, false, true, false, false, false, false, false, false, false, false, false, false] rfl rfl (any_of HT_.out (by kernel_rfl)) (fun _ _ _ h => h) (Or.inl ⟨by rfl, ?_⟩) ?_ ?_
                                rotate_left
                                · intro w'
                                  go_simp
                                  with_reducible rfl
                                rotate_left
                                · simp only [Act.put, List.setIfInBounds_toArray, List.set_cons_zero, List.set_cons_succ, i64_w, i32_w]
                                  rfl
                                refine pure_ (i := 7) (N := some 135) (v := ?_) (a' := ?_) #[true, true, true, false, false, false, true, true, false, false, false, false, false, false, false, false, false] rfl rfl (any_of HT_.out (by kernel_rfl)) (fun _ _ _ h => h) (Or.inl ⟨by rfl, ?_⟩) ?_ ?_
                                rotate_left
                                · intro w'
                                  go_simp
                                  with_reducible rfl
                                rotate_left
                                · simp only [Act.put, List.setIfInBounds_toArray, List.set_cons_zero, List.set_cons_succ, i64_w, i32_w]
                                  rfl
                                refine pure_ (i := 8) (N := some 136) (v := ?_) (a' := ?_) #[true, true, true, false, false, false, true, true, true, false, false, false, false, false, false, false, false] rfl rfl (any_of HT_.out (by kernel_rfl)) (fun _ _ _ h => h) (Or.inl ⟨by rfl, ?_⟩) ?_ ?_
                                rotate_left
                                · intro w'
                                  go_simp
                                  with_reducible rfl
                                rotate_left
                                · simp only [Act.put, List.setIfInBounds_toArray, List.set_cons_zero, List.set_cons_succ, i64_w, i32_w]
                                  rfl
                                refine take_ (i := 3) (N := some 131) (v := ?_) (a' := ?_) #[true, true, true, true, false, false, true, true, true, false, false, false, false, false, false, false, false] rfl rfl (take_ofW HT_.out HW_.out (by kernel_rfl)) (fun _ _ _ h => h) (Or.inl ⟨by rfl, ?_⟩) hHeld ?_ ?_
                                rotate_left
                                · rintro w' ⟨s0, s1, s2, s3⟩
                                  go_simp
                                  with_reducible rfl
                                rotate_left
                                · simp only [Act.put, List.setIfInBounds_toArray, List.set_cons_zero, List.set_cons_succ, i64_w, i32_w]
                                  rfl
                                refine pure_ (i := 4) (N := some 132) (v := ?_) (a' := ?_) #[true, true, true, true, true, false, true, true, true, false, false, false, false, false, false, false, false] rfl rfl (any_of HT_.out (by kernel_rfl)) (fun _ _ _ h => h) (Or.inl ⟨by rfl, ?_⟩) ?_ ?_
                                rotate_left
                                · intro w'
                                  go_simp
                                  with_reducible rfl
                                rotate_left
                                · simp only [Act.put, List.setIfInBounds_toArray, List.set_cons_zero, List.set_cons_succ, i64_w, i32_w]
                                  rfl
                                refine take_ (i := 5) (N := some 133) (v := ?_) (a' := ?_) #[true, true, true, true, true, true, true, true, true, false, false, false, false, false, false, false, false] rfl rfl (take_ofW HT_.out HW_.out (by kernel_rfl)) (fun _ _ _ h => h) (Or.inl ⟨by rfl, ?_⟩) hHeld ?_ ?_
                                rotate_left
                                · rintro w' ⟨s0, s1, s2, s3⟩
                                  go_simp
                                  with_reducible rfl
                                rotate_left
                                · simp only [Act.put, List.setIfInBounds_toArray, List.set_cons_zero, List.set_cons_succ, i64_w, i32_w]
                                  rfl
                                refine take_ (i := 9) (N := some 137) (v := ?_) (a' := ?_) #[true, true, true, true, true, true, true, true, true, true, false, false, false, false, false, false, false] rfl rfl (take_ofW HT_.out HW_.out (by kernel_rfl)) (fun _ _ _ h => h) (Or.inl ⟨by rfl, ?_⟩) hHeld ?_ ?_
                                rotate_left
                                · rintro w' ⟨s0, s1, s2, s3⟩
                                  go_simp
                                  with_reducible rfl
                                rotate_left
                                · simp only [Act.put, List.setIfInBounds_toArray, List.set_cons_zero, List.set_cons_succ, i64_w, i32_w]
                                  rfl
                                refine pure_ (i := 10) (N := some 138) (v := ?_) (a' := ?_) #[true, true, true, true, true, true, true, true, true, true, true, false, false, false, false, false, false] rfl rfl (any_of HT_.out (by kernel_rfl)) (fun _ _ _ h => h) (Or.inl ⟨by rfl, ?_⟩) ?_ ?_
                                rotate_left
                                · intro w'
                                  go_simp
                                  with_reducible rfl
                                rotate_left
                                · simp only [Act.put, List.setIfInBounds_toArray, List.set_cons_zero, List.set_cons_succ, i64_w, i32_w]
                                  rfl
                                refine take_ (i := 11) (N := some 139) (v := ?_) (a' := ?_) #[true, true, true, true, true, true, true, true, true, true, true, true, false, false, false, false, false] rfl rfl (take_ofW HT_.out HW_.out (by kernel_rfl)) (fun _ _ _ h => h) (Or.inl ⟨by rfl, ?_⟩) hHeld ?_ ?_
                                rotate_left
                                · rintro w' ⟨s0, s1, s2, s3⟩
                                  go_simp
                                  with_reducible rfl
                                rotate_left
                                · simp only [Act.put, List.setIfInBounds_toArray, List.set_cons_zero, List.set_cons_succ, i64_w, i32_w]
                                  rfl
                                refine one_ (i := 12) (N := some 140) #[true, true, true, true, true, true, true, true, true, true, true, true, true, false, false, false, false] rfl rfl (one_of HT_.out (by kernel_rfl)) (by decide) (fun K hK => ?_)
                                refine goes_ Tryd.func71 (by kernel_rfl) rfl #[.int .i64 (rd (rd_L3 l0 x6_1) 0), .int .i64 (rd (rd_L3 l0 x6_1) 1), .slice none 0 0] (by rfl) rfl rfl (by (try simp only [List.map_toArray, List.map_cons, List.map_nil]); first | done | rfl | (simp only [List.length_drop, List.length_take]; rfl)) ?_
                                refine (excelize_CoordinatesToCellName.calls k1 (rd (rd_L3 l0 x6_1) 0) (rd (rd_L3 l0 x6_1) 1) _ _ ([] : List Bool) t177 t178 _ ?side1 ?side2 A62.out).mono ?_
                                (case side1 => exact Kd.C_nil _ _)
                                (case side2 => exact Nat.le_refl _)
                                rintro e w69 ⟨rfl, hb⟩
                                refine ⟨_, rfl, ?_⟩
                                have n0_ := Aside0.mk (Kd.R_below (by (with_reducible repeat (first | apply Kd.R_alloc | apply Kd.R_drewN | apply Kd.R_drew)); exact HO_5.out) hb)
                                have n1_ := Aside0.mk (Kd.R_below (by (with_reducible repeat (first | apply Kd.R_alloc | apply Kd.R_drewN | apply Kd.R_drew)); exact HO170.out) hb)
                                have n2_ := Aside0.mk (below_step (by repeat (first | (with_reducible first | exact HB.out | apply below_alloc | apply pw_below_drewN | apply below_drew1) | exact HB.out)) hb)
                                clear HO_5
                                clear HO170
                                clear HB
                                have HO_5 := n0_
                                have HO170 := n1_
                                have HB := n2_
                                clear n0_ n1_ n2_
                                (try clear hb)
                                (try clear hb2)
                                (try clear hk)
                                (try clear hi)
                                (try simp only [errW_none, errW_some])
                                refine hK.out _ _ ⟨((HB.out.cell (World.block_lt_of_cell? w _ hw173_0)).trans hw173_0), ((HB.out.cell (World.block_lt_of_cell? w _ hw174_0)).trans hw174_0), ((HB.out.cell (World.block_lt_of_cell? w _ hw175_0)).trans hw175_0), ((HB.out.cell (World.block_lt_of_cell? w _ hw176_0)).trans hw176_0)⟩ (fun hHeld => ?_)
                                clear hK K
                                refine norm_ (a' := ?_) ?_ ?_
                                rotate_left
                                · show Act.put _ (some 140) _ = _
                                  simp only [Act.put, List.setIfInBounds_toArray, List.set_cons_zero, List.set_cons_succ, i64_w, i32_w]
                                  rfl
                                refine pure_ (i := 13) (N := some 127) (v := ?_) (a' := ?_) #[true, true, true, true, true, true, true, true, true, true, true, true, true, true, false, false, false] rfl rfl (any_of HT_.out (by kernel_rfl)) (fun _ _ _ h => h) (Or.inl ⟨by rfl, ?_⟩) ?_ ?_
                                rotate_left
                                · intro w'
                                  go_simp
                                  with_reducible rfl
                                rotate_left
                                · simp only [Act.put, List.setIfInBounds_toArray, List.set_cons_zero, List.set_cons_succ, i64_w, i32_w]
                                  rfl
                                refine pure_ (i := 14) (N := some 141) (v := ?_) (a' := ?_) #[true, true, true, true, true, true, true, true, true, true, true, true, true, true, true, false, false] rfl rfl (any_of HT_.out (by kernel_rfl)) (fun _ _ _ h => h) (Or.inl ⟨by rfl, ?_⟩) ?_ ?_
                                rotate_left
                                · intro w'
                                  go_simp
                                  with_reducible rfl
                                rotate_left
                                · simp only [Act.put, List.setIfInBounds_toArray, List.set_cons_zero, List.set_cons_succ, i64_w, i32_w]
                                  rfl
                                refine pure_ (i := 15) (N := some 142) (v := ?_) (a' := ?_) #[true, true, true, true, true, true, true, true, true, true, true, true, true, true, true, true, false] rfl rfl (any_of HT_.out (by kernel_rfl)) (fun _ _ _ h => h) (Or.inl ⟨by rfl, ?_⟩) ?_ ?_
                                rotate_left
                                · intro w'
                                  go_simp
                                  with_reducible rfl
                                rotate_left
                                · simp only [Act.put, List.setIfInBounds_toArray, List.set_cons_zero, List.set_cons_succ, i64_w, i32_w]
                                  rfl
                                refine pure_ (i := 16) (N := some 11) (v := ?_) (a' := ?_) #[true, true, true, true, true, true, true, true, true, true, true, true, true, true, true, true, true] rfl rfl (any_of HT_.out (by kernel_rfl)) (fun _ _ _ h => h) (Or.inl ⟨by rfl, ?_⟩) ?_ ?_
                                rotate_left
                                · intro w'
                                  go_simp
                                  with_reducible rfl
                                rotate_left
                                · simp only [Act.put, List.setIfInBounds_toArray, List.set_cons_zero, List.set_cons_succ, i64_w, i32_w]
                                  rfl
                                refine done_ (done_of HT_.out (by kernel_rfl)) ?_
                                try go_wp2_with (first | ((with_reducible refine gate_builtin (b := .append) (xs := #[.tmp 143, .tmp 145]) rfl ?_); at_builtin; refine Kd.R_append Kd.string (w0 := w) w.heap.size rfl (.tmp 143) (.tmp 145) 39 9 (.string ⟨#[]⟩) 16 rfl Tryd.underlying39 info9 rfl (by decide) (by omega) u5 x5_1 t177 [.string t177] (fun _ => True) (fun _ => False) rfl rfl ?aP (fun _ hk => hk.elim) ?aF ?aO ?aB ?aS ?aL ?_; (case aP => exact rfl); (case aB => exact (by repeat (first | (with_reducible first | exact HB.out | apply below_alloc | apply pw_below_drewN | apply below_drew1) | exact HB.out))); (case aF => exact (fun _ _ => trivial)); (case aO => exact (by (with_reducible repeat (first | apply Kd.R_alloc | apply Kd.R_drewN | apply Kd.R_drew)); exact HO_5.out)); (case aS => exact (below_size (by repeat (first | (with_reducible first | exact HB.out | apply below_alloc | apply pw_below_drewN | apply below_drew1) | exact HB.out)))); (case aL => have := LMc63.out; omega); intro v180 w70 ho hb hg hat; rw [← Ny179.out] at ho; have n0_ := Aside0.mk (Kd.R_over' (by (with_reducible repeat (first | apply Kd.R_alloc | apply Kd.R_drewN | apply Kd.R_drew)); exact HO170.out) (Kd.R_typed (by (with_reducible repeat (first | apply Kd.R_alloc | apply Kd.R_drewN | apply Kd.R_drew)); exact HO_5.out)) (by decide) hg); have n1_ := Aside0.mk (hb); have n2_ := Aside0.mk (ho); clear HO170; clear HB; clear HO_5; have HO170 := n0_; have HB := n1_; have HO181 := n2_; clear n0_ n1_ n2_; clear ho hb hg hat))
                                go_ret
                                exact ⟨_, by first | rfl | (simp [errW_none, errW_some] <;> rfl) | (simp [*, errW_none, errW_some] <;> rfl), by (with_reducible repeat (first | apply Kd.R_alloc | apply Kd.R_drewN | apply Kd.R_drew)); exact HO181.out, by repeat (first | (with_reducible first | exact HB.out | apply below_alloc | apply pw_below_drewN | apply below_drew1) | exact HB.out)⟩
                              · rw [if_neg c63] at H
                                exact absurd H (by simp)
                            · rw [if_neg c61] at H
                              exact absurd H (by simp)
                          · rw [if_neg c60] at H
                            have c60b0 : (x6_1 == x7_1) = false := beq_eq_false_iff_ne.mpr c60
                            have c60b1 : (x6_1 != x7_1) = true := bne_iff_ne.mpr c60
                            by_cases c71 : x5_1.length < 8796093022208
                            · rw [if_pos c71] at H
                              have LMc71 := Aside0.mk c71
                              clear c71
                              obtain ⟨y182, hy182⟩ : ∃ y_ : List ByteArray, y_ = (x5_1 ++ [t171]) := ⟨_, rfl⟩
                              replace H : (some y182) = some r := by first | (rw [hy182]; with_reducible exact H) | (have H2_ := (Option.bind_some _ _).symm.trans H; rw [hy182]; with_reducible exact H2_) | (have H2_ := (Option.bind_some _ _).symm.trans H; with_reducible exact H2_) | with_reducible exact H | (rw [hy182]; exact H) | exact H
                              have Ny182 := Aside0.mk hy182
                              clear hy182
                              obtain rfl := Option.some.inj H
                              try go_wp2
                              have n0_ := Aside0.mk (Kd.R_drew HO_5.out)
                              have n1_ := Aside0.mk (below_drew1 HB.out)
                              clear HO_5
                              clear HB
                              have HO_5 := n0_
                              have HB := n1_
                              clear n0_ n1_
                              have p166 : 0 ≤ (x6_1 : Int) := of_decide_eq_true (by first | (with_reducible assumption) | assumption)
                              have q166 : x6_1 < (l0.length : Int) := of_decide_eq_true (by first | (with_reducible assumption) | assumption)
                              obtain ⟨ad166, A166_0, c166_0, e166, hx166_0, hl166_0, hi166_0⟩ := excelize_squashSqref.at_X HR0.out x6_1 p166 q166
                              have hw166_0 := hx166_0
                              cases e166
                              replace hx166_0 := (HB.out.cell (World.block_lt_of_cell? w _ hx166_0)).trans hx166_0
                              have HR166_0 := Aside0.mk hi166_0
                              have HC166_0 := Aside0.mk hl166_0
                              clear hi166_0 hl166_0
                              replace p166 := eq_true p166
                              replace q166 := eq_true q166
                              have p167 : 0 ≤ (x7_1 : Int) := of_decide_eq_true (by first | (with_reducible assumption) | assumption)
                              have q167 : x7_1 < (l0.length : Int) := of_decide_eq_true (by first | (with_reducible assumption) | assumption)
                              obtain ⟨ad167, A167_0, c167_0, e167, hx167_0, hl167_0, hi167_0⟩ := excelize_squashSqref.at_X HR0.out x7_1 p167 q167
                              have hw167_0 := hx167_0
                              obtain rfl : ad166 = ad167 := (by injection e167)
                              replace hx167_0 := (HB.out.cell (World.block_lt_of_cell? w _ hx167_0)).trans hx167_0
                              have HR167_0 := Aside0.mk hi167_0
                              have HC167_0 := Aside0.mk hl167_0
                              clear hi167_0 hl167_0
                              replace p167 := eq_true p167
                              replace q167 := eq_true q167
                              refine start_ (n := 15) (S := fun w' => w'.cell? (ad166.add (x6_1).toNat) = some (.slice A166_0 (rd_L3 l0 x6_1).length c166_0) ∧ w'.cell? (ad166.add (x7_1).toNat) = some (.slice A167_0 (rd_L3 l0 x7_1).length c167_0)) (ds := []) #[false, false, false, false, false, false, false, false, false, false, false, false, false, false, false] (by kernel_rfl) rfl rfl ⟨((HB.out.cell (World.block_lt_of_cell? w _ hw166_0)).trans hw166_0), ((HB.out.cell (World.block_lt_of_cell? w _ hw167_0)).trans hw167_0)⟩ (fun hHeld => ?_); refine with_tabW excelize_squashSqref.tab18 excelize_squashSqref.bits18 (fun HT_ HW_ => ?_)
                              generalize wr.drew = w72 at HO_5 HB HR166_0 HR167_0 hx166_0 hx167_0 hHeld ⊢
                              refine pure_ (i := 0) (N := some 112) (v := ?_) (a' := ?_) #[true, false, false, false, false, false, false, false, false, false, false, false, false, false, false] rfl rfl (any_of HT_.out (by kernel_rfl)) (fun _ _ _ h => h) (Or.inl ⟨by rfl, ?_⟩) ?_ ?_
                              rotate_left
                              · intro w'
                                go_simp
                                with_reducible rfl
                              rotate_left
                              · simp only [Act.put, List.setIfInBounds_toArray, List.set_cons_zero, List.set_cons_succ, i64_w, i32_w]
                                rfl
                              refine pure_ (i := 1) (N := some 113) (v := ?_) (a' := ?_) #[true, true, false, false, false, false, false, false, false, false, false, false, false, false, false] rfl rfl (any_of HT_.out (by kernel_rfl)) (fun _ _ _ h => h) (Or.inl ⟨by rfl, ?_⟩) ?_ ?_
                              rotate_left
                              · intro w'
                                go_simp
                                with_reducible rfl
                              rotate_left
                              · simp only [Act.put, List.setIfInBounds_toArray, List.set_cons_zero, List.set_cons_succ, i64_w, i32_w]
                                rfl
                              refine pure_ (i := 2) (N := some 114) (v := ?_) (a' := ?_) #[true, true, true, false, false, false, false, false, false, false, false, false, false, false, false] rfl rfl (any_of HT_.out (by kernel_rfl)) (fun _ _ _ h => h) (Or.inl ⟨by rfl, ?_⟩) ?_ ?_
                              rotate_left
                              · intro w'
                                go_simp
                                with_reducible rfl
                              rotate_left
                              · simp only [Act.put, List.setIfInBounds_toArray, List.set_cons_zero, List.set_cons_succ, i64_w, i32_w]
                                rfl
                              refine pure_ (i := 4) (N := some 116) (v := ?_) (a' := ?_) #[true, true, true, false, true, false, false, false, false, false, false, false, false, false, false] rfl rfl (any_of HT_.out (by kernel_rfl)) (fun _ _ _ h => h) (Or.inl ⟨by rfl, ?_⟩) ?_ ?_
                              rotate_left
                              · intro w'
                                go_simp
                                with_reducible rfl
                              rotate_left
                              · simp only [Act.put, List.setIfInBounds_toArray, List.set_cons_zero, List.set_cons_succ, i64_w, i32_w]
                                rfl
                              refine pure_ (i := 5) (N := some 117) (v := ?_) (a' := ?_) #[true, true, true, false, true, true, false, false, false, false, false, false, false, false, false] rfl rfl (any_of HT_.out (by kernel_rfl)) (fun _ _ _ h => h) (Or.inl ⟨by rfl, ?_⟩) ?_ ?_
                              rotate_left
                              · intro w'
                                go_simp
                                with_reducible rfl
                              rotate_left
                              · simp only [Act.put, List.setIfInBounds_toArray, List.set_cons_zero, List.set_cons_succ, i64_w, i32_w]
                                rfl
                              refine pure_ (i := 6) (N := some 118) (v := ?_) (a' := ?_) #[true, true, true, false, true, true, true, false, false, false, false, false, false, false, false] rfl rfl (any_of HT_.out (by kernel_rfl)) (fun _ _ _ h => h) (Or.inl ⟨by rfl, ?_⟩) ?_ ?_
                              rotate_left
                              · intro w'
                                go_simp
                                with_reducible rfl
                              rotate_left
                              · simp only [Act.put, List.setIfInBounds_toArray, List.set_cons_zero, List.set_cons_succ, i64_w, i32_w]
                                rfl
                              refine take_ (i := 3) (N := some 115) (v := ?_) (a' := ?_) #[true, true, true, true, true, true, true, false, false, false, false, false, false, false, false] rfl rfl (take_ofW HT_.out HW_.out (by kernel_rfl)) (fun _ _ _ h => h) (Or.inl ⟨by rfl, ?_⟩) hHeld ?_ ?_
                              rotate_left
                              · rintro w' ⟨s0, s1⟩
                                go_simp
                                with_reducible rfl
                              rotate_left
                              · simp only [Act.put, List.setIfInBounds_toArray, List.set_cons_zero, List.set_cons_succ, i64_w, i32_w]
                                rfl
                              refine take_ (i := 7) (N := some 119) (v := ?_) (a' := ?_) #[true, true, true, true, true, true, true, true, false, false, false, false, false, false, false] rfl rfl (take_ofW HT_.out HW_.out (by kernel_rfl)) (fun _ _ _ h => h) (Or.inl ⟨by rfl, ?_⟩) hHeld ?_ ?_
                              rotate_left
                              · rintro w' ⟨s0, s1⟩
                                go_simp
                                with_reducible rfl
                              rotate_left
                              · simp only [Act.put, List.setIfInBounds_toArray, List.set_cons_zero, List.set_cons_succ, i64_w, i32_w]
                                rfl
                              refine one_ (i := 8) (N := some 120) #[true, true, true, true, true, true, true, true, true, false, false, false, false, false, false] rfl rfl (one_of HT_.out (by kernel_rfl)) (by decide) (fun K hK => ?_)
                              refine Full.append_full_step (w0 := w) w.heap.size (by rfl) (.tmp 115) (.tmp 119) 26 3 (.int .i64 0) 8 rfl Tryd.underlying26 info3 rfl (by decide) (by omega) (.slice A166_0 (rd_L3 l0 x6_1).length c166_0) (rd_L3 l0 x6_1) (rd_L3 l0 x7_1) _ _ _ (fun _ => True) (fun _ => False) rfl rfl ?aO ?aR (fun _ _ h => h) (fun _ h => h.elim) ?aF ?aB ?aS ?aL ?_
                              (case aR => repeat (first | exact (Kd.C_below HR167_0.out HB.out) | (with_reducible refine Kd.C_alloc ?_ _) | (with_reducible refine Kd.C_drewN ?_ _) | (with_reducible refine Kd.C_drew ?_)))
                              (case aB => exact (by repeat (first | (with_reducible first | exact HB.out | apply below_alloc | apply pw_below_drewN | apply below_drew1) | exact HB.out)))
                              (case aF => exact (fun _ _ => trivial))
                              (case aO => exact ⟨A166_0, by rw [HC166_0.out], by repeat (first | exact (Kd.C_below HR166_0.out HB.out) | (with_reducible refine Kd.C_alloc ?_ _) | (with_reducible refine Kd.C_drewN ?_ _) | (with_reducible refine Kd.C_drew ?_)), (by have hz_ := of_decide_eq_true (show decide (0 < ((rd_L3 l0 x6_1).length : Int)) = true by first | (with_reducible assumption) | assumption); omega), (by have hz_ := of_decide_eq_true (show decide (0 < ((rd_L3 l0 x7_1).length : Int)) = true by first | (with_reducible assumption) | assumption); omega)⟩)
                              (case aS => exact (below_size (by repeat (first | (with_reducible first | exact HB.out | apply below_alloc | apply pw_below_drewN | apply below_drew1) | exact HB.out))))
                              (case aL => have := LMc58.out; omega)
                              intro v169 w73 ho hb hg hat
                              rw [← Ny168.out] at ho
                              have n0_ := Aside0.mk (Kd.R_grown (by (with_reducible repeat (first | apply Kd.R_alloc | apply Kd.R_drewN | apply Kd.R_drew)); exact HO_5.out) hg (fun _ _ => by simp [Value.ownBlock]))
                              have n1_ := Aside0.mk (hb)
                              have n2_ := Aside0.mk (ho)
                              clear HO_5
                              clear HB
                              have HO_5 := n0_
                              have HB := n1_
                              have HO170 := n2_
                              clear n0_ n1_ n2_
                              clear ho hb hg hat
                              obtain ⟨Ao74, co74, eo74⟩ := Kd.R_slice HO170.out
                              (first | subst eo74 | (injection eo74 with f1_ f2_ f3_; have f4_ := f1_.symm; have f5_ := f3_.symm; clear f1_ f2_ f3_; subst f4_; subst f5_))
                              refine hK.out _ _ ⟨((HB.out.cell (World.block_lt_of_cell? w _ hw166_0)).trans hw166_0), ((HB.out.cell (World.block_lt_of_cell? w _ hw167_0)).trans hw167_0)⟩ (fun hHeld => ?_)
                              clear hK K
                              refine norm_ (a' := ?_) ?_ ?_
                              rotate_left
                              · show Act.put _ (some 120) _ = _
                                simp only [Act.put, List.setIfInBounds_toArray, List.set_cons_zero, List.set_cons_succ, i64_w, i32_w]
                                rfl
                              refine one_ (i := 9) (N := some 121) #[true, true, true, true, true, true, true, true, true, true, false, false, false, false, false] rfl rfl (one_of HT_.out (by kernel_rfl)) (by decide) (fun K hK => ?_)
                              refine goes_ Tryd.func72 (by kernel_rfl) rfl #[.slice Ao74 y168.length co74, .slice none 0 0] (by rfl) rfl rfl (by (try simp only [List.map_toArray, List.map_cons, List.map_nil]); first | done | rfl | (simp only [List.length_drop, List.length_take]; rfl)) ?_
                              refine (excelize_coordinatesToRangeRef.calls k1 _ _ y168 _ _ ([] : List Bool) t171 t172 _ ?side1 ?side2 ?side3 ?side4 A59.out).mono ?_
                              (case side1 => repeat (first | exact (Kd.R_reads' HO170.out).2.2 | (with_reducible refine Kd.C_alloc ?_ _) | (with_reducible refine Kd.C_drewN ?_ _) | (with_reducible refine Kd.C_drew ?_)))
                              (case side2 => exact (Kd.R_reads' HO170.out).2.1)
                              (case side3 => exact Kd.C_nil _ _)
                              (case side4 => exact Nat.le_refl _)
                              rintro e w75 ⟨rfl, hb⟩
                              refine ⟨_, rfl, ?_⟩
                              have n0_ := Aside0.mk (Kd.R_below (by (with_reducible repeat (first | apply Kd.R_alloc | apply Kd.R_drewN | apply Kd.R_drew)); exact HO_5.out) hb)
                              have n1_ := Aside0.mk (Kd.R_below (by (with_reducible repeat (first | apply Kd.R_alloc | apply Kd.R_drewN | apply Kd.R_drew)); exact HO170.out) hb)
                              have n2_ := Aside0.mk (below_step (by repeat (first | (with_reducible first | exact HB.out | apply below_alloc | apply pw_below_drewN | apply below_drew1) | exact HB.out)) hb)
                              clear HO_5
                              clear HO170
                              clear HB
                              have HO_5 := n0_
                              have HO170 := n1_
                              have HB := n2_
                              clear n0_ n1_ n2_
                              (try clear hb)
                              (try clear hb2)
                              (try clear hk)
                              (try clear hi)
                              (try simp only [errW_none, errW_some])
                              refine hK.out _ _ ⟨((HB.out.cell (World.block_lt_of_cell? w _ hw166_0)).trans hw166_0), ((HB.out.cell (World.block_lt_of_cell? w _ hw167_0)).trans hw167_0)⟩ (fun hHeld => ?_)
                              clear hK K
                              refine norm_ (a' := ?_) ?_ ?_
                              rotate_left
                              · show Act.put _ (some 121) _ = _
                                simp only [Act.put, List.setIfInBounds_toArray, List.set_cons_zero, List.set_cons_succ, i64_w, i32_w]
                                rfl
                              refine pure_ (i := 10) (N := some 111) (v := ?_) (a' := ?_) #[true, true, true, true, true, true, true, true, true, true, true, false, false, false, false] rfl rfl (any_of HT_.out (by kernel_rfl)) (fun _ _ _ h => h) (Or.inl ⟨by rfl, ?_⟩) ?_ ?_
                              rotate_left
                              · intro w'
                                go_simp
                                with_reducible rfl
                              rotate_left
                              · simp only [Act.put, List.setIfInBounds_toArray, List.set_cons_zero, List.set_cons_succ, i64_w, i32_w]
                                rfl
                              refine pure_ (i := 11) (N := some 122) (v := ?_) (a' := ?_) #[true, true, true, true, true, true, true, true, true, true, true, true, false, false, false] rfl rfl (any_of HT_.out (by kernel_rfl)) (fun _ _ _ h => h) (Or.inl ⟨by rfl, ?_⟩) ?_ ?_
                              rotate_left
                              · intro w'
                                go_simp
                                with_reducible rfl
                              rotate_left
                              · simp only [Act.put, List.setIfInBounds_toArray, List.set_cons_zero, List.set_cons_succ, i64_w, i32_w]
                                rfl
                              refine pure_ (i := 12) (N := some 123) (v := ?_) (a' := ?_) #[true, true, true, true, true, true, true, true, true, true, true, true, true, false, false] rfl rfl (any_of HT_.out (by kernel_rfl)) (fun _ _ _ h => h) (Or.inl ⟨by rfl, ?_⟩) ?_ ?_
                              rotate_left
                              · intro w'
                                go_simp
                                with_reducible rfl
                              rotate_left
                              · simp only [Act.put, List.setIfInBounds_toArray, List.set_cons_zero, List.set_cons_succ, i64_w, i32_w]
                                rfl
                              refine pure_ (i := 13) (N := some 11) (v := ?_) (a' := ?_) #[true, true, true, true, true, true, true, true, true, true, true, true, true, true, false] rfl rfl (any_of HT_.out (by kernel_rfl)) (fun _ _ _ h => h) (Or.inl ⟨by rfl, ?_⟩) ?_ ?_
                              rotate_left
                              · intro w'
                                go_simp
                                with_reducible rfl
                              rotate_left
                              · simp only [Act.put, List.setIfInBounds_toArray, List.set_cons_zero, List.set_cons_succ, i64_w, i32_w]
                                rfl
                              refine pure_ (i := 14) (N := some 12) (v := ?_) (a' := ?_) #[true, true, true, true, true, true, true, true, true, true, true, true, true, true, true] rfl rfl (any_of HT_.out (by kernel_rfl)) (fun _ _ _ h => h) (Or.inl ⟨by rfl, ?_⟩) ?_ ?_
                              rotate_left
                              · intro w'
                                go_simp
                                with_reducible rfl
                              rotate_left
                              · simp only [Act.put, List.setIfInBounds_toArray, List.set_cons_zero, List.set_cons_succ, i64_w, i32_w]
                                rfl
                              refine done_ (done_of HT_.out (by kernel_rfl)) ?_
                              try go_wp2_with (first | ((with_reducible refine gate_builtin (b := .append) (xs := #[.tmp 143, .tmp 145]) rfl ?_); at_builtin; refine Kd.R_append Kd.string (w0 := w) w.heap.size rfl (.tmp 143) (.tmp 145) 39 9 (.string ⟨#[]⟩) 16 rfl Tryd.underlying39 info9 rfl (by decide) (by omega) u5 x5_1 t171 [.string t171] (fun _ => True) (fun _ => False) rfl rfl ?aP (fun _ hk => hk.elim) ?aF ?aO ?aB ?aS ?aL ?_; (case aP => exact rfl); (case aB => exact (by repeat (first | (with_reducible first | exact HB.out | apply below_alloc | apply pw_below_drewN | apply below_drew1) | exact HB.out))); (case aF => exact (fun _ _ => trivial)); (case aO => exact (by (with_reducible repeat (first | apply Kd.R_alloc | apply Kd.R_drewN | apply Kd.R_drew)); exact HO_5.out)); (case aS => exact (below_size (by repeat (first | (with_reducible first | exact HB.out | apply below_alloc | apply pw_below_drewN | apply below_drew1) | exact HB.out)))); (case aL => have := LMc71.out; omega); intro v183 w76 ho hb hg hat; rw [← Ny182.out] at ho; have n0_ := Aside0.mk (Kd.R_over' (by (with_reducible repeat (first | apply Kd.R_alloc | apply Kd.R_drewN | apply Kd.R_drew)); exact HO170.out) (Kd.R_typed (by (with_reducible repeat (first | apply Kd.R_alloc | apply Kd.R_drewN | apply Kd.R_drew)); exact HO_5.out)) (by decide) hg); have n1_ := Aside0.mk (hb); have n2_ := Aside0.mk (ho); clear HO170; clear HB; clear HO_5; have HO170 := n0_; have HB := n1_; have HO184 := n2_; clear n0_ n1_ n2_; clear ho hb hg hat))
                              go_ret
                              exact ⟨_, by first | rfl | (simp [errW_none, errW_some] <;> rfl) | (simp [*, errW_none, errW_some] <;> rfl), by (with_reducible repeat (first | apply Kd.R_alloc | apply Kd.R_drewN | apply Kd.R_drew)); exact HO184.out, by repeat (first | (with_reducible first | exact HB.out | apply below_alloc | apply pw_below_drewN | apply below_drew1) | exact HB.out)⟩
                            · rw [if_neg c71] at H
                              exact absurd H (by simp)
                        · rw [if_neg c58] at H
                          exact absurd H (by simp)
                      · rw [if_neg c57] at H
                        exact absurd H (by simp)
                    · rw [if_neg c56] at H
                      exact absurd H (by simp)
                  · rw [if_neg c55] at H
                    exact absurd H (by simp)
                · rw [if_neg c54] at H
                  exact absurd H (by simp)
              · rw [if_neg c53] at H
                exact absurd H (by simp)
            · rw [if_neg c52] at H
              exact absurd H (by simp)

end Go.Proofs.YtfbenlenihlpbaaDoor.PSq
