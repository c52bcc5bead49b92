-- PRINTED BY print.sh 35421559b90ae4d0a3588c463048766b98c2df88dd9212a6774a882060cdf62d: not written by this session
import Derived.Test.YtjefbpfpobgmaaaPFnJulianNextx0
namespace Go.Proofs.Ytjefbpfpobgmaaa.PFnJulianNext
open Go.RowKit Go.Proofs.YtjefbpfpobgmaaaW.PrintWords Go.Proofs.YtjefbpfpobgmaaaW.PrintLast Go.Proofs.YtjefbpfpobgmaaaW.PrintMore
attribute [local go_sem] max2_int min2_int max_two min_two max_three min_three max_four min_four   -- for this text's walks alone
set_option linter.unusedVariables false
set_option linter.unusedSimpArgs false

/-! ### laws_combSmall: function 6 -/
def laws_combSmall.f (a0 : Int) (a1 : Int) : Option (Int) := if (wrap64 (a1 + 1)) = 0 then (none) else (some (Int.tmod (wrap64 ((wrap64 ((Int.tmod a0 (wrap64 (a1 + 1))) + a1)) + 1)) (wrap64 (a1 + 1))))
set_option maxHeartbeats 8000000 in
set_option maxRecDepth 100000 in
theorem laws_combSmall.calls (a0 : Int) (a1 : Int) (r : Int) (w : World) (h : laws_combSmall.f a0 a1 = some r) :
    Calls Try.prog 6 #[.int .i64 a0, .int .i64 a1] w fun e w' => e = .returned (.int .i64 r) ∧ Drawn0 w w' := by
  have H : (if (wrap64 (a1 + 1)) = 0 then (none) else (some (Int.tmod (wrap64 ((wrap64 ((Int.tmod a0 (wrap64 (a1 + 1))) + a1)) + 1)) (wrap64 (a1 + 1))))) = some r := h
  clear h
  by_cases c3 : (wrap64 (a1 + 1)) = 0
  · rw [if_pos c3] at H
    exact absurd H (by simp)
  · rw [if_neg c3] at H
    have c3b0 : ((wrap64 (a1 + 1)) == 0) = false := beq_eq_false_iff_ne.mpr c3
    have c3b1 : ((wrap64 (a1 + 1)) != 0) = true := bne_iff_ne.mpr c3
    obtain rfl := Option.some.inj H
    go_enter Try.func6, Try.ntmps6
    go_wp2
    go_ret
    exact ⟨by first | rfl | (simp; done) | (simp [*]; done), by repeat (first | exact Drawn0.refl _ | apply Drawn0.step)⟩

/-! ### excelize_doTheFliegelAndVanFlandernAlgorithm: function 33 -/
def excelize_doTheFliegelAndVanFlandernAlgorithm.f (a0 : Int) : Option (Int × Int × Int) := some (wrap64 ((wrap64 ((wrap64 ((wrap64 ((wrap64 (a0 + 68569)) - (wrap64 (Int.tdiv (wrap64 ((wrap64 (146097 * (wrap64 (Int.tdiv (wrap64 (4 * (wrap64 (a0 + 68569)))) 146097)))) + 3)) 4)))) - (wrap64 (Int.tdiv (wrap64 (1461 * (wrap64 (Int.tdiv (wrap64 (4000 * (wrap64 ((wrap64 ((wrap64 (a0 + 68569)) - (wrap64 (Int.tdiv (wrap64 ((wrap64 (146097 * (wrap64 (Int.tdiv (wrap64 (4 * (wrap64 (a0 + 68569)))) 146097)))) + 3)) 4)))) + 1)))) 1461001)))) 4)))) + 31)) - (wrap64 (Int.tdiv (wrap64 (2447 * (wrap64 (Int.tdiv (wrap64 (80 * (wrap64 ((wrap64 ((wrap64 ((wrap64 (a0 + 68569)) - (wrap64 (Int.tdiv (wrap64 ((wrap64 (146097 * (wrap64 (Int.tdiv (wrap64 (4 * (wrap64 (a0 + 68569)))) 146097)))) + 3)) 4)))) - (wrap64 (Int.tdiv (wrap64 (1461 * (wrap64 (Int.tdiv (wrap64 (4000 * (wrap64 ((wrap64 ((wrap64 (a0 + 68569)) - (wrap64 (Int.tdiv (wrap64 ((wrap64 (146097 * (wrap64 (Int.tdiv (wrap64 (4 * (wrap64 (a0 + 68569)))) 146097)))) + 3)) 4)))) + 1)))) 1461001)))) 4)))) + 31)))) 2447)))) 80))), wrap64 ((wrap64 ((wrap64 (Int.tdiv (wrap64 (80 * (wrap64 ((wrap64 ((wrap64 ((wrap64 (a0 + 68569)) - (wrap64 (Int.tdiv (wrap64 ((wrap64 (146097 * (wrap64 (Int.tdiv (wrap64 (4 * (wrap64 (a0 + 68569)))) 146097)))) + 3)) 4)))) - (wrap64 (Int.tdiv (wrap64 (1461 * (wrap64 (Int.tdiv (wrap64 (4000 * (wrap64 ((wrap64 ((wrap64 (a0 + 68569)) - (wrap64 (Int.tdiv (wrap64 ((wrap64 (146097 * (wrap64 (Int.tdiv (wrap64 (4 * (wrap64 (a0 + 68569)))) 146097)))) + 3)) 4)))) + 1)))) 1461001)))) 4)))) + 31)))) 2447)) + 2)) - (wrap64 (12 * (wrap64 (Int.tdiv (wrap64 (Int.tdiv (wrap64 (80 * (wrap64 ((wrap64 ((wrap64 ((wrap64 (a0 + 68569)) - (wrap64 (Int.tdiv (wrap64 ((wrap64 (146097 * (wrap64 (Int.tdiv (wrap64 (4 * (wrap64 (a0 + 68569)))) 146097)))) + 3)) 4)))) - (wrap64 (Int.tdiv (wrap64 (1461 * (wrap64 (Int.tdiv (wrap64 (4000 * (wrap64 ((wrap64 ((wrap64 (a0 + 68569)) - (wrap64 (Int.tdiv (wrap64 ((wrap64 (146097 * (wrap64 (Int.tdiv (wrap64 (4 * (wrap64 (a0 + 68569)))) 146097)))) + 3)) 4)))) + 1)))) 1461001)))) 4)))) + 31)))) 2447)) 11))))), wrap64 ((wrap64 ((wrap64 (100 * (wrap64 ((wrap64 (Int.tdiv (wrap64 (4 * (wrap64 (a0 + 68569)))) 146097)) - 49)))) + (wrap64 (Int.tdiv (wrap64 (4000 * (wrap64 ((wrap64 ((wrap64 (a0 + 68569)) - (wrap64 (Int.tdiv (wrap64 ((wrap64 (146097 * (wrap64 (Int.tdiv (wrap64 (4 * (wrap64 (a0 + 68569)))) 146097)))) + 3)) 4)))) + 1)))) 1461001)))) + (wrap64 (Int.tdiv (wrap64 (Int.tdiv (wrap64 (80 * (wrap64 ((wrap64 ((wrap64 ((wrap64 (a0 + 68569)) - (wrap64 (Int.tdiv (wrap64 ((wrap64 (146097 * (wrap64 (Int.tdiv (wrap64 (4 * (wrap64 (a0 + 68569)))) 146097)))) + 3)) 4)))) - (wrap64 (Int.tdiv (wrap64 (1461 * (wrap64 (Int.tdiv (wrap64 (4000 * (wrap64 ((wrap64 ((wrap64 (a0 + 68569)) - (wrap64 (Int.tdiv (wrap64 ((wrap64 (146097 * (wrap64 (Int.tdiv (wrap64 (4 * (wrap64 (a0 + 68569)))) 146097)))) + 3)) 4)))) + 1)))) 1461001)))) 4)))) + 31)))) 2447)) 11))))
set_option maxHeartbeats 8000000 in
set_option maxRecDepth 100000 in
theorem excelize_doTheFliegelAndVanFlandernAlgorithm.calls (a0 : Int) (r1 : Int) (r2 : Int) (r3 : Int) (w : World) (h : excelize_doTheFliegelAndVanFlandernAlgorithm.f a0 = some (r1, r2, r3)) :
    Calls Try.prog 33 #[.int .i64 a0] w fun e w' => e = .returned (.tuple #[.int .i64 r1, .int .i64 r2, .int .i64 r3]) ∧ Drawn0 w w' := by
  have H : (some (wrap64 ((wrap64 ((wrap64 ((wrap64 ((wrap64 (a0 + 68569)) - (wrap64 (Int.tdiv (wrap64 ((wrap64 (146097 * (wrap64 (Int.tdiv (wrap64 (4 * (wrap64 (a0 + 68569)))) 146097)))) + 3)) 4)))) - (wrap64 (Int.tdiv (wrap64 (1461 * (wrap64 (Int.tdiv (wrap64 (4000 * (wrap64 ((wrap64 ((wrap64 (a0 + 68569)) - (wrap64 (Int.tdiv (wrap64 ((wrap64 (146097 * (wrap64 (Int.tdiv (wrap64 (4 * (wrap64 (a0 + 68569)))) 146097)))) + 3)) 4)))) + 1)))) 1461001)))) 4)))) + 31)) - (wrap64 (Int.tdiv (wrap64 (2447 * (wrap64 (Int.tdiv (wrap64 (80 * (wrap64 ((wrap64 ((wrap64 ((wrap64 (a0 + 68569)) - (wrap64 (Int.tdiv (wrap64 ((wrap64 (146097 * (wrap64 (Int.tdiv (wrap64 (4 * (wrap64 (a0 + 68569)))) 146097)))) + 3)) 4)))) - (wrap64 (Int.tdiv (wrap64 (1461 * (wrap64 (Int.tdiv (wrap64 (4000 * (wrap64 ((wrap64 ((wrap64 (a0 + 68569)) - (wrap64 (Int.tdiv (wrap64 ((wrap64 (146097 * (wrap64 (Int.tdiv (wrap64 (4 * (wrap64 (a0 + 68569)))) 146097)))) + 3)) 4)))) + 1)))) 1461001)))) 4)))) + 31)))) 2447)))) 80))), wrap64 ((wrap64 ((wrap64 (Int.tdiv (wrap64 (80 * (wrap64 ((wrap64 ((wrap64 ((wrap64 (a0 + 68569)) - (wrap64 (Int.tdiv (wrap64 ((wrap64 (146097 * (wrap64 (Int.tdiv (wrap64 (4 * (wrap64 (a0 + 68569)))) 146097)))) + 3)) 4)))) - (wrap64 (Int.tdiv (wrap64 (1461 * (wrap64 (Int.tdiv (wrap64 (4000 * (wrap64 ((wrap64 ((wrap64 (a0 + 68569)) - (wrap64 (Int.tdiv (wrap64 ((wrap64 (146097 * (wrap64 (Int.tdiv (wrap64 (4 * (wrap64 (a0 + 68569)))) 146097)))) + 3)) 4)))) + 1)))) 1461001)))) 4)))) + 31)))) 2447)) + 2)) - (wrap64 (12 * (wrap64 (Int.tdiv (wrap64 (Int.tdiv (wrap64 (80 * (wrap64 ((wrap64 ((wrap64 ((wrap64 (a0 + 68569)) - (wrap64 (Int.tdiv (wrap64 ((wrap64 (146097 * (wrap64 (Int.tdiv (wrap64 (4 * (wrap64 (a0 + 68569)))) 146097)))) + 3)) 4)))) - (wrap64 (Int.tdiv (wrap64 (1461 * (wrap64 (Int.tdiv (wrap64 (4000 * (wrap64 ((wrap64 ((wrap64 (a0 + 68569)) - (wrap64 (Int.tdiv (wrap64 ((wrap64 (146097 * (wrap64 (Int.tdiv (wrap64 (4 * (wrap64 (a0 + 68569)))) 146097)))) + 3)) 4)))) + 1)))) 1461001)))) 4)))) + 31)))) 2447)) 11))))), wrap64 ((wrap64 ((wrap64 (100 * (wrap64 ((wrap64 (Int.tdiv (wrap64 (4 * (wrap64 (a0 + 68569)))) 146097)) - 49)))) + (wrap64 (Int.tdiv (wrap64 (4000 * (wrap64 ((wrap64 ((wrap64 (a0 + 68569)) - (wrap64 (Int.tdiv (wrap64 ((wrap64 (146097 * (wrap64 (Int.tdiv (wrap64 (4 * (wrap64 (a0 + 68569)))) 146097)))) + 3)) 4)))) + 1)))) 1461001)))) + (wrap64 (Int.tdiv (wrap64 (Int.tdiv (wrap64 (80 * (wrap64 ((wrap64 ((wrap64 ((wrap64 (a0 + 68569)) - (wrap64 (Int.tdiv (wrap64 ((wrap64 (146097 * (wrap64 (Int.tdiv (wrap64 (4 * (wrap64 (a0 + 68569)))) 146097)))) + 3)) 4)))) - (wrap64 (Int.tdiv (wrap64 (1461 * (wrap64 (Int.tdiv (wrap64 (4000 * (wrap64 ((wrap64 ((wrap64 (a0 + 68569)) - (wrap64 (Int.tdiv (wrap64 ((wrap64 (146097 * (wrap64 (Int.tdiv (wrap64 (4 * (wrap64 (a0 + 68569)))) 146097)))) + 3)) 4)))) + 1)))) 1461001)))) 4)))) + 31)))) 2447)) 11))))) = some (r1, r2, r3) := h
  clear h
  simp only [Option.some.injEq, Prod.mk.injEq] at H
  obtain ⟨rfl, rfl, rfl⟩ := H
  go_enter Try.func33, Try.ntmps33
  go_wp2
  go_ret3
  exact ⟨by first | rfl | (simp; done) | (simp [*]; done), by repeat (first | exact Drawn0.refl _ | apply Drawn0.step)⟩

/-! ### excelize_DoorJulian: function 21 -/
def excelize_DoorJulian.f (a0 : Int) : Option (Int × Int × Int) := (excelize_doTheFliegelAndVanFlandernAlgorithm.f a0).bind fun bt101 => (some (bt101.1, bt101.2.1, bt101.2.2))
set_option maxHeartbeats 8000000 in
set_option maxRecDepth 100000 in
theorem excelize_DoorJulian.calls (a0 : Int) (r1 : Int) (r2 : Int) (r3 : Int) (w : World) (h : excelize_DoorJulian.f a0 = some (r1, r2, r3)) :
    Calls Try.prog 21 #[.int .i64 a0] w fun e w' => e = .returned (.tuple #[.int .i64 r1, .int .i64 r2, .int .i64 r3]) ∧ Drawn0 w w' := by
  have H : ((excelize_doTheFliegelAndVanFlandernAlgorithm.f a0).bind fun bt101 => (some (bt101.1, bt101.2.1, bt101.2.2))) = some (r1, r2, r3) := h
  clear h
  replace H := Option.bind_eq_some_iff.mp H
  obtain ⟨⟨t101, t102, t103⟩, A20, H⟩ := H
  replace H : (some (t101, t102, t103)) = some (r1, r2, r3) := H
  have A2 := Aside0.mk A20
  clear A20
  simp only [Option.some.injEq, Prod.mk.injEq] at H
  obtain ⟨rfl, rfl, rfl⟩ := H
  go_enter Try.func21, Try.ntmps21
  go_wp2_with (first | ((with_reducible refine gate_callee (f := 33) rfl ?_); refine goesL_ (some 6) rfl rfl Try.func33 (by kernel_rfl) rfl #[.int .i64 a0] rfl (by (try simp only [List.map_toArray, List.map_cons, List.map_nil]); first | done | rfl | (simp only [List.length_drop, List.length_take]; rfl)) ?_; (with_reducible refine (excelize_doTheFliegelAndVanFlandernAlgorithm.calls a0 t101 t102 t103 _ A2.out).mono ?_); rintro e w' ⟨rfl, ⟨nd, rfl⟩⟩; refine ⟨_, rfl, ?_⟩))
  go_ret3
  exact ⟨by first | rfl | (simp; done) | (simp [*]; done), by repeat (first | exact Drawn0.refl _ | apply Drawn0.step)⟩

/-! ### impl_Julian: function 7 -/
def impl_Julian.f (a0 : Int) : Option (Int × Int × Int) := (excelize_DoorJulian.f a0).bind fun bt104 => (some (bt104.1, bt104.2.1, bt104.2.2))
set_option maxHeartbeats 8000000 in
set_option maxRecDepth 100000 in
theorem impl_Julian.calls (a0 : Int) (r1 : Int) (r2 : Int) (r3 : Int) (w : World) (h : impl_Julian.f a0 = some (r1, r2, r3)) :
    Calls Try.prog 7 #[.int .i64 a0] w fun e w' => e = .returned (.tuple #[.int .i64 r1, .int .i64 r2, .int .i64 r3]) ∧ Drawn0 w w' := by
  have H : ((excelize_DoorJulian.f a0).bind fun bt104 => (some (bt104.1, bt104.2.1, bt104.2.2))) = some (r1, r2, r3) := h
  clear h
  replace H := Option.bind_eq_some_iff.mp H
  obtain ⟨⟨t104, t105, t106⟩, A20, H⟩ := H
  replace H : (some (t104, t105, t106)) = some (r1, r2, r3) := H
  have A2 := Aside0.mk A20
  clear A20
  simp only [Option.some.injEq, Prod.mk.injEq] at H
  obtain ⟨rfl, rfl, rfl⟩ := H
  go_enter Try.func7, Try.ntmps7
  go_wp2_with (first | ((with_reducible refine gate_callee (f := 21) rfl ?_); refine goesL_ (some 6) rfl rfl Try.func21 (by kernel_rfl) rfl #[.int .i64 a0] rfl (by (try simp only [List.map_toArray, List.map_cons, List.map_nil]); first | done | rfl | (simp only [List.length_drop, List.length_take]; rfl)) ?_; (with_reducible refine (excelize_DoorJulian.calls a0 t104 t105 t106 _ A2.out).mono ?_); rintro e w' ⟨rfl, ⟨nd, rfl⟩⟩; refine ⟨_, rfl, ?_⟩))
  go_ret3
  exact ⟨by first | rfl | (simp; done) | (simp [*]; done), by repeat (first | exact Drawn0.refl _ | apply Drawn0.step)⟩

/-! ### spec_DayLeap: function 34 -/
def spec_DayLeap.f (a0 : Int) : Option (Bool) := if (Int.tmod a0 4) = 0 then (if (Int.tmod a0 100) = 0 then (some ((Int.tmod a0 400) == 0)) else (some true)) else (some false)
set_option maxHeartbeats 8000000 in
set_option maxRecDepth 100000 in
theorem spec_DayLeap.calls (a0 : Int) (r : Bool) (w : World) (h : spec_DayLeap.f a0 = some r) :
    Calls Try.prog 34 #[.int .i64 a0] w fun e w' => e = .returned (.bool r) ∧ Drawn0 w w' := by
  have H : (if (Int.tmod a0 4) = 0 then (if (Int.tmod a0 100) = 0 then (some ((Int.tmod a0 400) == 0)) else (some true)) else (some false)) = some r := h
  clear h
  by_cases c2 : (Int.tmod a0 4) = 0
  · rw [if_pos c2] at H
    have c2b0 : ((Int.tmod a0 4) == 0) = true := beq_iff_eq.mpr c2
    have c2b1 : ((Int.tmod a0 4) != 0) = false := bne_eq_false_iff_eq.mpr c2
    clear c2
    by_cases c3 : (Int.tmod a0 100) = 0
    · rw [if_pos c3] at H
      have c3b0 : ((Int.tmod a0 100) == 0) = true := beq_iff_eq.mpr c3
      have c3b1 : ((Int.tmod a0 100) != 0) = false := bne_eq_false_iff_eq.mpr c3
      clear c3
      obtain rfl := Option.some.inj H
      go_enter Try.func34, Try.ntmps34
      go_wp2
      go_ret
      exact ⟨by first | rfl | (simp; done) | (simp [*]; done), by repeat (first | exact Drawn0.refl _ | apply Drawn0.step)⟩
    · rw [if_neg c3] at H
      have c3b0 : ((Int.tmod a0 100) == 0) = false := beq_eq_false_iff_ne.mpr c3
      have c3b1 : ((Int.tmod a0 100) != 0) = true := bne_iff_ne.mpr c3
      obtain rfl := Option.some.inj H
      go_enter Try.func34, Try.ntmps34
      go_wp2
      go_ret
      exact ⟨by first | rfl | (simp; done) | (simp [*]; done), by repeat (first | exact Drawn0.refl _ | apply Drawn0.step)⟩
  · rw [if_neg c2] at H
    have c2b0 : ((Int.tmod a0 4) == 0) = false := beq_eq_false_iff_ne.mpr c2
    have c2b1 : ((Int.tmod a0 4) != 0) = true := bne_iff_ne.mpr c2
    obtain rfl := Option.some.inj H
    go_enter Try.func34, Try.ntmps34
    go_wp2
    go_ret
    exact ⟨by first | rfl | (simp; done) | (simp [*]; done), by repeat (first | exact Drawn0.refl _ | apply Drawn0.step)⟩

/-! ### spec_DayCount: function 22 -/
mutual
def spec_DayCount.j0 : Nat → Int → Int → Bool → Option (Int)
  | 0, _, _, _ => none
  | k + 1, x0, x1, x5 => if x5 = true then (some 0) else (if x1 = 2 then ((spec_DayLeap.f x0).bind fun t107 => (spec_DayCount.j1 k x1 t107)) else (spec_DayCount.j1 k x1 false))
def spec_DayCount.j1 : Nat → Int → Bool → Option (Int)
  | 0, _, _ => none
  | k + 1, x1, x12 => if x12 = true then (some 29) else (if x1 = 2 then (some 28) else (if x1 = 4 then (some 30) else (if x1 = 6 then (some 30) else (if x1 = 9 then (some 30) else (if x1 = 11 then (some 30) else (some 31))))))
end
def spec_DayCount.f (k : Nat) (a0 : Int) (a1 : Int) : Option (Int) := if a1 < 1 then (spec_DayCount.j0 k a0 a1 true) else (spec_DayCount.j0 k a0 a1 (decide (a1 > 12)))
theorem spec_DayCount.mono_l : ∀ k, (∀ y0 y1 y2, LeO (spec_DayCount.j0 k y0 y1 y2) (spec_DayCount.j0 (k + 1) y0 y1 y2)) ∧ (∀ y0 y1, LeO (spec_DayCount.j1 k y0 y1) (spec_DayCount.j1 (k + 1) y0 y1))
  | 0 => ⟨fun _ _ _ r h => by simp [spec_DayCount.j0] at h, fun _ _ r h => by simp [spec_DayCount.j1] at h⟩
  | k + 1 => by
    obtain ⟨ih0, ih1⟩ := spec_DayCount.mono_l k
    refine ⟨?_, ?_⟩
    · intro y0 y1 y2
      unfold spec_DayCount.j0
      repeat' first
      | (with_reducible exact ih0 _ _ _)
      | (with_reducible exact ih1 _ _)
      | (with_reducible exact LeO.refl _)
      | (with_reducible exact LeO.none _)
      | (with_reducible refine LeO.ite ?_ ?_)
      | (with_reducible refine LeO.bind ?_ (fun _ => ?_))
      | exact ih0 _ _ _
      | exact ih1 _ _
      | exact LeO.none _
      | refine LeO.ite ?_ ?_
      | refine LeO.bind ?_ (fun _ => ?_)
    · intro y0 y1
      unfold spec_DayCount.j1
      repeat' first
      | (with_reducible exact ih0 _ _ _)
      | (with_reducible exact ih1 _ _)
      | (with_reducible exact LeO.refl _)
      | (with_reducible exact LeO.none _)
      | (with_reducible refine LeO.ite ?_ ?_)
      | (with_reducible refine LeO.bind ?_ (fun _ => ?_))
      | exact ih0 _ _ _
      | exact ih1 _ _
      | exact LeO.none _
      | refine LeO.ite ?_ ?_
      | refine LeO.bind ?_ (fun _ => ?_)
theorem spec_DayCount.mono : ∀ a0 a1 k, LeO (spec_DayCount.f k a0 a1) (spec_DayCount.f (k + 1) a0 a1) := by
  intro a0 a1 k
  obtain ⟨ih0, ih1⟩ := spec_DayCount.mono_l k
  unfold spec_DayCount.f
  repeat' first
      | (with_reducible exact ih0 _ _ _)
      | (with_reducible exact ih1 _ _)
      | (with_reducible exact LeO.refl _)
      | (with_reducible exact LeO.none _)
      | (with_reducible refine LeO.ite ?_ ?_)
      | (with_reducible refine LeO.bind ?_ (fun _ => ?_))
      | exact ih0 _ _ _
      | exact ih1 _ _
      | exact LeO.none _
      | refine LeO.ite ?_ ?_
      | refine LeO.bind ?_ (fun _ => ?_)
set_option maxHeartbeats 8000000 in
set_option maxRecDepth 100000 in
theorem spec_DayCount.calls (k : Nat) (a0 : Int) (a1 : Int) (r : Int) (w : World) (h : spec_DayCount.f k a0 a1 = some r) :
    Calls Try.prog 22 #[.int .i64 a0, .int .i64 a1] w fun e w' => e = .returned (.int .i64 r) ∧ Drawn0 w w' := by
  have H : (if a1 < 1 then (spec_DayCount.j0 k a0 a1 true) else (spec_DayCount.j0 k a0 a1 (decide (a1 > 12)))) = some r := h
  clear h
  have HC3 := Aside0.mk H
  clear H
  go_enter Try.func22, Try.ntmps22
  go_upto_region 1 with (fail)
  go_cut [5] (fun v5 wc => ∃ (kq : Nat) (x5_2 : Bool), v5 = .bool x5_2 ∧ Aside0 (spec_DayCount.j0 kq a0 a1 x5_2 = some r) ∧ Aside0 (kq ≤ k) ∧ Drawn0 w wc)
  case first =>
    have H := HC3.out
    clear HC3
    by_cases c4 : a1 < 1
    · rw [if_pos c4] at H
      have c4b0 : decide (a1 < 1) = true := decide_eq_true c4
      clear c4
      (first | rw [c4b0] | (simp only [i64_w, i32_w]; rw [c4b0]) | skip)
      have H' := Aside0.mk H
      clear H
      go_wp2
      go_meet
      case rel => exact ⟨_, (true), (by first | rfl | (simp; done) | (simp [*]; done)), H', ⟨by first | omega | exact Nat.le_refl _⟩, by repeat (first | exact Drawn0.refl _ | apply Drawn0.step)⟩
    · rw [if_neg c4] at H
      have c4b0 : decide (a1 < 1) = false := decide_eq_false c4
      clear c4
      (first | rw [c4b0] | (simp only [i64_w, i32_w]; rw [c4b0]) | skip)
      have H' := Aside0.mk H
      clear H
      go_wp2
      go_meet
      case rel => exact ⟨_, (decide (a1 > 12)), (by first | rfl | (simp; done) | (simp [*]; done)), H', ⟨by first | omega | exact Nat.le_refl _⟩, by repeat (first | exact Drawn0.refl _ | apply Drawn0.step)⟩
  case rest =>
    clear HC3
    try clear c2
    try clear p2
    try clear c4
    try clear c4b0
    obtain ⟨kq, x5_2, rfl, HA, HJ2, ⟨mc2, rfl⟩⟩ := hcut
    cases kq with
    | zero => exact absurd HA.out (by simp [spec_DayCount.j0])
    | succ kj2 =>
      have H := HA.out
      clear HA
      simp only [spec_DayCount.j0] at H
      by_cases c5 : x5_2 = true
      · subst c5
        have H1 : (some 0) = some r := by rw [if_pos rfl] at H; exact H
        clear H
        have H := H1
        clear H1
        obtain rfl := Option.some.inj H
        go_wp2
        go_ret
        exact ⟨by first | rfl | (simp; done) | (simp [*]; done), by repeat (first | exact Drawn0.refl _ | apply Drawn0.step)⟩
      · replace c5 := Bool.eq_false_iff.mpr c5
        subst c5
        have H1 : (if a1 = 2 then ((spec_DayLeap.f a0).bind fun t107 => (spec_DayCount.j1 kj2 a1 t107)) else (spec_DayCount.j1 kj2 a1 false)) = some r := by rw [if_neg (show ¬ (false = true) by decide)] at H; exact H
        clear H
        have H := H1
        clear H1
        have HC6 := Aside0.mk H
        clear H
        go_upto_region 3 with (fail)
        go_cut [12] (fun v12 wc => ∃ (kq : Nat) (x12_5 : Bool), v12 = .bool x12_5 ∧ Aside0 (spec_DayCount.j1 kq a1 x12_5 = some r) ∧ Aside0 (kq ≤ kj2) ∧ Drawn0 w wc)
        case first =>
          have H := HC6.out
          clear HC6
          by_cases c7 : a1 = 2
          · rw [if_pos c7] at H
            have c7b0 : (a1 == 2) = true := beq_iff_eq.mpr c7
            have c7b1 : (a1 != 2) = false := bne_eq_false_iff_eq.mpr c7
            clear c7
            (first | rw [c7b0] | (simp only [i64_w, i32_w]; rw [c7b0]) | skip)
            replace H := Option.bind_eq_some_iff.mp H
            obtain ⟨t107, A80, H⟩ := H
            replace H : (spec_DayCount.j1 kj2 a1 t107) = some r := H
            have A8 := Aside0.mk A80
            clear A80
            have H' := Aside0.mk H
            clear H
            go_wp2_with (first | (go_at_call 34; (with_reducible refine (spec_DayLeap.calls a0 t107 _ A8.out).mono ?_); rintro e w' ⟨rfl, ⟨nd, rfl⟩⟩))
            go_meet
            case rel => exact ⟨_, (t107), (by first | rfl | (simp; done) | (simp [*]; done)), H', ⟨by have := HJ2.out; first | omega | exact Nat.le_refl _⟩, by repeat (first | exact Drawn0.refl _ | apply Drawn0.step)⟩
          · rw [if_neg c7] at H
            have c7b0 : (a1 == 2) = false := beq_eq_false_iff_ne.mpr c7
            have c7b1 : (a1 != 2) = true := bne_iff_ne.mpr c7
            (first | rw [c7b0] | (simp only [i64_w, i32_w]; rw [c7b0]) | skip)
            have H' := Aside0.mk H
            clear H
            go_wp2
            go_meet
            case rel => exact ⟨_, (false), (by first | rfl | (simp; done) | (simp [*]; done)), H', ⟨by have := HJ2.out; first | omega | exact Nat.le_refl _⟩, by repeat (first | exact Drawn0.refl _ | apply Drawn0.step)⟩
        case rest =>
          clear HC6
          try clear c2
          try clear p2
          try clear c4
          try clear c4b0
          try clear c5
          try clear c7
          try clear c7b0
          try clear c7b1
          try clear p2
          obtain ⟨kq, x12_5, rfl, HA, HJ5, ⟨mc5, rfl⟩⟩ := hcut
          cases kq with
          | zero => exact absurd HA.out (by simp [spec_DayCount.j1])
          | succ kj5 =>
            have H := HA.out
            clear HA
            simp only [spec_DayCount.j1] at H
            by_cases c9 : x12_5 = true
            · subst c9
              have H1 : (some 29) = some r := by rw [if_pos rfl] at H; exact H
              clear H
              have H := H1
              clear H1
              obtain rfl := Option.some.inj H
              go_wp2
              go_ret
              exact ⟨by first | rfl | (simp; done) | (simp [*]; done), by repeat (first | exact Drawn0.refl _ | apply Drawn0.step)⟩
            · replace c9 := Bool.eq_false_iff.mpr c9
              subst c9
              have H1 : (if a1 = 2 then (some 28) else (if a1 = 4 then (some 30) else (if a1 = 6 then (some 30) else (if a1 = 9 then (some 30) else (if a1 = 11 then (some 30) else (some 31)))))) = some r := by rw [if_neg (show ¬ (false = true) by decide)] at H; exact H
              clear H
              have H := H1
              clear H1
              by_cases c10 : a1 = 2
              · rw [if_pos c10] at H
                have c10b0 : (a1 == 2) = true := beq_iff_eq.mpr c10
                have c10b1 : (a1 != 2) = false := bne_eq_false_iff_eq.mpr c10
                clear c10
                obtain rfl := Option.some.inj H
                go_wp2
                go_ret
                exact ⟨by first | rfl | (simp; done) | (simp [*]; done), by repeat (first | exact Drawn0.refl _ | apply Drawn0.step)⟩
              · rw [if_neg c10] at H
                have c10b0 : (a1 == 2) = false := beq_eq_false_iff_ne.mpr c10
                have c10b1 : (a1 != 2) = true := bne_iff_ne.mpr c10
                by_cases c11 : a1 = 4
                · rw [if_pos c11] at H
                  have c11b0 : (a1 == 4) = true := beq_iff_eq.mpr c11
                  have c11b1 : (a1 != 4) = false := bne_eq_false_iff_eq.mpr c11
                  clear c11
                  obtain rfl := Option.some.inj H
                  go_wp2
                  go_ret
                  exact ⟨by first | rfl | (simp; done) | (simp [*]; done), by repeat (first | exact Drawn0.refl _ | apply Drawn0.step)⟩
                · rw [if_neg c11] at H
                  have c11b0 : (a1 == 4) = false := beq_eq_false_iff_ne.mpr c11
                  have c11b1 : (a1 != 4) = true := bne_iff_ne.mpr c11
                  by_cases c12 : a1 = 6
                  · rw [if_pos c12] at H
                    have c12b0 : (a1 == 6) = true := beq_iff_eq.mpr c12
                    have c12b1 : (a1 != 6) = false := bne_eq_false_iff_eq.mpr c12
                    clear c12
                    obtain rfl := Option.some.inj H
                    go_wp2
                    go_ret
                    exact ⟨by first | rfl | (simp; done) | (simp [*]; done), by repeat (first | exact Drawn0.refl _ | apply Drawn0.step)⟩
                  · rw [if_neg c12] at H
                    have c12b0 : (a1 == 6) = false := beq_eq_false_iff_ne.mpr c12
                    have c12b1 : (a1 != 6) = true := bne_iff_ne.mpr c12
                    by_cases c13 : a1 = 9
                    · rw [if_pos c13] at H
                      have c13b0 : (a1 == 9) = true := beq_iff_eq.mpr c13
                      have c13b1 : (a1 != 9) = false := bne_eq_false_iff_eq.mpr c13
                      clear c13
                      obtain rfl := Option.some.inj H
                      go_wp2
                      go_ret
                      exact ⟨by first | rfl | (simp; done) | (simp [*]; done), by repeat (first | exact Drawn0.refl _ | apply Drawn0.step)⟩
                    · rw [if_neg c13] at H
                      have c13b0 : (a1 == 9) = false := beq_eq_false_iff_ne.mpr c13
                      have c13b1 : (a1 != 9) = true := bne_iff_ne.mpr c13
                      by_cases c14 : a1 = 11
                      · rw [if_pos c14] at H
                        have c14b0 : (a1 == 11) = true := beq_iff_eq.mpr c14
                        have c14b1 : (a1 != 11) = false := bne_eq_false_iff_eq.mpr c14
                        clear c14
                        obtain rfl := Option.some.inj H
                        go_wp2
                        go_ret
                        exact ⟨by first | rfl | (simp; done) | (simp [*]; done), by repeat (first | exact Drawn0.refl _ | apply Drawn0.step)⟩
                      · rw [if_neg c14] at H
                        have c14b0 : (a1 == 11) = false := beq_eq_false_iff_ne.mpr c14
                        have c14b1 : (a1 != 11) = true := bne_iff_ne.mpr c14
                        obtain rfl := Option.some.inj H
                        go_wp2
                        go_ret
                        exact ⟨by first | rfl | (simp; done) | (simp [*]; done), by repeat (first | exact Drawn0.refl _ | apply Drawn0.step)⟩

/-! ### spec_DayNext: function 8 -/
def spec_DayNext.f (k : Nat) (a0 : Int) (a1 : Int) (a2 : Int) : Option (Int × Int × Int) := (spec_DayCount.f k a2 a1).bind fun t108 => (if a0 < t108 then (some (wrap64 (a0 + 1), a1, a2)) else (if a1 < 12 then (some (1, wrap64 (a1 + 1), a2)) else (some (1, 1, wrap64 (a2 + 1)))))
theorem spec_DayNext.mono : ∀ a0 a1 a2 k, LeO (spec_DayNext.f k a0 a1 a2) (spec_DayNext.f (k + 1) a0 a1 a2) := by
  intro a0 a1 a2 k
  unfold spec_DayNext.f
  repeat' first
      | (with_reducible exact spec_DayCount.mono _ _ _)
      | (with_reducible exact LeO.refl _)
      | (with_reducible exact LeO.none _)
      | (with_reducible refine LeO.ite ?_ ?_)
      | (with_reducible refine LeO.bind ?_ (fun _ => ?_))
      | exact spec_DayCount.mono _ _ _
      | exact LeO.none _
      | refine LeO.ite ?_ ?_
      | refine LeO.bind ?_ (fun _ => ?_)
set_option maxHeartbeats 8000000 in
set_option maxRecDepth 100000 in
theorem spec_DayNext.calls (k : Nat) (a0 : Int) (a1 : Int) (a2 : Int) (r1 : Int) (r2 : Int) (r3 : Int) (w : World) (h : spec_DayNext.f k a0 a1 a2 = some (r1, r2, r3)) :
    Calls Try.prog 8 #[.int .i64 a0, .int .i64 a1, .int .i64 a2] w fun e w' => e = .returned (.tuple #[.int .i64 r1, .int .i64 r2, .int .i64 r3]) ∧ Drawn0 w w' := by
  have H : ((spec_DayCount.f k a2 a1).bind fun t108 => (if a0 < t108 then (some (wrap64 (a0 + 1), a1, a2)) else (if a1 < 12 then (some (1, wrap64 (a1 + 1), a2)) else (some (1, 1, wrap64 (a2 + 1)))))) = some (r1, r2, r3) := h
  clear h
  replace H := Option.bind_eq_some_iff.mp H
  obtain ⟨t108, A40, H⟩ := H
  replace H : (if a0 < t108 then (some (wrap64 (a0 + 1), a1, a2)) else (if a1 < 12 then (some (1, wrap64 (a1 + 1), a2)) else (some (1, 1, wrap64 (a2 + 1))))) = some (r1, r2, r3) := H
  have A4 := Aside0.mk A40
  clear A40
  by_cases c5 : a0 < t108
  · rw [if_pos c5] at H
    have c5b0 : decide (a0 < t108) = true := decide_eq_true c5
    clear c5
    simp only [Option.some.injEq, Prod.mk.injEq] at H
    obtain ⟨rfl, rfl, rfl⟩ := H
    go_enter Try.func8, Try.ntmps8
    go_wp2_with (first | ((with_reducible refine gate_callee (f := 22) rfl ?_); refine goesL_ (some 13) rfl rfl Try.func22 (by kernel_rfl) rfl #[.int .i64 a2, .int .i64 a1] rfl (by (try simp only [List.map_toArray, List.map_cons, List.map_nil]); first | done | rfl | (simp only [List.length_drop, List.length_take]; rfl)) ?_; (with_reducible refine (spec_DayCount.calls k a2 a1 t108 _ A4.out).mono ?_); rintro e w' ⟨rfl, ⟨nd, rfl⟩⟩; refine ⟨_, rfl, ?_⟩))
    go_ret3
    exact ⟨by first | rfl | (simp; done) | (simp [*]; done), by repeat (first | exact Drawn0.refl _ | apply Drawn0.step)⟩
  · rw [if_neg c5] at H
    have c5b0 : decide (a0 < t108) = false := decide_eq_false c5
    clear c5
    by_cases c6 : a1 < 12
    · rw [if_pos c6] at H
      have c6b0 : decide (a1 < 12) = true := decide_eq_true c6
      clear c6
      simp only [Option.some.injEq, Prod.mk.injEq] at H
      obtain ⟨rfl, rfl, rfl⟩ := H
      go_enter Try.func8, Try.ntmps8
      go_wp2_with (first | ((with_reducible refine gate_callee (f := 22) rfl ?_); refine goesL_ (some 13) rfl rfl Try.func22 (by kernel_rfl) rfl #[.int .i64 a2, .int .i64 a1] rfl (by (try simp only [List.map_toArray, List.map_cons, List.map_nil]); first | done | rfl | (simp only [List.length_drop, List.length_take]; rfl)) ?_; (with_reducible refine (spec_DayCount.calls k a2 a1 t108 _ A4.out).mono ?_); rintro e w' ⟨rfl, ⟨nd, rfl⟩⟩; refine ⟨_, rfl, ?_⟩))
      go_ret3
      exact ⟨by first | rfl | (simp; done) | (simp [*]; done), by repeat (first | exact Drawn0.refl _ | apply Drawn0.step)⟩
    · rw [if_neg c6] at H
      have c6b0 : decide (a1 < 12) = false := decide_eq_false c6
      clear c6
      simp only [Option.some.injEq, Prod.mk.injEq] at H
      obtain ⟨rfl, rfl, rfl⟩ := H
      go_enter Try.func8, Try.ntmps8
      go_wp2_with (first | ((with_reducible refine gate_callee (f := 22) rfl ?_); refine goesL_ (some 13) rfl rfl Try.func22 (by kernel_rfl) rfl #[.int .i64 a2, .int .i64 a1] rfl (by (try simp only [List.map_toArray, List.map_cons, List.map_nil]); first | done | rfl | (simp only [List.length_drop, List.length_take]; rfl)) ?_; (with_reducible refine (spec_DayCount.calls k a2 a1 t108 _ A4.out).mono ?_); rintro e w' ⟨rfl, ⟨nd, rfl⟩⟩; refine ⟨_, rfl, ?_⟩))
      go_ret3
      exact ⟨by first | rfl | (simp; done) | (simp [*]; done), by repeat (first | exact Drawn0.refl _ | apply Drawn0.step)⟩

/-! ### laws_dayIs: function 9 -/
def laws_dayIs.f (a0 : Int) (a1 : Int) (a2 : Int) (a3 : Int) : Option (Bool) := (impl_Julian.f a0).bind fun bt109 => (if bt109.1 = a1 then (if bt109.2.1 = a2 then (some (bt109.2.2 == a3)) else (some false)) else (some false))
set_option maxHeartbeats 8000000 in
set_option maxRecDepth 100000 in
theorem laws_dayIs.calls (a0 : Int) (a1 : Int) (a2 : Int) (a3 : Int) (r : Bool) (w : World) (h : laws_dayIs.f a0 a1 a2 a3 = some r) :
    Calls Try.prog 9 #[.int .i64 a0, .int .i64 a1, .int .i64 a2, .int .i64 a3] w fun e w' => e = .returned (.bool r) ∧ Drawn0 w w' := by
  have H : ((impl_Julian.f a0).bind fun bt109 => (if bt109.1 = a1 then (if bt109.2.1 = a2 then (some (bt109.2.2 == a3)) else (some false)) else (some false))) = some r := h
  clear h
  replace H := Option.bind_eq_some_iff.mp H
  obtain ⟨⟨t109, t110, t111⟩, A50, H⟩ := H
  replace H : (if t109 = a1 then (if t110 = a2 then (some (t111 == a3)) else (some false)) else (some false)) = some r := H
  have A5 := Aside0.mk A50
  clear A50
  by_cases c6 : t109 = a1
  · rw [if_pos c6] at H
    have c6b0 : (t109 == a1) = true := beq_iff_eq.mpr c6
    have c6b1 : (t109 != a1) = false := bne_eq_false_iff_eq.mpr c6
    clear c6
    by_cases c7 : t110 = a2
    · rw [if_pos c7] at H
      have c7b0 : (t110 == a2) = true := beq_iff_eq.mpr c7
      have c7b1 : (t110 != a2) = false := bne_eq_false_iff_eq.mpr c7
      clear c7
      obtain rfl := Option.some.inj H
      go_enter Try.func9, Try.ntmps9
      go_wp2_with (first | ((with_reducible refine gate_callee (f := 7) rfl ?_); refine goesL_ (some 14) rfl rfl Try.func7 (by kernel_rfl) rfl #[.int .i64 a0] rfl (by (try simp only [List.map_toArray, List.map_cons, List.map_nil]); first | done | rfl | (simp only [List.length_drop, List.length_take]; rfl)) ?_; (with_reducible refine (impl_Julian.calls a0 t109 t110 t111 _ A5.out).mono ?_); rintro e w' ⟨rfl, ⟨nd, rfl⟩⟩; refine ⟨_, rfl, ?_⟩))
      go_ret
      exact ⟨by first | rfl | (simp; done) | (simp [*]; done), by repeat (first | exact Drawn0.refl _ | apply Drawn0.step)⟩
    · rw [if_neg c7] at H
      have c7b0 : (t110 == a2) = false := beq_eq_false_iff_ne.mpr c7
      have c7b1 : (t110 != a2) = true := bne_iff_ne.mpr c7
      obtain rfl := Option.some.inj H
      go_enter Try.func9, Try.ntmps9
      go_wp2_with (first | ((with_reducible refine gate_callee (f := 7) rfl ?_); refine goesL_ (some 14) rfl rfl Try.func7 (by kernel_rfl) rfl #[.int .i64 a0] rfl (by (try simp only [List.map_toArray, List.map_cons, List.map_nil]); first | done | rfl | (simp only [List.length_drop, List.length_take]; rfl)) ?_; (with_reducible refine (impl_Julian.calls a0 t109 t110 t111 _ A5.out).mono ?_); rintro e w' ⟨rfl, ⟨nd, rfl⟩⟩; refine ⟨_, rfl, ?_⟩))
      go_ret
      exact ⟨by first | rfl | (simp; done) | (simp [*]; done), by repeat (first | exact Drawn0.refl _ | apply Drawn0.step)⟩
  · rw [if_neg c6] at H
    have c6b0 : (t109 == a1) = false := beq_eq_false_iff_ne.mpr c6
    have c6b1 : (t109 != a1) = true := bne_iff_ne.mpr c6
    obtain rfl := Option.some.inj H
    go_enter Try.func9, Try.ntmps9
    go_wp2_with (first | ((with_reducible refine gate_callee (f := 7) rfl ?_); refine goesL_ (some 14) rfl rfl Try.func7 (by kernel_rfl) rfl #[.int .i64 a0] rfl (by (try simp only [List.map_toArray, List.map_cons, List.map_nil]); first | done | rfl | (simp only [List.length_drop, List.length_take]; rfl)) ?_; (with_reducible refine (impl_Julian.calls a0 t109 t110 t111 _ A5.out).mono ?_); rintro e w' ⟨rfl, ⟨nd, rfl⟩⟩; refine ⟨_, rfl, ?_⟩))
    go_ret
    exact ⟨by first | rfl | (simp; done) | (simp [*]; done), by repeat (first | exact Drawn0.refl _ | apply Drawn0.step)⟩

/-! ### laws_FnJulianNext: function 3 -/
def laws_FnJulianNext.f (k : Nat) (a0 : Int) : Option (Bool) := (laws_combSmall.f a0 510000).bind fun t112 => ((impl_Julian.f (wrap64 (2305448 + t112))).bind fun bt113 => ((spec_DayNext.f k bt113.1 bt113.2.1 bt113.2.2).bind fun bt116 => ((laws_dayIs.f (wrap64 ((wrap64 (2305448 + t112)) + 1)) bt116.1 bt116.2.1 bt116.2.2).bind fun t119 => (if t119 = true then ((laws_dayIs.f 2451545 1 1 2000).bind fun t120 => (some t120)) else (some false)))))
theorem laws_FnJulianNext.mono : ∀ a0 k, LeO (laws_FnJulianNext.f k a0) (laws_FnJulianNext.f (k + 1) a0) := by
  intro a0 k
  unfold laws_FnJulianNext.f
  repeat' first
      | (with_reducible exact spec_DayNext.mono _ _ _ _)
      | (with_reducible exact LeO.refl _)
      | (with_reducible exact LeO.none _)
      | (with_reducible refine LeO.ite ?_ ?_)
      | (with_reducible refine LeO.bind ?_ (fun _ => ?_))
      | exact spec_DayNext.mono _ _ _ _
      | exact LeO.none _
      | refine LeO.ite ?_ ?_
      | refine LeO.bind ?_ (fun _ => ?_)
set_option maxHeartbeats 8000000 in
set_option maxRecDepth 100000 in
theorem laws_FnJulianNext.calls (k : Nat) (a0 : Int) (r : Bool) (w : World) (h : laws_FnJulianNext.f k a0 = some r) :
    Calls Try.prog 3 #[.int .i64 a0] w fun e w' => e = .returned (.bool r) ∧ Drawn0 w w' := by
  have H : ((laws_combSmall.f a0 510000).bind fun t112 => ((impl_Julian.f (wrap64 (2305448 + t112))).bind fun bt113 => ((spec_DayNext.f k bt113.1 bt113.2.1 bt113.2.2).bind fun bt116 => ((laws_dayIs.f (wrap64 ((wrap64 (2305448 + t112)) + 1)) bt116.1 bt116.2.1 bt116.2.2).bind fun t119 => (if t119 = true then ((laws_dayIs.f 2451545 1 1 2000).bind fun t120 => (some t120)) else (some false)))))) = some r := h
  clear h
  replace H := Option.bind_eq_some_iff.mp H
  obtain ⟨t112, A20, H⟩ := H
  replace H : ((impl_Julian.f (wrap64 (2305448 + t112))).bind fun bt113 => ((spec_DayNext.f k bt113.1 bt113.2.1 bt113.2.2).bind fun bt116 => ((laws_dayIs.f (wrap64 ((wrap64 (2305448 + t112)) + 1)) bt116.1 bt116.2.1 bt116.2.2).bind fun t119 => (if t119 = true then ((laws_dayIs.f 2451545 1 1 2000).bind fun t120 => (some t120)) else (some false))))) = some r := H
  have A2 := Aside0.mk A20
  clear A20
  replace H := Option.bind_eq_some_iff.mp H
  obtain ⟨⟨t113, t114, t115⟩, A30, H⟩ := H
  replace H : ((spec_DayNext.f k t113 t114 t115).bind fun bt116 => ((laws_dayIs.f (wrap64 ((wrap64 (2305448 + t112)) + 1)) bt116.1 bt116.2.1 bt116.2.2).bind fun t119 => (if t119 = true then ((laws_dayIs.f 2451545 1 1 2000).bind fun t120 => (some t120)) else (some false)))) = some r := H
  have A3 := Aside0.mk A30
  clear A30
  replace H := Option.bind_eq_some_iff.mp H
  obtain ⟨⟨t116, t117, t118⟩, A40, H⟩ := H
  replace H : ((laws_dayIs.f (wrap64 ((wrap64 (2305448 + t112)) + 1)) t116 t117 t118).bind fun t119 => (if t119 = true then ((laws_dayIs.f 2451545 1 1 2000).bind fun t120 => (some t120)) else (some false))) = some r := H
  have A4 := Aside0.mk A40
  clear A40
  replace H := Option.bind_eq_some_iff.mp H
  obtain ⟨t119, A50, H⟩ := H
  replace H : (if t119 = true then ((laws_dayIs.f 2451545 1 1 2000).bind fun t120 => (some t120)) else (some false)) = some r := H
  have A5 := Aside0.mk A50
  clear A50
  by_cases c6 : t119 = true
  · subst c6
    have H1 : ((laws_dayIs.f 2451545 1 1 2000).bind fun t120 => (some t120)) = some r := by rw [if_pos rfl] at H; exact H
    clear H
    have H := H1
    clear H1
    replace H := Option.bind_eq_some_iff.mp H
    obtain ⟨t120, A70, H⟩ := H
    replace H : (some t120) = some r := H
    have A7 := Aside0.mk A70
    clear A70
    obtain rfl := Option.some.inj H
    go_enter Try.func3, Try.ntmps3
    go_wp2_with (first | ((with_reducible refine gate_callee (f := 6) rfl ?_); refine goesL_ (some 11) rfl rfl Try.func6 (by kernel_rfl) rfl #[.int .i64 a0, .int .i64 510000] rfl (by (try simp only [List.map_toArray, List.map_cons, List.map_nil]); first | done | rfl | (simp only [List.length_drop, List.length_take]; rfl)) ?_; (with_reducible refine (laws_combSmall.calls a0 510000 t112 _ A2.out).mono ?_); rintro e w' ⟨rfl, ⟨nd, rfl⟩⟩; refine ⟨_, rfl, ?_⟩) | ((with_reducible refine gate_callee (f := 7) rfl ?_); refine goesL_ (some 15) rfl rfl Try.func7 (by kernel_rfl) rfl #[.int .i64 (wrap64 (2305448 + t112))] rfl (by (try simp only [List.map_toArray, List.map_cons, List.map_nil]); first | done | rfl | (simp only [List.length_drop, List.length_take]; rfl)) ?_; (with_reducible refine (impl_Julian.calls (wrap64 (2305448 + t112)) t113 t114 t115 _ A3.out).mono ?_); rintro e w' ⟨rfl, ⟨nd, rfl⟩⟩; refine ⟨_, rfl, ?_⟩) | ((with_reducible refine gate_callee (f := 8) rfl ?_); refine goesL_ (some 23) rfl rfl Try.func8 (by kernel_rfl) rfl #[.int .i64 t113, .int .i64 t114, .int .i64 t115] rfl (by (try simp only [List.map_toArray, List.map_cons, List.map_nil]); first | done | rfl | (simp only [List.length_drop, List.length_take]; rfl)) ?_; (with_reducible refine (spec_DayNext.calls k t113 t114 t115 t116 t117 t118 _ A4.out).mono ?_); rintro e w' ⟨rfl, ⟨nd, rfl⟩⟩; refine ⟨_, rfl, ?_⟩) | ((with_reducible refine gate_callee (f := 9) rfl ?_); refine goesL_ (some 32) rfl rfl Try.func9 (by kernel_rfl) rfl #[.int .i64 (wrap64 ((wrap64 (2305448 + t112)) + 1)), .int .i64 t116, .int .i64 t117, .int .i64 t118] rfl (by (try simp only [List.map_toArray, List.map_cons, List.map_nil]); first | done | rfl | (simp only [List.length_drop, List.length_take]; rfl)) ?_; (with_reducible refine (laws_dayIs.calls (wrap64 ((wrap64 (2305448 + t112)) + 1)) t116 t117 t118 true _ A5.out).mono ?_); rintro e w' ⟨rfl, ⟨nd, rfl⟩⟩; refine ⟨_, rfl, ?_⟩) | (go_at_call 9; (with_reducible refine (laws_dayIs.calls 2451545 1 1 2000 t120 _ A7.out).mono ?_); rintro e w' ⟨rfl, ⟨nd, rfl⟩⟩))
    go_ret
    exact ⟨by first | rfl | (simp; done) | (simp [*]; done), by repeat (first | exact Drawn0.refl _ | apply Drawn0.step)⟩
  · replace c6 := Bool.eq_false_iff.mpr c6
    subst c6
    have H1 : (some false) = some r := by rw [if_neg (show ¬ (false = true) by decide)] at H; exact H
    clear H
    have H := H1
    clear H1
    obtain rfl := Option.some.inj H
    go_enter Try.func3, Try.ntmps3
    go_wp2_with (first | ((with_reducible refine gate_callee (f := 6) rfl ?_); refine goesL_ (some 11) rfl rfl Try.func6 (by kernel_rfl) rfl #[.int .i64 a0, .int .i64 510000] rfl (by (try simp only [List.map_toArray, List.map_cons, List.map_nil]); first | done | rfl | (simp only [List.length_drop, List.length_take]; rfl)) ?_; (with_reducible refine (laws_combSmall.calls a0 510000 t112 _ A2.out).mono ?_); rintro e w' ⟨rfl, ⟨nd, rfl⟩⟩; refine ⟨_, rfl, ?_⟩) | ((with_reducible refine gate_callee (f := 7) rfl ?_); refine goesL_ (some 15) rfl rfl Try.func7 (by kernel_rfl) rfl #[.int .i64 (wrap64 (2305448 + t112))] rfl (by (try simp only [List.map_toArray, List.map_cons, List.map_nil]); first | done | rfl | (simp only [List.length_drop, List.length_take]; rfl)) ?_; (with_reducible refine (impl_Julian.calls (wrap64 (2305448 + t112)) t113 t114 t115 _ A3.out).mono ?_); rintro e w' ⟨rfl, ⟨nd, rfl⟩⟩; refine ⟨_, rfl, ?_⟩) | ((with_reducible refine gate_callee (f := 8) rfl ?_); refine goesL_ (some 23) rfl rfl Try.func8 (by kernel_rfl) rfl #[.int .i64 t113, .int .i64 t114, .int .i64 t115] rfl (by (try simp only [List.map_toArray, List.map_cons, List.map_nil]); first | done | rfl | (simp only [List.length_drop, List.length_take]; rfl)) ?_; (with_reducible refine (spec_DayNext.calls k t113 t114 t115 t116 t117 t118 _ A4.out).mono ?_); rintro e w' ⟨rfl, ⟨nd, rfl⟩⟩; refine ⟨_, rfl, ?_⟩) | ((with_reducible refine gate_callee (f := 9) rfl ?_); refine goesL_ (some 32) rfl rfl Try.func9 (by kernel_rfl) rfl #[.int .i64 (wrap64 ((wrap64 (2305448 + t112)) + 1)), .int .i64 t116, .int .i64 t117, .int .i64 t118] rfl (by (try simp only [List.map_toArray, List.map_cons, List.map_nil]); first | done | rfl | (simp only [List.length_drop, List.length_take]; rfl)) ?_; (with_reducible refine (laws_dayIs.calls (wrap64 ((wrap64 (2305448 + t112)) + 1)) t116 t117 t118 false _ A5.out).mono ?_); rintro e w' ⟨rfl, ⟨nd, rfl⟩⟩; refine ⟨_, rfl, ?_⟩))
    go_ret
    exact ⟨by first | rfl | (simp; done) | (simp [*]; done), by repeat (first | exact Drawn0.refl _ | apply Drawn0.step)⟩

/-- THE ONE PURE STATEMENT of laws_FnJulianNext: yours. -/
def laws_FnJulianNext.Pure : Prop := ∀ (a0 : Int), (Lit.int .i64 a0).wf = true → ∃ k, laws_FnJulianNext.f k a0 = some true
theorem laws_FnJulianNext.walk (P : laws_FnJulianNext.Pure) (a0 : Int) (w : World) (w0 : (Lit.int .i64 a0).wf = true) :
    Calls Try.prog 3 #[.int .i64 a0] w fun e w' => e = .returned (.bool true) ∧ Below w.heap.size w w' := by
  obtain ⟨k, h⟩ := P a0 w0
  refine (laws_FnJulianNext.calls k a0 true w h).mono ?_
  rintro e w' ⟨rfl, hd⟩
  exact ⟨rfl, hd.below⟩

end Go.Proofs.Ytjefbpfpobgmaaa.PFnJulianNext
