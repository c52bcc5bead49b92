-- PRINTED BY print.sh 35421559b90ae4d0a3588c463048766b98c2df88dd9212a6774a882060cdf62d: not written by this session
import Derived.Test.YtjefbpfpobgmaaaDoorPFnDaysx0
namespace Go.Proofs.YtjefbpfpobgmaaaDoor.PFnDays
open Go.RowKit Go.Proofs.YtjefbpfpobgmaaaDoorW.PrintWords Go.Proofs.YtjefbpfpobgmaaaDoorW.PrintLast Go.Proofs.YtjefbpfpobgmaaaDoorW.PrintMore
attribute [local go_sem] max2_int min2_int max_two min_two max_three min_three max_four min_four   -- for this text's walks alone
set_option linter.unusedVariables false
set_option linter.unusedSimpArgs false

/-! ### excelize_isLeapYear: function 22 -/
def excelize_isLeapYear.f (a0 : Int) : Option (Bool) := if a0 = (wrap64 ((wrap64 (Int.tdiv a0 400)) * 400)) then (some true) else (if a0 = (wrap64 ((wrap64 (Int.tdiv a0 100)) * 100)) then (some false) else (some (a0 == (wrap64 ((wrap64 (Int.tdiv a0 4)) * 4)))))
set_option maxHeartbeats 8000000 in
set_option maxRecDepth 100000 in
theorem excelize_isLeapYear.calls (a0 : Int) (r : Bool) (w : World) (h : excelize_isLeapYear.f a0 = some r) :
    Calls Tryd.prog 22 #[.int .i64 a0] w fun e w' => e = .returned (.bool r) ∧ Drawn0 w w' := by
  have H : (if a0 = (wrap64 ((wrap64 (Int.tdiv a0 400)) * 400)) then (some true) else (if a0 = (wrap64 ((wrap64 (Int.tdiv a0 100)) * 100)) then (some false) else (some (a0 == (wrap64 ((wrap64 (Int.tdiv a0 4)) * 4)))))) = some r := h
  clear h
  by_cases c2 : a0 = (wrap64 ((wrap64 (Int.tdiv a0 400)) * 400))
  · rw [if_pos c2] at H
    have c2b0 : (a0 == (wrap64 ((wrap64 (Int.tdiv a0 400)) * 400))) = true := beq_iff_eq.mpr c2
    have c2b1 : (a0 != (wrap64 ((wrap64 (Int.tdiv a0 400)) * 400))) = false := bne_eq_false_iff_eq.mpr c2
    clear c2
    obtain rfl := Option.some.inj H
    go_enter Tryd.func22, Tryd.ntmps22
    go_wp2
    go_ret
    exact ⟨by first | rfl | (simp; done) | (simp [*]; done), by repeat (first | exact Drawn0.refl _ | apply Drawn0.step)⟩
  · rw [if_neg c2] at H
    have c2b0 : (a0 == (wrap64 ((wrap64 (Int.tdiv a0 400)) * 400))) = false := beq_eq_false_iff_ne.mpr c2
    have c2b1 : (a0 != (wrap64 ((wrap64 (Int.tdiv a0 400)) * 400))) = true := bne_iff_ne.mpr c2
    by_cases c3 : a0 = (wrap64 ((wrap64 (Int.tdiv a0 100)) * 100))
    · rw [if_pos c3] at H
      have c3b0 : (a0 == (wrap64 ((wrap64 (Int.tdiv a0 100)) * 100))) = true := beq_iff_eq.mpr c3
      have c3b1 : (a0 != (wrap64 ((wrap64 (Int.tdiv a0 100)) * 100))) = false := bne_eq_false_iff_eq.mpr c3
      clear c3
      obtain rfl := Option.some.inj H
      go_enter Tryd.func22, Tryd.ntmps22
      go_wp2
      go_ret
      exact ⟨by first | rfl | (simp; done) | (simp [*]; done), by repeat (first | exact Drawn0.refl _ | apply Drawn0.step)⟩
    · rw [if_neg c3] at H
      have c3b0 : (a0 == (wrap64 ((wrap64 (Int.tdiv a0 100)) * 100))) = false := beq_eq_false_iff_ne.mpr c3
      have c3b1 : (a0 != (wrap64 ((wrap64 (Int.tdiv a0 100)) * 100))) = true := bne_iff_ne.mpr c3
      obtain rfl := Option.some.inj H
      go_enter Tryd.func22, Tryd.ntmps22
      go_wp2
      go_ret
      exact ⟨by first | rfl | (simp; done) | (simp [*]; done), by repeat (first | exact Drawn0.refl _ | apply Drawn0.step)⟩

-- NOT PRINTED: function 19 (excelize_getDaysInMonth)

-- NOT PRINTED: function 13 (excelize_DoorDays)

-- NOT PRINTED: function 6 (impl_Days)

/-! ### spec_DayLeap: function 14 -/
def spec_DayLeap.f (a0 : Int) : Option (Bool) := if (Int.tmod a0 4) = 0 then (if (Int.tmod a0 100) = 0 then (some ((Int.tmod a0 400) == 0)) else (some true)) else (some false)
set_option maxHeartbeats 8000000 in
set_option maxRecDepth 100000 in
theorem spec_DayLeap.calls (a0 : Int) (r : Bool) (w : World) (h : spec_DayLeap.f a0 = some r) :
    Calls Tryd.prog 14 #[.int .i64 a0] w fun e w' => e = .returned (.bool r) ∧ Drawn0 w w' := by
  have H : (if (Int.tmod a0 4) = 0 then (if (Int.tmod a0 100) = 0 then (some ((Int.tmod a0 400) == 0)) else (some true)) else (some false)) = some r := h
  clear h
  by_cases c2 : (Int.tmod a0 4) = 0
  · rw [if_pos c2] at H
    have c2b0 : ((Int.tmod a0 4) == 0) = true := beq_iff_eq.mpr c2
    have c2b1 : ((Int.tmod a0 4) != 0) = false := bne_eq_false_iff_eq.mpr c2
    clear c2
    by_cases c3 : (Int.tmod a0 100) = 0
    · rw [if_pos c3] at H
      have c3b0 : ((Int.tmod a0 100) == 0) = true := beq_iff_eq.mpr c3
      have c3b1 : ((Int.tmod a0 100) != 0) = false := bne_eq_false_iff_eq.mpr c3
      clear c3
      obtain rfl := Option.some.inj H
      go_enter Tryd.func14, Tryd.ntmps14
      go_wp2
      go_ret
      exact ⟨by first | rfl | (simp; done) | (simp [*]; done), by repeat (first | exact Drawn0.refl _ | apply Drawn0.step)⟩
    · rw [if_neg c3] at H
      have c3b0 : ((Int.tmod a0 100) == 0) = false := beq_eq_false_iff_ne.mpr c3
      have c3b1 : ((Int.tmod a0 100) != 0) = true := bne_iff_ne.mpr c3
      obtain rfl := Option.some.inj H
      go_enter Tryd.func14, Tryd.ntmps14
      go_wp2
      go_ret
      exact ⟨by first | rfl | (simp; done) | (simp [*]; done), by repeat (first | exact Drawn0.refl _ | apply Drawn0.step)⟩
  · rw [if_neg c2] at H
    have c2b0 : ((Int.tmod a0 4) == 0) = false := beq_eq_false_iff_ne.mpr c2
    have c2b1 : ((Int.tmod a0 4) != 0) = true := bne_iff_ne.mpr c2
    obtain rfl := Option.some.inj H
    go_enter Tryd.func14, Tryd.ntmps14
    go_wp2
    go_ret
    exact ⟨by first | rfl | (simp; done) | (simp [*]; done), by repeat (first | exact Drawn0.refl _ | apply Drawn0.step)⟩

/-! ### spec_DayCount: function 7 -/
mutual
def spec_DayCount.j0 : Nat → Int → Int → Bool → Option (Int)
  | 0, _, _, _ => none
  | k + 1, x0, x1, x5 => if x5 = true then (some 0) else (if x1 = 2 then ((spec_DayLeap.f x0).bind fun t102 => (spec_DayCount.j1 k x1 t102)) else (spec_DayCount.j1 k x1 false))
def spec_DayCount.j1 : Nat → Int → Bool → Option (Int)
  | 0, _, _ => none
  | k + 1, x1, x12 => if x12 = true then (some 29) else (if x1 = 2 then (some 28) else (if x1 = 4 then (some 30) else (if x1 = 6 then (some 30) else (if x1 = 9 then (some 30) else (if x1 = 11 then (some 30) else (some 31))))))
end
def spec_DayCount.f (k : Nat) (a0 : Int) (a1 : Int) : Option (Int) := if a1 < 1 then (spec_DayCount.j0 k a0 a1 true) else (spec_DayCount.j0 k a0 a1 (decide (a1 > 12)))
theorem spec_DayCount.mono_l : ∀ k, (∀ y0 y1 y2, LeO (spec_DayCount.j0 k y0 y1 y2) (spec_DayCount.j0 (k + 1) y0 y1 y2)) ∧ (∀ y0 y1, LeO (spec_DayCount.j1 k y0 y1) (spec_DayCount.j1 (k + 1) y0 y1))
  | 0 => ⟨fun _ _ _ r h => by simp [spec_DayCount.j0] at h, fun _ _ r h => by simp [spec_DayCount.j1] at h⟩
  | k + 1 => by
    obtain ⟨ih0, ih1⟩ := spec_DayCount.mono_l k
    refine ⟨?_, ?_⟩
    · intro y0 y1 y2
      unfold spec_DayCount.j0
      repeat' first
      | (with_reducible exact ih0 _ _ _)
      | (with_reducible exact ih1 _ _)
      | (with_reducible exact LeO.refl _)
      | (with_reducible exact LeO.none _)
      | (with_reducible refine LeO.ite ?_ ?_)
      | (with_reducible refine LeO.bind ?_ (fun _ => ?_))
      | exact ih0 _ _ _
      | exact ih1 _ _
      | exact LeO.none _
      | refine LeO.ite ?_ ?_
      | refine LeO.bind ?_ (fun _ => ?_)
    · intro y0 y1
      unfold spec_DayCount.j1
      repeat' first
      | (with_reducible exact ih0 _ _ _)
      | (with_reducible exact ih1 _ _)
      | (with_reducible exact LeO.refl _)
      | (with_reducible exact LeO.none _)
      | (with_reducible refine LeO.ite ?_ ?_)
      | (with_reducible refine LeO.bind ?_ (fun _ => ?_))
      | exact ih0 _ _ _
      | exact ih1 _ _
      | exact LeO.none _
      | refine LeO.ite ?_ ?_
      | refine LeO.bind ?_ (fun _ => ?_)
theorem spec_DayCount.mono : ∀ a0 a1 k, LeO (spec_DayCount.f k a0 a1) (spec_DayCount.f (k + 1) a0 a1) := by
  intro a0 a1 k
  obtain ⟨ih0, ih1⟩ := spec_DayCount.mono_l k
  unfold spec_DayCount.f
  repeat' first
      | (with_reducible exact ih0 _ _ _)
      | (with_reducible exact ih1 _ _)
      | (with_reducible exact LeO.refl _)
      | (with_reducible exact LeO.none _)
      | (with_reducible refine LeO.ite ?_ ?_)
      | (with_reducible refine LeO.bind ?_ (fun _ => ?_))
      | exact ih0 _ _ _
      | exact ih1 _ _
      | exact LeO.none _
      | refine LeO.ite ?_ ?_
      | refine LeO.bind ?_ (fun _ => ?_)
set_option maxHeartbeats 8000000 in
set_option maxRecDepth 100000 in
theorem spec_DayCount.calls (k : Nat) (a0 : Int) (a1 : Int) (r : Int) (w : World) (h : spec_DayCount.f k a0 a1 = some r) :
    Calls Tryd.prog 7 #[.int .i64 a0, .int .i64 a1] w fun e w' => e = .returned (.int .i64 r) ∧ Drawn0 w w' := by
  have H : (if a1 < 1 then (spec_DayCount.j0 k a0 a1 true) else (spec_DayCount.j0 k a0 a1 (decide (a1 > 12)))) = some r := h
  clear h
  have HC3 := Aside0.mk H
  clear H
  go_enter Tryd.func7, Tryd.ntmps7
  go_upto_region 1 with (fail)
  go_cut [5] (fun v5 wc => ∃ (kq : Nat) (x5_2 : Bool), v5 = .bool x5_2 ∧ Aside0 (spec_DayCount.j0 kq a0 a1 x5_2 = some r) ∧ Aside0 (kq ≤ k) ∧ Drawn0 w wc)
  case first =>
    have H := HC3.out
    clear HC3
    by_cases c4 : a1 < 1
    · rw [if_pos c4] at H
      have c4b0 : decide (a1 < 1) = true := decide_eq_true c4
      clear c4
      (first | rw [c4b0] | (simp only [i64_w, i32_w]; rw [c4b0]) | skip)
      have H' := Aside0.mk H
      clear H
      go_wp2
      go_meet
      case rel => exact ⟨_, (true), (by first | rfl | (simp; done) | (simp [*]; done)), H', ⟨by first | omega | exact Nat.le_refl _⟩, by repeat (first | exact Drawn0.refl _ | apply Drawn0.step)⟩
    · rw [if_neg c4] at H
      have c4b0 : decide (a1 < 1) = false := decide_eq_false c4
      clear c4
      (first | rw [c4b0] | (simp only [i64_w, i32_w]; rw [c4b0]) | skip)
      have H' := Aside0.mk H
      clear H
      go_wp2
      go_meet
      case rel => exact ⟨_, (decide (a1 > 12)), (by first | rfl | (simp; done) | (simp [*]; done)), H', ⟨by first | omega | exact Nat.le_refl _⟩, by repeat (first | exact Drawn0.refl _ | apply Drawn0.step)⟩
  case rest =>
    clear HC3
    try clear p2
    try clear c4
    try clear c4b0
    obtain ⟨kq, x5_2, rfl, HA, HJ2, ⟨mc2, rfl⟩⟩ := hcut
    cases kq with
    | zero => exact absurd HA.out (by simp [spec_DayCount.j0])
    | succ kj2 =>
      have H := HA.out
      clear HA
      simp only [spec_DayCount.j0] at H
      by_cases c5 : x5_2 = true
      · subst c5
        have H1 : (some 0) = some r := by rw [if_pos rfl] at H; exact H
        clear H
        have H := H1
        clear H1
        obtain rfl := Option.some.inj H
        go_wp2
        go_ret
        exact ⟨by first | rfl | (simp; done) | (simp [*]; done), by repeat (first | exact Drawn0.refl _ | apply Drawn0.step)⟩
      · replace c5 := Bool.eq_false_iff.mpr c5
        subst c5
        have H1 : (if a1 = 2 then ((spec_DayLeap.f a0).bind fun t102 => (spec_DayCount.j1 kj2 a1 t102)) else (spec_DayCount.j1 kj2 a1 false)) = some r := by rw [if_neg (show ¬ (false = true) by decide)] at H; exact H
        clear H
        have H := H1
        clear H1
        have HC6 := Aside0.mk H
        clear H
        go_upto_region 3 with (fail)
        go_cut [12] (fun v12 wc => ∃ (kq : Nat) (x12_5 : Bool), v12 = .bool x12_5 ∧ Aside0 (spec_DayCount.j1 kq a1 x12_5 = some r) ∧ Aside0 (kq ≤ kj2) ∧ Drawn0 w wc)
        case first =>
          have H := HC6.out
          clear HC6
          by_cases c7 : a1 = 2
          · rw [if_pos c7] at H
            have c7b0 : (a1 == 2) = true := beq_iff_eq.mpr c7
            have c7b1 : (a1 != 2) = false := bne_eq_false_iff_eq.mpr c7
            clear c7
            (first | rw [c7b0] | (simp only [i64_w, i32_w]; rw [c7b0]) | skip)
            replace H := Option.bind_eq_some_iff.mp H
            obtain ⟨t102, A80, H⟩ := H
            replace H : (spec_DayCount.j1 kj2 a1 t102) = some r := H
            have A8 := Aside0.mk A80
            clear A80
            have H' := Aside0.mk H
            clear H
            go_wp2_with (first | (go_at_call 14; (with_reducible refine (spec_DayLeap.calls a0 t102 _ A8.out).mono ?_); rintro e w' ⟨rfl, ⟨nd, rfl⟩⟩))
            go_meet
            case rel => exact ⟨_, (t102), (by first | rfl | (simp; done) | (simp [*]; done)), H', ⟨by have := HJ2.out; first | omega | exact Nat.le_refl _⟩, by repeat (first | exact Drawn0.refl _ | apply Drawn0.step)⟩
          · rw [if_neg c7] at H
            have c7b0 : (a1 == 2) = false := beq_eq_false_iff_ne.mpr c7
            have c7b1 : (a1 != 2) = true := bne_iff_ne.mpr c7
            (first | rw [c7b0] | (simp only [i64_w, i32_w]; rw [c7b0]) | skip)
            have H' := Aside0.mk H
            clear H
            go_wp2
            go_meet
            case rel => exact ⟨_, (false), (by first | rfl | (simp; done) | (simp [*]; done)), H', ⟨by have := HJ2.out; first | omega | exact Nat.le_refl _⟩, by repeat (first | exact Drawn0.refl _ | apply Drawn0.step)⟩
        case rest =>
          clear HC6
          try clear c2
          try clear p2
          try clear c4
          try clear c4b0
          try clear c5
          try clear c7
          try clear c7b0
          try clear c7b1
          try clear p2
          obtain ⟨kq, x12_5, rfl, HA, HJ5, ⟨mc5, rfl⟩⟩ := hcut
          cases kq with
          | zero => exact absurd HA.out (by simp [spec_DayCount.j1])
          | succ kj5 =>
            have H := HA.out
            clear HA
            simp only [spec_DayCount.j1] at H
            by_cases c9 : x12_5 = true
            · subst c9
              have H1 : (some 29) = some r := by rw [if_pos rfl] at H; exact H
              clear H
              have H := H1
              clear H1
              obtain rfl := Option.some.inj H
              go_wp2
              go_ret
              exact ⟨by first | rfl | (simp; done) | (simp [*]; done), by repeat (first | exact Drawn0.refl _ | apply Drawn0.step)⟩
            · replace c9 := Bool.eq_false_iff.mpr c9
              subst c9
              have H1 : (if a1 = 2 then (some 28) else (if a1 = 4 then (some 30) else (if a1 = 6 then (some 30) else (if a1 = 9 then (some 30) else (if a1 = 11 then (some 30) else (some 31)))))) = some r := by rw [if_neg (show ¬ (false = true) by decide)] at H; exact H
              clear H
              have H := H1
              clear H1
              by_cases c10 : a1 = 2
              · rw [if_pos c10] at H
                have c10b0 : (a1 == 2) = true := beq_iff_eq.mpr c10
                have c10b1 : (a1 != 2) = false := bne_eq_false_iff_eq.mpr c10
                clear c10
                obtain rfl := Option.some.inj H
                go_wp2
                go_ret
                exact ⟨by first | rfl | (simp; done) | (simp [*]; done), by repeat (first | exact Drawn0.refl _ | apply Drawn0.step)⟩
              · rw [if_neg c10] at H
                have c10b0 : (a1 == 2) = false := beq_eq_false_iff_ne.mpr c10
                have c10b1 : (a1 != 2) = true := bne_iff_ne.mpr c10
                by_cases c11 : a1 = 4
                · rw [if_pos c11] at H
                  have c11b0 : (a1 == 4) = true := beq_iff_eq.mpr c11
                  have c11b1 : (a1 != 4) = false := bne_eq_false_iff_eq.mpr c11
                  clear c11
                  obtain rfl := Option.some.inj H
                  go_wp2
                  go_ret
                  exact ⟨by first | rfl | (simp; done) | (simp [*]; done), by repeat (first | exact Drawn0.refl _ | apply Drawn0.step)⟩
                · rw [if_neg c11] at H
                  have c11b0 : (a1 == 4) = false := beq_eq_false_iff_ne.mpr c11
                  have c11b1 : (a1 != 4) = true := bne_iff_ne.mpr c11
                  by_cases c12 : a1 = 6
                  · rw [if_pos c12] at H
                    have c12b0 : (a1 == 6) = true := beq_iff_eq.mpr c12
                    have c12b1 : (a1 != 6) = false := bne_eq_false_iff_eq.mpr c12
                    clear c12
                    obtain rfl := Option.some.inj H
                    go_wp2
                    go_ret
                    exact ⟨by first | rfl | (simp; done) | (simp [*]; done), by repeat (first | exact Drawn0.refl _ | apply Drawn0.step)⟩
                  · rw [if_neg c12] at H
                    have c12b0 : (a1 == 6) = false := beq_eq_false_iff_ne.mpr c12
                    have c12b1 : (a1 != 6) = true := bne_iff_ne.mpr c12
                    by_cases c13 : a1 = 9
                    · rw [if_pos c13] at H
                      have c13b0 : (a1 == 9) = true := beq_iff_eq.mpr c13
                      have c13b1 : (a1 != 9) = false := bne_eq_false_iff_eq.mpr c13
                      clear c13
                      obtain rfl := Option.some.inj H
                      go_wp2
                      go_ret
                      exact ⟨by first | rfl | (simp; done) | (simp [*]; done), by repeat (first | exact Drawn0.refl _ | apply Drawn0.step)⟩
                    · rw [if_neg c13] at H
                      have c13b0 : (a1 == 9) = false := beq_eq_false_iff_ne.mpr c13
                      have c13b1 : (a1 != 9) = true := bne_iff_ne.mpr c13
                      by_cases c14 : a1 = 11
                      · rw [if_pos c14] at H
                        have c14b0 : (a1 == 11) = true := beq_iff_eq.mpr c14
                        have c14b1 : (a1 != 11) = false := bne_eq_false_iff_eq.mpr c14
                        clear c14
                        obtain rfl := Option.some.inj H
                        go_wp2
                        go_ret
                        exact ⟨by first | rfl | (simp; done) | (simp [*]; done), by repeat (first | exact Drawn0.refl _ | apply Drawn0.step)⟩
                      · rw [if_neg c14] at H
                        have c14b0 : (a1 == 11) = false := beq_eq_false_iff_ne.mpr c14
                        have c14b1 : (a1 != 11) = true := bne_iff_ne.mpr c14
                        obtain rfl := Option.some.inj H
                        go_wp2
                        go_ret
                        exact ⟨by first | rfl | (simp; done) | (simp [*]; done), by repeat (first | exact Drawn0.refl _ | apply Drawn0.step)⟩

-- NOT PRINTED: function 3 (laws_FnDays)

end Go.Proofs.YtjefbpfpobgmaaaDoor.PFnDays
