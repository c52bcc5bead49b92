-- PRINTED BY print.sh 35421559b90ae4d0a3588c463048766b98c2df88dd9212a6774a882060cdf62d: not written by this session
import Derived.Test.YtfbenlenihlpbaaDoorPDigitsx0
namespace Go.Proofs.YtfbenlenihlpbaaDoor.PDigits
open Go.RowKit Go.Proofs.YtfbenlenihlpbaaDoorW.PrintWords Go.Proofs.YtfbenlenihlpbaaDoorW.PrintLast Go.Proofs.YtfbenlenihlpbaaDoorW.PrintMore
attribute [local go_sem] max2_int min2_int max_two min_two max_three min_three max_four min_four   -- for this text's walks alone
set_option linter.unusedVariables false
set_option linter.unusedSimpArgs false

/-! ### spec_Digits: function 36 -/
def spec_Digits.f : Nat → Int → Int → Option (ByteArray)
  | 0, _, _ => none
  | k + 1, a0, a1 => if a1 = 0 then (none) else (if 0 ≤ (Int.tmod a0 a1) then (if (Int.tmod a0 a1) ≤ (wrap64 ((Int.tmod a0 a1) + 1)) then (if (wrap64 ((Int.tmod a0 a1) + 1)) ≤ 36 then (if a0 < a1 then (some ((⟨#[48, 49, 50, 51, 52, 53, 54, 55, 56, 57, 65, 66, 67, 68, 69, 70, 71, 72, 73, 74, 75, 76, 77, 78, 79, 80, 81, 82, 83, 84, 85, 86, 87, 88, 89, 90]⟩ : ByteArray).extract ((Int.tmod a0 a1) : Int).toNat ((wrap64 ((Int.tmod a0 a1) + 1)) : Int).toNat)) else ((spec_Digits.f k (wrap64 (Int.tdiv a0 a1)) a1).bind fun t101 => (if t101.size + ((⟨#[48, 49, 50, 51, 52, 53, 54, 55, 56, 57, 65, 66, 67, 68, 69, 70, 71, 72, 73, 74, 75, 76, 77, 78, 79, 80, 81, 82, 83, 84, 85, 86, 87, 88, 89, 90]⟩ : ByteArray).extract ((Int.tmod a0 a1) : Int).toNat ((wrap64 ((Int.tmod a0 a1) + 1)) : Int).toNat).size ≤ 9223372036854775807 then (some (t101 ++ ((⟨#[48, 49, 50, 51, 52, 53, 54, 55, 56, 57, 65, 66, 67, 68, 69, 70, 71, 72, 73, 74, 75, 76, 77, 78, 79, 80, 81, 82, 83, 84, 85, 86, 87, 88, 89, 90]⟩ : ByteArray).extract ((Int.tmod a0 a1) : Int).toNat ((wrap64 ((Int.tmod a0 a1) + 1)) : Int).toNat))) else (none)))) else (none)) else (none)) else (none))
theorem spec_Digits.mono_l : ∀ k, (∀ y0 y1, LeO (spec_Digits.f k y0 y1) (spec_Digits.f (k + 1) y0 y1))
  | 0 => fun _ _ r h => by simp [spec_Digits.f] at h
  | k + 1 => by
    have ih0 := spec_Digits.mono_l k
    · intro y0 y1
      unfold spec_Digits.f
      repeat' first
      | (with_reducible exact ih0 _ _)
      | (with_reducible exact LeO.refl _)
      | (with_reducible exact LeO.none _)
      | (with_reducible refine LeO.ite ?_ ?_)
      | (with_reducible refine LeO.bind ?_ (fun _ => ?_))
      | exact ih0 _ _
      | exact LeO.none _
      | refine LeO.ite ?_ ?_
      | refine LeO.bind ?_ (fun _ => ?_)
theorem spec_Digits.mono : ∀ a0 a1 k, LeO (spec_Digits.f k a0 a1) (spec_Digits.f (k + 1) a0 a1) := by
  intro a0 a1 k
  have ih0 := spec_Digits.mono_l k
  exact ih0 a0 a1
set_option maxHeartbeats 8000000 in
set_option maxRecDepth 100000 in
theorem spec_Digits.calls (k : Nat) : ∀ (a0 : Int) (a1 : Int) (r : ByteArray) (w : World) (h : spec_Digits.f k a0 a1 = some r),
    Calls Tryd.prog 36 #[.int .i64 a0, .int .i64 a1] w fun e w' => e = .returned (.string r) ∧ Drawn0 w w' := by
  induction k using Nat.strongRecOn with
  | _ k ih =>
  intro a0 a1 r w h
  cases k with
  | zero => exact absurd h (by simp [spec_Digits.f])
  | succ k =>
  simp only [spec_Digits.f] at h
  have H : (if a1 = 0 then (none) else (if 0 ≤ (Int.tmod a0 a1) then (if (Int.tmod a0 a1) ≤ (wrap64 ((Int.tmod a0 a1) + 1)) then (if (wrap64 ((Int.tmod a0 a1) + 1)) ≤ 36 then (if a0 < a1 then (some ((⟨#[48, 49, 50, 51, 52, 53, 54, 55, 56, 57, 65, 66, 67, 68, 69, 70, 71, 72, 73, 74, 75, 76, 77, 78, 79, 80, 81, 82, 83, 84, 85, 86, 87, 88, 89, 90]⟩ : ByteArray).extract ((Int.tmod a0 a1) : Int).toNat ((wrap64 ((Int.tmod a0 a1) + 1)) : Int).toNat)) else ((spec_Digits.f k (wrap64 (Int.tdiv a0 a1)) a1).bind fun t101 => (if t101.size + ((⟨#[48, 49, 50, 51, 52, 53, 54, 55, 56, 57, 65, 66, 67, 68, 69, 70, 71, 72, 73, 74, 75, 76, 77, 78, 79, 80, 81, 82, 83, 84, 85, 86, 87, 88, 89, 90]⟩ : ByteArray).extract ((Int.tmod a0 a1) : Int).toNat ((wrap64 ((Int.tmod a0 a1) + 1)) : Int).toNat).size ≤ 9223372036854775807 then (some (t101 ++ ((⟨#[48, 49, 50, 51, 52, 53, 54, 55, 56, 57, 65, 66, 67, 68, 69, 70, 71, 72, 73, 74, 75, 76, 77, 78, 79, 80, 81, 82, 83, 84, 85, 86, 87, 88, 89, 90]⟩ : ByteArray).extract ((Int.tmod a0 a1) : Int).toNat ((wrap64 ((Int.tmod a0 a1) + 1)) : Int).toNat))) else (none)))) else (none)) else (none)) else (none))) = some r := h
  clear h
  by_cases c3 : a1 = 0
  · rw [if_pos c3] at H
    exact absurd H (by simp)
  · rw [if_neg c3] at H
    have c3b0 : (a1 == 0) = false := beq_eq_false_iff_ne.mpr c3
    have c3b1 : (a1 != 0) = true := bne_iff_ne.mpr c3
    obtain ⟨ji4, hji4⟩ : ∃ j_ : Int, (Int.tmod a0 a1) = j_ := ⟨_, rfl⟩
    replace H : (if 0 ≤ (ji4) then (if (ji4) ≤ (wrap64 ((ji4) + 1)) then (if (wrap64 ((ji4) + 1)) ≤ 36 then (if a0 < a1 then (some ((⟨#[48, 49, 50, 51, 52, 53, 54, 55, 56, 57, 65, 66, 67, 68, 69, 70, 71, 72, 73, 74, 75, 76, 77, 78, 79, 80, 81, 82, 83, 84, 85, 86, 87, 88, 89, 90]⟩ : ByteArray).extract ((ji4) : Int).toNat ((wrap64 ((ji4) + 1)) : Int).toNat)) else ((spec_Digits.f k (wrap64 (Int.tdiv a0 a1)) a1).bind fun t101 => (if t101.size + ((⟨#[48, 49, 50, 51, 52, 53, 54, 55, 56, 57, 65, 66, 67, 68, 69, 70, 71, 72, 73, 74, 75, 76, 77, 78, 79, 80, 81, 82, 83, 84, 85, 86, 87, 88, 89, 90]⟩ : ByteArray).extract ((ji4) : Int).toNat ((wrap64 ((ji4) + 1)) : Int).toNat).size ≤ 9223372036854775807 then (some (t101 ++ ((⟨#[48, 49, 50, 51, 52, 53, 54, 55, 56, 57, 65, 66, 67, 68, 69, 70, 71, 72, 73, 74, 75, 76, 77, 78, 79, 80, 81, 82, 83, 84, 85, 86, 87, 88, 89, 90]⟩ : ByteArray).extract ((ji4) : Int).toNat ((wrap64 ((ji4) + 1)) : Int).toNat))) else (none)))) else (none)) else (none)) else (none)) = some r := by first | (rw [hji4] at H; exact H) | (simp only [hji4] at H ⊢; exact H)
    by_cases c5 : 0 ≤ (ji4)
    · rw [if_pos c5] at H
      have c5b0 := eq_true c5
      have c5b1 : decide (0 ≤ (ji4)) = true := decide_eq_true c5
      clear c5
      by_cases c6 : (ji4) ≤ (wrap64 ((ji4) + 1))
      · rw [if_pos c6] at H
        have c6b0 := eq_true c6
        have c6b1 : decide ((ji4) ≤ (wrap64 ((ji4) + 1))) = true := decide_eq_true c6
        by_cases c7 : (wrap64 ((ji4) + 1)) ≤ 36
        · rw [if_pos c7] at H
          have c7b0 := eq_true c7
          have c7b1 : decide ((wrap64 ((ji4) + 1)) ≤ 36) = true := decide_eq_true c7
          by_cases c8 : a0 < a1
          · rw [if_pos c8] at H
            have c8b0 : decide (a0 < a1) = true := decide_eq_true c8
            clear c8
            obtain rfl := Option.some.inj H
            go_enter Tryd.func36, Tryd.ntmps36
            go_wp2
            repeat (go_quiet (fail); try go_wp2)
            go_ret
            exact ⟨by first | rfl | (simp; done) | (simp only [← hji4] <;> (first | rfl | simp)) | (simp [*]; done), by repeat (first | exact Drawn0.refl _ | apply Drawn0.step)⟩
          · rw [if_neg c8] at H
            have c8b0 : decide (a0 < a1) = false := decide_eq_false c8
            clear c8
            replace H := Option.bind_eq_some_iff.mp H
            obtain ⟨t101, A90, H⟩ := H
            replace H : (if t101.size + ((⟨#[48, 49, 50, 51, 52, 53, 54, 55, 56, 57, 65, 66, 67, 68, 69, 70, 71, 72, 73, 74, 75, 76, 77, 78, 79, 80, 81, 82, 83, 84, 85, 86, 87, 88, 89, 90]⟩ : ByteArray).extract ((ji4) : Int).toNat ((wrap64 ((ji4) + 1)) : Int).toNat).size ≤ 9223372036854775807 then (some (t101 ++ ((⟨#[48, 49, 50, 51, 52, 53, 54, 55, 56, 57, 65, 66, 67, 68, 69, 70, 71, 72, 73, 74, 75, 76, 77, 78, 79, 80, 81, 82, 83, 84, 85, 86, 87, 88, 89, 90]⟩ : ByteArray).extract ((ji4) : Int).toNat ((wrap64 ((ji4) + 1)) : Int).toNat))) else (none)) = some r := H
            have A9 := Aside0.mk A90
            clear A90
            by_cases c10 : t101.size + ((⟨#[48, 49, 50, 51, 52, 53, 54, 55, 56, 57, 65, 66, 67, 68, 69, 70, 71, 72, 73, 74, 75, 76, 77, 78, 79, 80, 81, 82, 83, 84, 85, 86, 87, 88, 89, 90]⟩ : ByteArray).extract ((ji4) : Int).toNat ((wrap64 ((ji4) + 1)) : Int).toNat).size ≤ 9223372036854775807
            · rw [if_pos c10] at H
              have c10b0 := eq_true c10
              have c10b1 : decide (t101.size + ((⟨#[48, 49, 50, 51, 52, 53, 54, 55, 56, 57, 65, 66, 67, 68, 69, 70, 71, 72, 73, 74, 75, 76, 77, 78, 79, 80, 81, 82, 83, 84, 85, 86, 87, 88, 89, 90]⟩ : ByteArray).extract ((ji4) : Int).toNat ((wrap64 ((ji4) + 1)) : Int).toNat).size ≤ 9223372036854775807) = true := decide_eq_true c10
              try have c10b2 : (9223372036854775807 < t101.size + ((⟨#[48, 49, 50, 51, 52, 53, 54, 55, 56, 57, 65, 66, 67, 68, 69, 70, 71, 72, 73, 74, 75, 76, 77, 78, 79, 80, 81, 82, 83, 84, 85, 86, 87, 88, 89, 90]⟩ : ByteArray).extract ((ji4) : Int).toNat ((wrap64 ((ji4) + 1)) : Int).toNat).size) = False := eq_false (Nat.not_lt.2 c10)
              obtain rfl := Option.some.inj H
              go_enter Tryd.func36, Tryd.ntmps36
              go_wp2_with (first | (go_at_call 36; (with_reducible refine (ih k (by omega) (wrap64 (Int.tdiv a0 a1)) a1 t101 _ A9.out).mono ?_); rintro e w' ⟨rfl, ⟨nd, rfl⟩⟩; (try first | exact ⟨rfl, _, World.drewN_drewN _ _ _⟩ | exact ⟨rfl, _, Eq.trans (World.drewN_drewN _ _ _) (congrArg (World.drewN _) (Nat.add_assoc _ _ _))⟩)))
              repeat (go_quiet (first | (go_at_call 36; (with_reducible refine (ih k (by omega) (wrap64 (Int.tdiv a0 a1)) a1 t101 _ A9.out).mono ?_); rintro e w' ⟨rfl, ⟨nd, rfl⟩⟩; (try first | exact ⟨rfl, _, World.drewN_drewN _ _ _⟩ | exact ⟨rfl, _, Eq.trans (World.drewN_drewN _ _ _) (congrArg (World.drewN _) (Nat.add_assoc _ _ _))⟩))); try go_wp2_with (first | (go_at_call 36; (with_reducible refine (ih k (by omega) (wrap64 (Int.tdiv a0 a1)) a1 t101 _ A9.out).mono ?_); rintro e w' ⟨rfl, ⟨nd, rfl⟩⟩; (try first | exact ⟨rfl, _, World.drewN_drewN _ _ _⟩ | exact ⟨rfl, _, Eq.trans (World.drewN_drewN _ _ _) (congrArg (World.drewN _) (Nat.add_assoc _ _ _))⟩))))
              go_ret
              exact ⟨by first | rfl | (simp; done) | (simp only [← hji4] <;> (first | rfl | simp)) | (simp [*]; done), by repeat (first | exact Drawn0.refl _ | apply Drawn0.step)⟩
            · rw [if_neg c10] at H
              exact absurd H (by simp)
        · rw [if_neg c7] at H
          exact absurd H (by simp)
      · rw [if_neg c6] at H
        exact absurd H (by simp)
    · rw [if_neg c5] at H
      exact absurd H (by simp)

end Go.Proofs.YtfbenlenihlpbaaDoor.PDigits
