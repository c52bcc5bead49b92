/- The walks of the law FnDays: the package's number of days of a month, which it reads off a package-level table, and the law itself. -/
import Derived.Test.YtjefbpfpobgmaaaDoorPFnDaysx1
namespace Go.Proofs.YtjefbpfpobgmaaaDoor.DaysWalks
open Go.RowKit Go.Proofs.YtjefbpfpobgmaaaDoor.PFnDays Go.Proofs.YtjefbpfpobgmaaaDoorW.PrintWords Go.Proofs.YtjefbpfpobgmaaaDoorW.PrintLast Go.Proofs.YtjefbpfpobgmaaaDoorW.PrintMore

theorem getDays_feb (y : Int) (c : Bool) (w : World) (b o cap : Nat) (hb : excelize_isLeapYear.f y = some c)
    (hg : w.cell? ⟨0, 0, none⟩ = some (.slice (some ⟨b, o, none⟩) 12 cap)) (hc : w.cell? ⟨b, o + 1, none⟩ = some (.int .i64 28)) :
    Calls Tryd.prog 19 #[.int .i64 y, .int .i64 2] w fun e w' => e = .returned (.int .i64 (if c = true then 29 else 28)) ∧ Drawn0 w w' := by
  have H := Aside0.mk hb
  clear hb
  cases c
  all_goals
    go_enter Tryd.func19, Tryd.ntmps19
    go_wp2_with (go_at_call 22; refine (excelize_isLeapYear.calls y _ _ H.out).mono ?_; rintro e w' ⟨rfl, ⟨nd, rfl⟩⟩)
    go_ret
    exact ⟨by rfl, by repeat (first | exact Drawn0.refl _ | apply Drawn0.step)⟩
theorem getDays_other (y : Int) (j : Nat) (hj : j < 12) (hj1 : j ≠ 1) (v : Int) (w : World) (b o cap : Nat)
    (hg : w.cell? ⟨0, 0, none⟩ = some (.slice (some ⟨b, o, none⟩) 12 cap)) (hc : w.cell? ⟨b, o + j, none⟩ = some (.int .i64 v)) :
    Calls Tryd.prog 19 #[.int .i64 y, .int .i64 ((j : Int) + 1)] w fun e w' => e = .returned (.int .i64 v) ∧ Drawn0 w w' := by
  have h2 : ((j : Int) + 1 == 2) = false := beq_eq_false_iff_ne.2 (by omega)
  have h3 : (0 : Int) ≤ (j : Int) := by omega
  have h4 : (j : Int) < 12 := by omega
  have h5 : (j : Int) + 1 - 1 = (j : Int) := by omega
  go_enter Tryd.func19, Tryd.ntmps19
  go_wp2
  go_ret
  exact ⟨by rfl, by repeat (first | exact Drawn0.refl _ | apply Drawn0.step)⟩

/-- What the table's variable holds. -/
def Tab (w : World) : Prop := ∃ b o cap, w.cell? ⟨0, 0, none⟩ = some (.slice (some ⟨b, o, none⟩) 12 cap) ∧
  ∀ j, j < 12 → w.cell? ⟨b, o + j, none⟩ = some (.int .i64 (([31, 28, 31, 30, 31, 30, 31, 31, 30, 31, 30, 31] : List Int).getD j 0))
theorem Tab.drewN {w : World} (h : Tab w) (n : Nat) : Tab (w.drewN n) := h

/-- The package's answer for a month from 1 to 12. -/
def days (m : Int) (c : Bool) : Int := if m = 2 then (if c = true then 29 else 28) else ([31, 28, 31, 30, 31, 30, 31, 31, 30, 31, 30, 31] : List Int).getD (m.toNat - 1) 0

theorem getDays (y m : Int) (c : Bool) (w : World) (h1 : 1 ≤ m) (h2 : m ≤ 12) (hb : excelize_isLeapYear.f y = some c) (hT : Tab w) :
    Calls Tryd.prog 19 #[.int .i64 y, .int .i64 m] w fun e w' => e = .returned (.int .i64 (days m c)) ∧ Drawn0 w w' := by
  obtain ⟨b, o, cap, hg, hc⟩ := hT
  by_cases hm : m = 2
  · subst hm
    have hd : days 2 c = if c = true then 29 else 28 := rfl
    rw [hd]
    exact getDays_feb y c w b o cap hb hg (hc 1 (by omega))
  · obtain ⟨j, rfl⟩ : ∃ j : Nat, m = (j : Int) + 1 := ⟨m.toNat - 1, by omega⟩
    have hd : days ((j : Int) + 1) c = ([31, 28, 31, 30, 31, 30, 31, 31, 30, 31, 30, 31] : List Int).getD j 0 := by
      unfold days
      rw [if_neg hm, show ((j : Int) + 1).toNat - 1 = j from by omega]
    rw [hd]
    exact getDays_other y j (by omega) (by omega) _ w b o cap hg (hc j (by omega))
theorem door (y m : Int) (c : Bool) (w : World) (h1 : 1 ≤ m) (h2 : m ≤ 12) (hb : excelize_isLeapYear.f y = some c) (hT : Tab w) :
    Calls Tryd.prog 13 #[.int .i64 y, .int .i64 m] w fun e w' => e = .returned (.int .i64 (days m c)) ∧ Drawn0 w w' := by
  have H := Aside0.mk hb
  have K := Aside0.mk hT
  clear hb hT
  go_enter Tryd.func13, Tryd.ntmps13
  go_wp2_with (go_at_call 19; refine (getDays y m c _ h1 h2 H.out K.out).mono ?_; rintro e w' ⟨rfl, ⟨nd, rfl⟩⟩)
  go_ret
  exact ⟨by rfl, by repeat (first | exact Drawn0.refl _ | apply Drawn0.step)⟩
theorem impl (y m : Int) (c : Bool) (w : World) (h1 : 1 ≤ m) (h2 : m ≤ 12) (hb : excelize_isLeapYear.f y = some c) (hT : Tab w) :
    Calls Tryd.prog 6 #[.int .i64 y, .int .i64 m] w fun e w' => e = .returned (.int .i64 (days m c)) ∧ Drawn0 w w' := by
  have H := Aside0.mk hb
  have K := Aside0.mk hT
  clear hb hT
  go_enter Tryd.func6, Tryd.ntmps6
  go_wp2_with (go_at_call 13; refine (door y m c _ h1 h2 H.out K.out).mono ?_; rintro e w' ⟨rfl, ⟨nd, rfl⟩⟩)
  go_ret
  exact ⟨by rfl, by repeat (first | exact Drawn0.refl _ | apply Drawn0.step)⟩

theorem law (y m : Int) (c : Bool) (k : Nat) (w : World) (hb : excelize_isLeapYear.f y = some c) (hT : Tab w)
    (hd : ∀ m, 1 ≤ m → m ≤ 12 → spec_DayCount.f k y m = some (days m c)) :
    Calls Tryd.prog 3 #[.int .i64 y, .int .i64 m] w fun e w' => e = .returned (.bool true) ∧ Drawn0 w w' := by
  have H := Aside0.mk hb
  have K := Aside0.mk hT
  have D := Aside0.mk hd
  clear hb hT hd
  by_cases h1 : 1 ≤ m
  · by_cases h2 : m ≤ 12
    · go_enter Tryd.func3, Tryd.ntmps3
      go_wp2_with (first | (go_at_call 6; refine (impl y m c _ h1 h2 H.out K.out).mono ?_; rintro e w' ⟨rfl, ⟨nd, rfl⟩⟩) | (go_at_call 7; refine (spec_DayCount.calls k y m _ _ (D.out m h1 h2)).mono ?_; rintro e w' ⟨rfl, ⟨nd2, rfl⟩⟩))
      go_ret
      exact ⟨by simp, by repeat (first | exact Drawn0.refl _ | apply Drawn0.step)⟩
    · go_enter Tryd.func3, Tryd.ntmps3
      go_wp2_with (first | (go_at_call 6; refine (impl y 2 c _ (by omega) (by omega) H.out K.out).mono ?_; rintro e w' ⟨rfl, ⟨nd, rfl⟩⟩) | (go_at_call 7; refine (spec_DayCount.calls k y 2 _ _ (D.out 2 (by omega) (by omega))).mono ?_; rintro e w' ⟨rfl, ⟨nd2, rfl⟩⟩))
      go_ret
      exact ⟨by simp, by repeat (first | exact Drawn0.refl _ | apply Drawn0.step)⟩
  · go_enter Tryd.func3, Tryd.ntmps3
    go_wp2_with (first | (go_at_call 6; refine (impl y 2 c _ (by omega) (by omega) H.out K.out).mono ?_; rintro e w' ⟨rfl, ⟨nd, rfl⟩⟩) | (go_at_call 7; refine (spec_DayCount.calls k y 2 _ _ (D.out 2 (by omega) (by omega))).mono ?_; rintro e w' ⟨rfl, ⟨nd2, rfl⟩⟩))
    go_ret
    exact ⟨by simp, by repeat (first | exact Drawn0.refl _ | apply Drawn0.step)⟩
end Go.Proofs.YtjefbpfpobgmaaaDoor.DaysWalks
