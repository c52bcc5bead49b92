/- Contracts of functions that the text "To" uses: the call ends in what the plain Lean function says, where that says something. Written by a program of this session. No conditions. -/
import Derived.Test.YtmcppajgfhmpaaaGreatDoorPToA
section
namespace Go.Proofs.YtmcppajgfhmpaaaGreatDoor.PTo
open Go.RowKit Go.Proofs.YtmcppajgfhmpaaaGreatDoorW.PrintWords Go.Proofs.YtmcppajgfhmpaaaGreatDoorW.PrintLast Go.Proofs.YtmcppajgfhmpaaaGreatDoorW.PrintMore
attribute [local go_sem] max2_int min2_int max_two min_two max_three min_three max_four min_four   -- for this text's walks alone
set_option linter.unusedVariables false
set_option linter.unusedSimpArgs false

/-! ### laws_refHas: function 19 -/
mutual
def laws_refHas.l0 : Nat → List (S63) → Int → Int → Int → Option (Bool)
  | 0, _, _, _, _ => none
  | k + 1, x0, x1, x2, x7 => if x7 < (x0.length : Int) then (laws_refHas.l1 k x0 x1 x2 x7 0) else (some false)
def laws_refHas.l1 : Nat → List (S63) → Int → Int → Int → Int → Option (Bool)
  | 0, _, _, _, _, _ => none
  | k + 1, x0, x1, x2, x7, x8 => if 0 ≤ x7 then (if x7 < (x0.length : Int) then (if x8 < (((rd_T63 x0 x7).f1).length : Int) then (if ((rd_T63 x0 x7).f0) = x1 then (if 0 ≤ x8 then (if (rd ((rd_T63 x0 x7).f1) x8) = x2 then (some true) else (laws_refHas.l1 k x0 x1 x2 x7 (wrap64 (x8 + 1)))) else (none)) else (laws_refHas.l1 k x0 x1 x2 x7 (wrap64 (x8 + 1)))) else (laws_refHas.l0 k x0 x1 x2 (wrap64 (x7 + 1)))) else (none)) else (none)
end
def laws_refHas.f (k : Nat) (l0 : List (S63)) (a1 : Int) (a2 : Int) : Option (Bool) := laws_refHas.l0 k l0 a1 a2 0
theorem laws_refHas.mono_l : ∀ k, (∀ y0 y1 y2 y3, LeO (laws_refHas.l0 k y0 y1 y2 y3) (laws_refHas.l0 (k + 1) y0 y1 y2 y3)) ∧ (∀ y0 y1 y2 y3 y4, LeO (laws_refHas.l1 k y0 y1 y2 y3 y4) (laws_refHas.l1 (k + 1) y0 y1 y2 y3 y4))
  | 0 => ⟨fun _ _ _ _ r h => by simp [laws_refHas.l0] at h, fun _ _ _ _ _ r h => by simp [laws_refHas.l1] at h⟩
  | k + 1 => by
    obtain ⟨ih0, ih1⟩ := laws_refHas.mono_l k
    refine ⟨?_, ?_⟩
    · intro y0 y1 y2 y3
      unfold laws_refHas.l0
      repeat' first
      | (with_reducible exact ih0 _ _ _ _)
      | (with_reducible exact ih1 _ _ _ _ _)
      | (with_reducible exact LeO.refl _)
      | (with_reducible exact LeO.none _)
      | (with_reducible refine LeO.ite ?_ ?_)
      | (with_reducible refine LeO.bind ?_ (fun _ => ?_))
      | exact ih0 _ _ _ _
      | exact ih1 _ _ _ _ _
      | exact LeO.none _
      | refine LeO.ite ?_ ?_
      | refine LeO.bind ?_ (fun _ => ?_)
    · intro y0 y1 y2 y3 y4
      unfold laws_refHas.l1
      repeat' first
      | (with_reducible exact ih0 _ _ _ _)
      | (with_reducible exact ih1 _ _ _ _ _)
      | (with_reducible exact LeO.refl _)
      | (with_reducible exact LeO.none _)
      | (with_reducible refine LeO.ite ?_ ?_)
      | (with_reducible refine LeO.bind ?_ (fun _ => ?_))
      | exact ih0 _ _ _ _
      | exact ih1 _ _ _ _ _
      | exact LeO.none _
      | refine LeO.ite ?_ ?_
      | refine LeO.bind ?_ (fun _ => ?_)
theorem laws_refHas.mono : ∀ a0 a1 a2 k, LeO (laws_refHas.f k a0 a1 a2) (laws_refHas.f (k + 1) a0 a1 a2) := by
  intro a0 a1 a2 k
  obtain ⟨ih0, ih1⟩ := laws_refHas.mono_l k
  unfold laws_refHas.f
  repeat' first
      | (with_reducible exact ih0 _ _ _ _)
      | (with_reducible exact ih1 _ _ _ _ _)
      | (with_reducible exact LeO.refl _)
      | (with_reducible exact LeO.none _)
      | (with_reducible refine LeO.ite ?_ ?_)
      | (with_reducible refine LeO.bind ?_ (fun _ => ?_))
      | exact ih0 _ _ _ _
      | exact ih1 _ _ _ _ _
      | exact LeO.none _
      | refine LeO.ite ?_ ?_
      | refine LeO.bind ?_ (fun _ => ?_)
set_option maxHeartbeats 8000000 in
set_option maxRecDepth 100000 in
theorem laws_refHas.calls (k : Nat) (A0 : Option Addr) (c0 : Nat) (l0 : List (S63)) (a1 : Int) (a2 : Int) (r : Bool) (w : World) (hr0 : Kd.C k63 w A0 l0.length l0) (hc0 : l0.length ≤ c0) (h : laws_refHas.f k l0 a1 a2 = some r) :
    Calls Tryz.prog 19 #[.slice A0 l0.length c0, .int .i64 a1, .int .i64 a2] w fun e w' => e = .returned (.bool r) ∧ Drawn0 w w' := by
  have HR0 := Aside0.mk hr0
  have HC0 := Aside0.mk hc0
  clear hr0 hc0
  have H : (laws_refHas.l0 k l0 a1 a2 0) = some r := h
  clear h
  have H' := Aside0.mk H
  clear H
  go_enter Tryz.func19, Tryz.ntmps19
  go_wp2
  go_loopg [7] k (fun kq v7 w' => ∃ (x7_1 : Int), v7 = .int .i64 x7_1 ∧ Aside0 (laws_refHas.l0 kq l0 a1 a2 x7_1 = some r) ∧ Aside0 (kq ≤ k) ∧ Drawn0 w w')
  case atStart => exact ⟨(0), (by first | rfl | (simp; done) | (simp [*]; done)), H', ⟨Nat.le_refl _⟩, by repeat (first | exact Drawn0.refl _ | apply Drawn0.step)⟩
  case round =>
    clear H'
    try clear c1
    try clear p2
    obtain ⟨x7_1, rfl, HA, HK1, ⟨m1, rfl⟩⟩ := hrel
    cases gk with
    | zero => exact absurd HA.out (by simp [laws_refHas.l0])
    | succ k1 =>
      have H := HA.out
      clear HA
      simp only [laws_refHas.l0] at H
      by_cases c4 : x7_1 < (l0.length : Int)
      · rw [if_pos c4] at H
        have c4b0 : decide (x7_1 < (l0.length : Int)) = true := decide_eq_true c4
        clear c4
        have H' := Aside0.mk H
        clear H
        go_wp2
        go_loopg [8] k1 (fun kq v8 w' => ∃ (x8_2 : Int), v8 = .int .i64 x8_2 ∧ Aside0 (laws_refHas.l1 kq l0 a1 a2 x7_1 x8_2 = some r) ∧ Aside0 (kq ≤ k1) ∧ Drawn0 w w')
        case atStart => exact ⟨(0), (by first | rfl | (simp; done) | (simp [*]; done)), H', ⟨Nat.le_refl _⟩, by repeat (first | exact Drawn0.refl _ | apply Drawn0.step)⟩
        case round =>
          clear H'
          try clear c1
          try clear p2
          try clear c4
          try clear c4b0
          try clear p2
          obtain ⟨x8_2, rfl, HA, HK2, ⟨m2, rfl⟩⟩ := hrel
          cases gk with
          | zero => exact absurd HA.out (by simp [laws_refHas.l1])
          | succ k2 =>
            have H := HA.out
            clear HA
            simp only [laws_refHas.l1] at H
            by_cases c5 : 0 ≤ x7_1
            · rw [if_pos c5] at H
              have c5b0 : decide (0 ≤ x7_1) = true := decide_eq_true c5
              clear c5
              by_cases c6 : x7_1 < (l0.length : Int)
              · rw [if_pos c6] at H
                have c6b0 : decide (x7_1 < (l0.length : Int)) = true := decide_eq_true c6
                clear c6
                by_cases c7 : x8_2 < (((rd_T63 l0 x7_1).f1).length : Int)
                · rw [if_pos c7] at H
                  have c7b0 : decide (x8_2 < (((rd_T63 l0 x7_1).f1).length : Int)) = true := decide_eq_true c7
                  clear c7
                  by_cases c8 : ((rd_T63 l0 x7_1).f0) = a1
                  · rw [if_pos c8] at H
                    have c8b0 : (((rd_T63 l0 x7_1).f0) == a1) = true := beq_iff_eq.mpr c8
                    have c8b1 : (((rd_T63 l0 x7_1).f0) != a1) = false := bne_eq_false_iff_eq.mpr c8
                    clear c8
                    by_cases c9 : 0 ≤ x8_2
                    · rw [if_pos c9] at H
                      have c9b0 : decide (0 ≤ x8_2) = true := decide_eq_true c9
                      clear c9
                      by_cases c10 : (rd ((rd_T63 l0 x7_1).f1) x8_2) = a2
                      · rw [if_pos c10] at H
                        have c10b0 : ((rd ((rd_T63 l0 x7_1).f1) x8_2) == a2) = true := beq_iff_eq.mpr c10
                        have c10b1 : ((rd ((rd_T63 l0 x7_1).f1) x8_2) != a2) = false := bne_eq_false_iff_eq.mpr c10
                        clear c10
                        obtain rfl := Option.some.inj H
                        have p147 : 0 ≤ (x7_1 : Int) := of_decide_eq_true (by first | (with_reducible assumption) | assumption)
                        have q147 : x7_1 < (l0.length : Int) := of_decide_eq_true (by first | (with_reducible assumption) | assumption)
                        obtain ⟨ad147, A147_1, c147_1, e147, hx147_0, hx147_1, hl147_1, hi147_1⟩ := at_T63 HR0.out x7_1 p147 q147
                        cases e147
                        have HR147_1 := Aside0.mk hi147_1
                        have HC147_1 := Aside0.mk hl147_1
                        clear hi147_1 hl147_1
                        replace p147 := eq_true p147
                        replace q147 := eq_true q147
                        have p148 : 0 ≤ (x7_1 : Int) := of_decide_eq_true (by first | (with_reducible assumption) | assumption)
                        have q148 : x7_1 < (l0.length : Int) := of_decide_eq_true (by first | (with_reducible assumption) | assumption)
                        obtain ⟨ad148, A148_1, c148_1, e148, hx148_0, hx148_1, hl148_1, hi148_1⟩ := at_T63 HR0.out x7_1 p148 q148
                        obtain rfl : ad147 = ad148 := (by injection e148)
                        have HR148_1 := Aside0.mk hi148_1
                        have HC148_1 := Aside0.mk hl148_1
                        clear hi148_1 hl148_1
                        replace p148 := eq_true p148
                        replace q148 := eq_true q148
                        have ea_ := Option.some.inj (hx147_1.symm.trans hx148_1)
                        injection ea_ with ea_ en_ ec_
                        subst ea_
                        subst ec_
                        clear en_
                        have p149 : 0 ≤ (x7_1 : Int) := of_decide_eq_true (by first | (with_reducible assumption) | assumption)
                        have q149 : x7_1 < (l0.length : Int) := of_decide_eq_true (by first | (with_reducible assumption) | assumption)
                        obtain ⟨ad149, A149_1, c149_1, e149, hx149_0, hx149_1, hl149_1, hi149_1⟩ := at_T63 HR0.out x7_1 p149 q149
                        obtain rfl : ad147 = ad149 := (by injection e149)
                        have HR149_1 := Aside0.mk hi149_1
                        have HC149_1 := Aside0.mk hl149_1
                        clear hi149_1 hl149_1
                        replace p149 := eq_true p149
                        replace q149 := eq_true q149
                        have ea_ := Option.some.inj (hx147_1.symm.trans hx149_1)
                        injection ea_ with ea_ en_ ec_
                        subst ea_
                        subst ec_
                        clear en_
                        have p150 : 0 ≤ (x8_2 : Int) := of_decide_eq_true (by first | (with_reducible assumption) | assumption)
                        have q150 : x8_2 < (((rd_T63 l0 x7_1).f1).length : Int) := of_decide_eq_true (by first | (with_reducible assumption) | assumption)
                        obtain ⟨ad150, e150, hx150_0⟩ := Kd.at_int HR149_1.out x8_2 p150 q150
                        cases e150
                        replace p150 := eq_true p150
                        replace q150 := eq_true q150
                        go_wp2
                        go_ret
                        exact ⟨by first | rfl | (simp; done) | (simp [*]; done), by repeat (first | exact Drawn0.refl _ | apply Drawn0.step)⟩
                      · rw [if_neg c10] at H
                        have c10b0 : ((rd ((rd_T63 l0 x7_1).f1) x8_2) == a2) = false := beq_eq_false_iff_ne.mpr c10
                        have c10b1 : ((rd ((rd_T63 l0 x7_1).f1) x8_2) != a2) = true := bne_iff_ne.mpr c10
                        have H' := Aside0.mk H
                        clear H
                        have p147 : 0 ≤ (x7_1 : Int) := of_decide_eq_true (by first | (with_reducible assumption) | assumption)
                        have q147 : x7_1 < (l0.length : Int) := of_decide_eq_true (by first | (with_reducible assumption) | assumption)
                        obtain ⟨ad147, A147_1, c147_1, e147, hx147_0, hx147_1, hl147_1, hi147_1⟩ := at_T63 HR0.out x7_1 p147 q147
                        cases e147
                        have HR147_1 := Aside0.mk hi147_1
                        have HC147_1 := Aside0.mk hl147_1
                        clear hi147_1 hl147_1
                        replace p147 := eq_true p147
                        replace q147 := eq_true q147
                        have p148 : 0 ≤ (x7_1 : Int) := of_decide_eq_true (by first | (with_reducible assumption) | assumption)
                        have q148 : x7_1 < (l0.length : Int) := of_decide_eq_true (by first | (with_reducible assumption) | assumption)
                        obtain ⟨ad148, A148_1, c148_1, e148, hx148_0, hx148_1, hl148_1, hi148_1⟩ := at_T63 HR0.out x7_1 p148 q148
                        obtain rfl : ad147 = ad148 := (by injection e148)
                        have HR148_1 := Aside0.mk hi148_1
                        have HC148_1 := Aside0.mk hl148_1
                        clear hi148_1 hl148_1
                        replace p148 := eq_true p148
                        replace q148 := eq_true q148
                        have ea_ := Option.some.inj (hx147_1.symm.trans hx148_1)
                        injection ea_ with ea_ en_ ec_
                        subst ea_
                        subst ec_
                        clear en_
                        have p149 : 0 ≤ (x7_1 : Int) := of_decide_eq_true (by first | (with_reducible assumption) | assumption)
                        have q149 : x7_1 < (l0.length : Int) := of_decide_eq_true (by first | (with_reducible assumption) | assumption)
                        obtain ⟨ad149, A149_1, c149_1, e149, hx149_0, hx149_1, hl149_1, hi149_1⟩ := at_T63 HR0.out x7_1 p149 q149
                        obtain rfl : ad147 = ad149 := (by injection e149)
                        have HR149_1 := Aside0.mk hi149_1
                        have HC149_1 := Aside0.mk hl149_1
                        clear hi149_1 hl149_1
                        replace p149 := eq_true p149
                        replace q149 := eq_true q149
                        have ea_ := Option.some.inj (hx147_1.symm.trans hx149_1)
                        injection ea_ with ea_ en_ ec_
                        subst ea_
                        subst ec_
                        clear en_
                        have p150 : 0 ≤ (x8_2 : Int) := of_decide_eq_true (by first | (with_reducible assumption) | assumption)
                        have q150 : x8_2 < (((rd_T63 l0 x7_1).f1).length : Int) := of_decide_eq_true (by first | (with_reducible assumption) | assumption)
                        obtain ⟨ad150, e150, hx150_0⟩ := Kd.at_int HR149_1.out x8_2 p150 q150
                        cases e150
                        replace p150 := eq_true p150
                        replace q150 := eq_true q150
                        go_wp2
                        go_roundg k2
                        case measure => have := HK1.out; have := HK2.out; omega
                        case rel => exact ⟨(wrap64 (x8_2 + 1)), (by first | rfl | (simp; done) | (simp [*]; done)), H', ⟨by have := HK1.out; have := HK2.out; omega⟩, by repeat (first | exact Drawn0.refl _ | apply Drawn0.step)⟩
                    · rw [if_neg c9] at H
                      exact absurd H (by simp)
                  · rw [if_neg c8] at H
                    have c8b0 : (((rd_T63 l0 x7_1).f0) == a1) = false := beq_eq_false_iff_ne.mpr c8
                    have c8b1 : (((rd_T63 l0 x7_1).f0) != a1) = true := bne_iff_ne.mpr c8
                    have H' := Aside0.mk H
                    clear H
                    have p147 : 0 ≤ (x7_1 : Int) := of_decide_eq_true (by first | (with_reducible assumption) | assumption)
                    have q147 : x7_1 < (l0.length : Int) := of_decide_eq_true (by first | (with_reducible assumption) | assumption)
                    obtain ⟨ad147, A147_1, c147_1, e147, hx147_0, hx147_1, hl147_1, hi147_1⟩ := at_T63 HR0.out x7_1 p147 q147
                    cases e147
                    have HR147_1 := Aside0.mk hi147_1
                    have HC147_1 := Aside0.mk hl147_1
                    clear hi147_1 hl147_1
                    replace p147 := eq_true p147
                    replace q147 := eq_true q147
                    have p148 : 0 ≤ (x7_1 : Int) := of_decide_eq_true (by first | (with_reducible assumption) | assumption)
                    have q148 : x7_1 < (l0.length : Int) := of_decide_eq_true (by first | (with_reducible assumption) | assumption)
                    obtain ⟨ad148, A148_1, c148_1, e148, hx148_0, hx148_1, hl148_1, hi148_1⟩ := at_T63 HR0.out x7_1 p148 q148
                    obtain rfl : ad147 = ad148 := (by injection e148)
                    have HR148_1 := Aside0.mk hi148_1
                    have HC148_1 := Aside0.mk hl148_1
                    clear hi148_1 hl148_1
                    replace p148 := eq_true p148
                    replace q148 := eq_true q148
                    have ea_ := Option.some.inj (hx147_1.symm.trans hx148_1)
                    injection ea_ with ea_ en_ ec_
                    subst ea_
                    subst ec_
                    clear en_
                    go_wp2
                    go_roundg k2
                    case measure => have := HK1.out; have := HK2.out; omega
                    case rel => exact ⟨(wrap64 (x8_2 + 1)), (by first | rfl | (simp; done) | (simp [*]; done)), H', ⟨by have := HK1.out; have := HK2.out; omega⟩, by repeat (first | exact Drawn0.refl _ | apply Drawn0.step)⟩
                · rw [if_neg c7] at H
                  have c7b0 : decide (x8_2 < (((rd_T63 l0 x7_1).f1).length : Int)) = false := decide_eq_false c7
                  clear c7
                  have H' := Aside0.mk H
                  clear H
                  have p147 : 0 ≤ (x7_1 : Int) := of_decide_eq_true (by first | (with_reducible assumption) | assumption)
                  have q147 : x7_1 < (l0.length : Int) := of_decide_eq_true (by first | (with_reducible assumption) | assumption)
                  obtain ⟨ad147, A147_1, c147_1, e147, hx147_0, hx147_1, hl147_1, hi147_1⟩ := at_T63 HR0.out x7_1 p147 q147
                  cases e147
                  have HR147_1 := Aside0.mk hi147_1
                  have HC147_1 := Aside0.mk hl147_1
                  clear hi147_1 hl147_1
                  replace p147 := eq_true p147
                  replace q147 := eq_true q147
                  go_wp2
                  go_roundg k2
                  case measure => have := HK1.out; have := HK2.out; omega
                  case rel => exact ⟨(wrap64 (x7_1 + 1)), (by first | rfl | (simp; done) | (simp [*]; done)), H', ⟨by have := HK1.out; have := HK2.out; omega⟩, by repeat (first | exact Drawn0.refl _ | apply Drawn0.step)⟩
              · rw [if_neg c6] at H
                exact absurd H (by simp)
            · rw [if_neg c5] at H
              exact absurd H (by simp)
      · rw [if_neg c4] at H
        have c4b0 : decide (x7_1 < (l0.length : Int)) = false := decide_eq_false c4
        clear c4
        obtain rfl := Option.some.inj H
        go_wp2
        go_ret
        exact ⟨by first | rfl | (simp; done) | (simp [*]; done), by repeat (first | exact Drawn0.refl _ | apply Drawn0.step)⟩

end Go.Proofs.YtmcppajgfhmpaaaGreatDoor.PTo
end

section
namespace Go.Proofs.YtmcppajgfhmpaaaGreatDoor.PTo
open Go.RowKit Go.Proofs.YtmcppajgfhmpaaaGreatDoorW.PrintWords Go.Proofs.YtmcppajgfhmpaaaGreatDoorW.PrintLast Go.Proofs.YtmcppajgfhmpaaaGreatDoorW.PrintMore
attribute [local go_sem] max2_int min2_int max_two min_two max_three min_three max_four min_four   -- for this text's walks alone
set_option linter.unusedVariables false
set_option linter.unusedSimpArgs false

/-! ### laws_refCovers: function 8 -/
mutual
def laws_refCovers.l0 : Nat → List (S63) → List (S34) → List (S34) → Int → Option (Bool)
  | 0, _, _, _, _ => none
  | k + 1, x0, x1, x2, x7 => if x7 ≤ 30 then (laws_refCovers.l1 k x0 x1 x2 x7 1) else (some true)
def laws_refCovers.l1 : Nat → List (S63) → List (S34) → List (S34) → Int → Int → Option (Bool)
  | 0, _, _, _, _, _ => none
  | k + 1, x0, x1, x2, x7, x8 => if x8 ≤ 60 then (laws_refCovers.l2 k x0 x1 x2 x7 x8 false 0) else (laws_refCovers.l0 k x0 x1 x2 (wrap64 (x7 + 1)))
def laws_refCovers.l2 : Nat → List (S63) → List (S34) → List (S34) → Int → Int → Bool → Int → Option (Bool)
  | 0, _, _, _, _, _, _, _ => none
  | k + 1, x0, x1, x2, x7, x8, x9, x10 => if x10 < (x1.length : Int) then (if x9 = true then (laws_refCovers.l2 k x0 x1 x2 x7 x8 true (wrap64 (x10 + 1))) else (if 0 ≤ x10 then ((spec_GridWithin.f x7 x8 ((rd_T34 x1 x10).f0) ((rd_T34 x1 x10).f1) ((rd_T34 x1 x10).f2) ((rd_T34 x1 x10).f3)).bind fun t152 => (laws_refCovers.l2 k x0 x1 x2 x7 x8 t152 (wrap64 (x10 + 1)))) else (none))) else (laws_refCovers.l3 k x0 x1 x2 x7 x8 x9 0)
def laws_refCovers.l3 : Nat → List (S63) → List (S34) → List (S34) → Int → Int → Bool → Int → Option (Bool)
  | 0, _, _, _, _, _, _, _ => none
  | k + 1, x0, x1, x2, x7, x8, x9, x11 => if x11 < (x2.length : Int) then (if x9 = true then (if 0 ≤ x11 then ((spec_GridWithin.f x7 x8 ((rd_T34 x2 x11).f0) ((rd_T34 x2 x11).f1) ((rd_T34 x2 x11).f2) ((rd_T34 x2 x11).f3)).bind fun t154 => (laws_refCovers.l3 k x0 x1 x2 x7 x8 (!t154) (wrap64 (x11 + 1)))) else (none)) else (laws_refCovers.l3 k x0 x1 x2 x7 x8 false (wrap64 (x11 + 1)))) else ((laws_refHas.f k x0 x7 x8).bind fun t155 => (if (t155 != x9) = true then (some false) else (laws_refCovers.l1 k x0 x1 x2 x7 (wrap64 (x8 + 1)))))
end
def laws_refCovers.f (k : Nat) (l0 : List (S63)) (l1 : List (S34)) (l2 : List (S34)) : Option (Bool) := laws_refCovers.l0 k l0 l1 l2 1
theorem laws_refCovers.mono_l : ∀ k, (∀ y0 y1 y2 y3, LeO (laws_refCovers.l0 k y0 y1 y2 y3) (laws_refCovers.l0 (k + 1) y0 y1 y2 y3)) ∧ (∀ y0 y1 y2 y3 y4, LeO (laws_refCovers.l1 k y0 y1 y2 y3 y4) (laws_refCovers.l1 (k + 1) y0 y1 y2 y3 y4)) ∧ (∀ y0 y1 y2 y3 y4 y5 y6, LeO (laws_refCovers.l2 k y0 y1 y2 y3 y4 y5 y6) (laws_refCovers.l2 (k + 1) y0 y1 y2 y3 y4 y5 y6)) ∧ (∀ y0 y1 y2 y3 y4 y5 y6, LeO (laws_refCovers.l3 k y0 y1 y2 y3 y4 y5 y6) (laws_refCovers.l3 (k + 1) y0 y1 y2 y3 y4 y5 y6))
  | 0 => ⟨fun _ _ _ _ r h => by simp [laws_refCovers.l0] at h, fun _ _ _ _ _ r h => by simp [laws_refCovers.l1] at h, fun _ _ _ _ _ _ _ r h => by simp [laws_refCovers.l2] at h, fun _ _ _ _ _ _ _ r h => by simp [laws_refCovers.l3] at h⟩
  | k + 1 => by
    obtain ⟨ih0, ih1, ih2, ih3⟩ := laws_refCovers.mono_l k
    refine ⟨?_, ?_, ?_, ?_⟩
    · intro y0 y1 y2 y3
      unfold laws_refCovers.l0
      repeat' first
      | (with_reducible exact ih0 _ _ _ _)
      | (with_reducible exact ih1 _ _ _ _ _)
      | (with_reducible exact ih2 _ _ _ _ _ _ _)
      | (with_reducible exact ih3 _ _ _ _ _ _ _)
      | (with_reducible exact laws_refHas.mono _ _ _ _)
      | (with_reducible exact LeO.refl _)
      | (with_reducible exact LeO.none _)
      | (with_reducible refine LeO.ite ?_ ?_)
      | (with_reducible refine LeO.bind ?_ (fun _ => ?_))
      | exact ih0 _ _ _ _
      | exact ih1 _ _ _ _ _
      | exact ih2 _ _ _ _ _ _ _
      | exact ih3 _ _ _ _ _ _ _
      | exact laws_refHas.mono _ _ _ _
      | exact LeO.none _
      | refine LeO.ite ?_ ?_
      | refine LeO.bind ?_ (fun _ => ?_)
    · intro y0 y1 y2 y3 y4
      unfold laws_refCovers.l1
      repeat' first
      | (with_reducible exact ih0 _ _ _ _)
      | (with_reducible exact ih1 _ _ _ _ _)
      | (with_reducible exact ih2 _ _ _ _ _ _ _)
      | (with_reducible exact ih3 _ _ _ _ _ _ _)
      | (with_reducible exact laws_refHas.mono _ _ _ _)
      | (with_reducible exact LeO.refl _)
      | (with_reducible exact LeO.none _)
      | (with_reducible refine LeO.ite ?_ ?_)
      | (with_reducible refine LeO.bind ?_ (fun _ => ?_))
      | exact ih0 _ _ _ _
      | exact ih1 _ _ _ _ _
      | exact ih2 _ _ _ _ _ _ _
      | exact ih3 _ _ _ _ _ _ _
      | exact laws_refHas.mono _ _ _ _
      | exact LeO.none _
      | refine LeO.ite ?_ ?_
      | refine LeO.bind ?_ (fun _ => ?_)
    · intro y0 y1 y2 y3 y4 y5 y6
      unfold laws_refCovers.l2
      repeat' first
      | (with_reducible exact ih0 _ _ _ _)
      | (with_reducible exact ih1 _ _ _ _ _)
      | (with_reducible exact ih2 _ _ _ _ _ _ _)
      | (with_reducible exact ih3 _ _ _ _ _ _ _)
      | (with_reducible exact laws_refHas.mono _ _ _ _)
      | (with_reducible exact LeO.refl _)
      | (with_reducible exact LeO.none _)
      | (with_reducible refine LeO.ite ?_ ?_)
      | (with_reducible refine LeO.bind ?_ (fun _ => ?_))
      | exact ih0 _ _ _ _
      | exact ih1 _ _ _ _ _
      | exact ih2 _ _ _ _ _ _ _
      | exact ih3 _ _ _ _ _ _ _
      | exact laws_refHas.mono _ _ _ _
      | exact LeO.none _
      | refine LeO.ite ?_ ?_
      | refine LeO.bind ?_ (fun _ => ?_)
    · intro y0 y1 y2 y3 y4 y5 y6
      unfold laws_refCovers.l3
      repeat' first
      | (with_reducible exact ih0 _ _ _ _)
      | (with_reducible exact ih1 _ _ _ _ _)
      | (with_reducible exact ih2 _ _ _ _ _ _ _)
      | (with_reducible exact ih3 _ _ _ _ _ _ _)
      | (with_reducible exact laws_refHas.mono _ _ _ _)
      | (with_reducible exact LeO.refl _)
      | (with_reducible exact LeO.none _)
      | (with_reducible refine LeO.ite ?_ ?_)
      | (with_reducible refine LeO.bind ?_ (fun _ => ?_))
      | exact ih0 _ _ _ _
      | exact ih1 _ _ _ _ _
      | exact ih2 _ _ _ _ _ _ _
      | exact ih3 _ _ _ _ _ _ _
      | exact laws_refHas.mono _ _ _ _
      | exact LeO.none _
      | refine LeO.ite ?_ ?_
      | refine LeO.bind ?_ (fun _ => ?_)
theorem laws_refCovers.mono : ∀ a0 a1 a2 k, LeO (laws_refCovers.f k a0 a1 a2) (laws_refCovers.f (k + 1) a0 a1 a2) := by
  intro a0 a1 a2 k
  obtain ⟨ih0, ih1, ih2, ih3⟩ := laws_refCovers.mono_l k
  unfold laws_refCovers.f
  repeat' first
      | (with_reducible exact ih0 _ _ _ _)
      | (with_reducible exact ih1 _ _ _ _ _)
      | (with_reducible exact ih2 _ _ _ _ _ _ _)
      | (with_reducible exact ih3 _ _ _ _ _ _ _)
      | (with_reducible exact laws_refHas.mono _ _ _ _)
      | (with_reducible exact LeO.refl _)
      | (with_reducible exact LeO.none _)
      | (with_reducible refine LeO.ite ?_ ?_)
      | (with_reducible refine LeO.bind ?_ (fun _ => ?_))
      | exact ih0 _ _ _ _
      | exact ih1 _ _ _ _ _
      | exact ih2 _ _ _ _ _ _ _
      | exact ih3 _ _ _ _ _ _ _
      | exact laws_refHas.mono _ _ _ _
      | exact LeO.none _
      | refine LeO.ite ?_ ?_
      | refine LeO.bind ?_ (fun _ => ?_)
set_option maxHeartbeats 8000000 in
set_option maxRecDepth 100000 in
theorem laws_refCovers.calls (k : Nat) (A0 : Option Addr) (c0 : Nat) (l0 : List (S63)) (A1 : Option Addr) (c1 : Nat) (l1 : List (S34)) (A2 : Option Addr) (c2 : Nat) (l2 : List (S34)) (r : Bool) (w : World) (hr0 : Kd.C k63 w A0 l0.length l0) (hc0 : l0.length ≤ c0) (hr1 : Kd.C k34 w A1 l1.length l1) (hc1 : l1.length ≤ c1) (hr2 : Kd.C k34 w A2 l2.length l2) (hc2 : l2.length ≤ c2) (h : laws_refCovers.f k l0 l1 l2 = some r) :
    Calls Tryz.prog 8 #[.slice A0 l0.length c0, .slice A1 l1.length c1, .slice A2 l2.length c2] w fun e w' => e = .returned (.bool r) ∧ Below w.heap.size w w' := by
  have hu34 := Tryz.underlying34
  have HR0 := Aside0.mk hr0
  have HC0 := Aside0.mk hc0
  clear hr0 hc0
  have HR1 := Aside0.mk hr1
  have HC1 := Aside0.mk hc1
  clear hr1 hc1
  have HR2 := Aside0.mk hr2
  have HC2 := Aside0.mk hc2
  clear hr2 hc2
  have HB := Aside0.mk (Below.refl w.heap.size w)
  have H : (laws_refCovers.l0 k l0 l1 l2 1) = some r := h
  clear h
  have H' := Aside0.mk H
  clear H
  go_enter Tryz.func8, Tryz.ntmps8
  go_wp2
  go_loopg [7] k (fun kq v7 w' => ∃ (x7_1 : Int), v7 = .int .i64 x7_1 ∧ Aside0 (laws_refCovers.l0 kq l0 l1 l2 x7_1 = some r) ∧ Aside0 (kq ≤ k) ∧ Aside0 (Below w.heap.size w w'))
  case atStart => exact ⟨(1), (by first | rfl | (simp; done) | (simp [*]; done)), H', ⟨Nat.le_refl _⟩, ⟨by repeat (first | (with_reducible first | exact HB.out | apply below_alloc | apply pw_below_drewN | apply below_drew1) | exact HB.out)⟩⟩
  case round =>
    clear H'
    try clear c1
    try clear c2
    try clear p2
    obtain ⟨x7_1, rfl, HA, HK1, HB⟩ := hrel
    cases gk with
    | zero => exact absurd HA.out (by simp [laws_refCovers.l0])
    | succ k1 =>
      have H := HA.out
      clear HA
      simp only [laws_refCovers.l0] at H
      by_cases c4 : x7_1 ≤ 30
      · rw [if_pos c4] at H
        have c4b0 : decide (x7_1 ≤ 30) = true := decide_eq_true c4
        clear c4
        have H' := Aside0.mk H
        clear H
        go_wp2
        go_loopg [8] k1 (fun kq v8 w' => ∃ (x8_2 : Int), v8 = .int .i64 x8_2 ∧ Aside0 (laws_refCovers.l1 kq l0 l1 l2 x7_1 x8_2 = some r) ∧ Aside0 (kq ≤ k1) ∧ Aside0 (Below w.heap.size w w'))
        case atStart => exact ⟨(1), (by first | rfl | (simp; done) | (simp [*]; done)), H', ⟨Nat.le_refl _⟩, ⟨by repeat (first | (with_reducible first | exact HB.out | apply below_alloc | apply pw_below_drewN | apply below_drew1) | exact HB.out)⟩⟩
        case round =>
          clear H'
          try clear c1
          try clear c2
          try clear p2
          try clear c4
          try clear c4b0
          try clear p2
          obtain ⟨x8_2, rfl, HA, HK2, HB⟩ := hrel
          cases gk with
          | zero => exact absurd HA.out (by simp [laws_refCovers.l1])
          | succ k2 =>
            have H := HA.out
            clear HA
            simp only [laws_refCovers.l1] at H
            by_cases c5 : x8_2 ≤ 60
            · rw [if_pos c5] at H
              have c5b0 : decide (x8_2 ≤ 60) = true := decide_eq_true c5
              clear c5
              have H' := Aside0.mk H
              clear H
              go_wp2
              go_loopg [9, 10] k2 (fun kq v9 v10 w' => ∃ (x9_3 : Bool) (x10_3 : Int), v9 = .bool x9_3 ∧ v10 = .int .i64 x10_3 ∧ Aside0 (laws_refCovers.l2 kq l0 l1 l2 x7_1 x8_2 x9_3 x10_3 = some r) ∧ Aside0 (kq ≤ k2) ∧ Aside0 (Below w.heap.size w w'))
              case atStart => exact ⟨(false), (0), (by first | rfl | (simp; done) | (simp [*]; done)), (by first | rfl | (simp; done) | (simp [*]; done)), H', ⟨Nat.le_refl _⟩, ⟨by repeat (first | (with_reducible first | exact HB.out | apply below_alloc | apply pw_below_drewN | apply below_drew1) | exact HB.out)⟩⟩
              case round =>
                clear H'
                try clear c1
                try clear c2
                try clear p2
                try clear c4
                try clear c4b0
                try clear c5
                try clear c5b0
                try clear p2
                obtain ⟨x9_3, x10_3, rfl, rfl, HA, HK3, HB⟩ := hrel
                cases gk with
                | zero => exact absurd HA.out (by simp [laws_refCovers.l2])
                | succ k3 =>
                  have H := HA.out
                  clear HA
                  simp only [laws_refCovers.l2] at H
                  by_cases c6 : x10_3 < (l1.length : Int)
                  · rw [if_pos c6] at H
                    have c6b0 : decide (x10_3 < (l1.length : Int)) = true := decide_eq_true c6
                    clear c6
                    by_cases c7 : x9_3 = true
                    · subst c7
                      have H1 : (laws_refCovers.l2 k3 l0 l1 l2 x7_1 x8_2 true (wrap64 (x10_3 + 1))) = some r := by rw [if_pos rfl] at H; exact H
                      clear H
                      have H := H1
                      clear H1
                      have H' := Aside0.mk H
                      clear H
                      go_wp2
                      go_roundg k3
                      case measure => have := HK1.out; have := HK2.out; have := HK3.out; omega
                      case rel => exact ⟨(true), (wrap64 (x10_3 + 1)), (by first | rfl | (simp; done) | (simp [*]; done)), (by first | rfl | (simp; done) | (simp [*]; done)), H', ⟨by have := HK1.out; have := HK2.out; have := HK3.out; omega⟩, ⟨by repeat (first | (with_reducible first | exact HB.out | apply below_alloc | apply pw_below_drewN | apply below_drew1) | exact HB.out)⟩⟩
                    · replace c7 := Bool.eq_false_iff.mpr c7
                      subst c7
                      have H1 : (if 0 ≤ x10_3 then ((spec_GridWithin.f x7_1 x8_2 ((rd_T34 l1 x10_3).f0) ((rd_T34 l1 x10_3).f1) ((rd_T34 l1 x10_3).f2) ((rd_T34 l1 x10_3).f3)).bind fun t152 => (laws_refCovers.l2 k3 l0 l1 l2 x7_1 x8_2 t152 (wrap64 (x10_3 + 1)))) else (none)) = some r := by rw [if_neg (show ¬ (false = true) by decide)] at H; exact H
                      clear H
                      have H := H1
                      clear H1
                      by_cases c8 : 0 ≤ x10_3
                      · rw [if_pos c8] at H
                        have c8b0 : decide (0 ≤ x10_3) = true := decide_eq_true c8
                        clear c8
                        replace H := Option.bind_eq_some_iff.mp H
                        obtain ⟨t152, A90, H⟩ := H
                        replace H : (laws_refCovers.l2 k3 l0 l1 l2 x7_1 x8_2 t152 (wrap64 (x10_3 + 1))) = some r := H
                        have A9 := Aside0.mk A90
                        clear A90
                        have H' := Aside0.mk H
                        clear H
                        have p151 : 0 ≤ (x10_3 : Int) := of_decide_eq_true (by first | (with_reducible assumption) | assumption)
                        have q151 : x10_3 < (l1.length : Int) := of_decide_eq_true (by first | (with_reducible assumption) | assumption)
                        obtain ⟨ad151, e151, hx151_0, hx151_1, hx151_2, hx151_3⟩ := at_T34 HR1.out x10_3 p151 q151
                        cases e151
                        replace hx151_0 := (HB.out.cell (World.block_lt_of_cell? w _ hx151_0)).trans hx151_0
                        replace hx151_1 := (HB.out.cell (World.block_lt_of_cell? w _ hx151_1)).trans hx151_1
                        replace hx151_2 := (HB.out.cell (World.block_lt_of_cell? w _ hx151_2)).trans hx151_2
                        replace hx151_3 := (HB.out.cell (World.block_lt_of_cell? w _ hx151_3)).trans hx151_3
                        replace p151 := eq_true p151
                        replace q151 := eq_true q151
                        go_wp2_with (first | (go_at_call 18; (with_reducible refine (spec_GridWithin.calls x7_1 x8_2 ((rd_T34 l1 x10_3).f0) ((rd_T34 l1 x10_3).f1) ((rd_T34 l1 x10_3).f2) ((rd_T34 l1 x10_3).f3) t152 _ A9.out).mono ?_); rintro e w10 ⟨rfl, hb⟩; have n0_ := Aside0.mk (below_step (by repeat (first | (with_reducible first | exact HB.out | apply below_alloc | apply pw_below_drewN | apply below_drew1) | exact HB.out)) hb); clear HB; have HB := n0_; clear n0_; (try clear hb); (try clear hb2); (try clear hk); (try clear hi)))
                        go_roundg k3
                        case measure => have := HK1.out; have := HK2.out; have := HK3.out; omega
                        case rel => exact ⟨(t152), (wrap64 (x10_3 + 1)), (by first | rfl | (simp; done) | (simp [*]; done)), (by first | rfl | (simp; done) | (simp [*]; done)), H', ⟨by have := HK1.out; have := HK2.out; have := HK3.out; omega⟩, ⟨by repeat (first | (with_reducible first | exact HB.out | apply below_alloc | apply pw_below_drewN | apply below_drew1) | exact HB.out)⟩⟩
                      · rw [if_neg c8] at H
                        exact absurd H (by simp)
                  · rw [if_neg c6] at H
                    have c6b0 : decide (x10_3 < (l1.length : Int)) = false := decide_eq_false c6
                    clear c6
                    have H' := Aside0.mk H
                    clear H
                    go_wp2
                    go_loopg [9, 11] k3 (fun kq v9 v11 w' => ∃ (x9_4 : Bool) (x11_4 : Int), v9 = .bool x9_4 ∧ v11 = .int .i64 x11_4 ∧ Aside0 (laws_refCovers.l3 kq l0 l1 l2 x7_1 x8_2 x9_4 x11_4 = some r) ∧ Aside0 (kq ≤ k3) ∧ Aside0 (Below w.heap.size w w'))
                    case atStart => exact ⟨(x9_3), (0), (by first | rfl | (simp; done) | (simp [*]; done)), (by first | rfl | (simp; done) | (simp [*]; done)), H', ⟨Nat.le_refl _⟩, ⟨by repeat (first | (with_reducible first | exact HB.out | apply below_alloc | apply pw_below_drewN | apply below_drew1) | exact HB.out)⟩⟩
                    case round =>
                      clear H'
                      try clear c1
                      try clear p1
                      try clear q1
                      try clear hx1
                      try clear c2
                      try clear p2
                      try clear c4
                      try clear c4b0
                      try clear c5
                      try clear c5b0
                      try clear c6
                      try clear c6b0
                      try clear p6
                      try clear c7
                      try clear c8
                      try clear c8b0
                      try clear hx151_0
                      try clear hx151_1
                      try clear hx151_2
                      try clear hx151_3
                      try clear p151
                      try clear p2
                      try clear q151
                      obtain ⟨x9_4, x11_4, rfl, rfl, HA, HK4, HB⟩ := hrel
                      cases gk with
                      | zero => exact absurd HA.out (by simp [laws_refCovers.l3])
                      | succ k4 =>
                        have H := HA.out
                        clear HA
                        simp only [laws_refCovers.l3] at H
                        by_cases c11 : x11_4 < (l2.length : Int)
                        · rw [if_pos c11] at H
                          have c11b0 : decide (x11_4 < (l2.length : Int)) = true := decide_eq_true c11
                          clear c11
                          by_cases c12 : x9_4 = true
                          · subst c12
                            have H1 : (if 0 ≤ x11_4 then ((spec_GridWithin.f x7_1 x8_2 ((rd_T34 l2 x11_4).f0) ((rd_T34 l2 x11_4).f1) ((rd_T34 l2 x11_4).f2) ((rd_T34 l2 x11_4).f3)).bind fun t154 => (laws_refCovers.l3 k4 l0 l1 l2 x7_1 x8_2 (!t154) (wrap64 (x11_4 + 1)))) else (none)) = some r := by rw [if_pos rfl] at H; exact H
                            clear H
                            have H := H1
                            clear H1
                            by_cases c13 : 0 ≤ x11_4
                            · rw [if_pos c13] at H
                              have c13b0 : decide (0 ≤ x11_4) = true := decide_eq_true c13
                              clear c13
                              replace H := Option.bind_eq_some_iff.mp H
                              obtain ⟨t154, A140, H⟩ := H
                              replace H : (laws_refCovers.l3 k4 l0 l1 l2 x7_1 x8_2 (!t154) (wrap64 (x11_4 + 1))) = some r := H
                              have A14 := Aside0.mk A140
                              clear A140
                              have H' := Aside0.mk H
                              clear H
                              have p153 : 0 ≤ (x11_4 : Int) := of_decide_eq_true (by first | (with_reducible assumption) | assumption)
                              have q153 : x11_4 < (l2.length : Int) := of_decide_eq_true (by first | (with_reducible assumption) | assumption)
                              obtain ⟨ad153, e153, hx153_0, hx153_1, hx153_2, hx153_3⟩ := at_T34 HR2.out x11_4 p153 q153
                              cases e153
                              replace hx153_0 := (HB.out.cell (World.block_lt_of_cell? w _ hx153_0)).trans hx153_0
                              replace hx153_1 := (HB.out.cell (World.block_lt_of_cell? w _ hx153_1)).trans hx153_1
                              replace hx153_2 := (HB.out.cell (World.block_lt_of_cell? w _ hx153_2)).trans hx153_2
                              replace hx153_3 := (HB.out.cell (World.block_lt_of_cell? w _ hx153_3)).trans hx153_3
                              replace p153 := eq_true p153
                              replace q153 := eq_true q153
                              go_wp2_with (first | (go_at_call 18; (with_reducible refine (spec_GridWithin.calls x7_1 x8_2 ((rd_T34 l2 x11_4).f0) ((rd_T34 l2 x11_4).f1) ((rd_T34 l2 x11_4).f2) ((rd_T34 l2 x11_4).f3) t154 _ A14.out).mono ?_); rintro e w15 ⟨rfl, hb⟩; have n0_ := Aside0.mk (below_step (by repeat (first | (with_reducible first | exact HB.out | apply below_alloc | apply pw_below_drewN | apply below_drew1) | exact HB.out)) hb); clear HB; have HB := n0_; clear n0_; (try clear hb); (try clear hb2); (try clear hk); (try clear hi)))
                              go_roundg k4
                              case measure => have := HK1.out; have := HK2.out; have := HK3.out; have := HK4.out; omega
                              case rel => exact ⟨(!t154), (wrap64 (x11_4 + 1)), (by first | rfl | (simp; done) | (simp [*]; done)), (by first | rfl | (simp; done) | (simp [*]; done)), H', ⟨by have := HK1.out; have := HK2.out; have := HK3.out; have := HK4.out; omega⟩, ⟨by repeat (first | (with_reducible first | exact HB.out | apply below_alloc | apply pw_below_drewN | apply below_drew1) | exact HB.out)⟩⟩
                            · rw [if_neg c13] at H
                              exact absurd H (by simp)
                          · replace c12 := Bool.eq_false_iff.mpr c12
                            subst c12
                            have H1 : (laws_refCovers.l3 k4 l0 l1 l2 x7_1 x8_2 false (wrap64 (x11_4 + 1))) = some r := by rw [if_neg (show ¬ (false = true) by decide)] at H; exact H
                            clear H
                            have H := H1
                            clear H1
                            have H' := Aside0.mk H
                            clear H
                            go_wp2
                            go_roundg k4
                            case measure => have := HK1.out; have := HK2.out; have := HK3.out; have := HK4.out; omega
                            case rel => exact ⟨(false), (wrap64 (x11_4 + 1)), (by first | rfl | (simp; done) | (simp [*]; done)), (by first | rfl | (simp; done) | (simp [*]; done)), H', ⟨by have := HK1.out; have := HK2.out; have := HK3.out; have := HK4.out; omega⟩, ⟨by repeat (first | (with_reducible first | exact HB.out | apply below_alloc | apply pw_below_drewN | apply below_drew1) | exact HB.out)⟩⟩
                        · rw [if_neg c11] at H
                          have c11b0 : decide (x11_4 < (l2.length : Int)) = false := decide_eq_false c11
                          clear c11
                          replace H := Option.bind_eq_some_iff.mp H
                          obtain ⟨t155, A160, H⟩ := H
                          replace H : (if (t155 != x9_4) = true then (some false) else (laws_refCovers.l1 k4 l0 l1 l2 x7_1 (wrap64 (x8_2 + 1)))) = some r := H
                          have A16 := Aside0.mk A160
                          clear A160
                          by_cases c17 : (t155 != x9_4) = true
                          · rw [if_pos c17] at H
                            have c17b0 : (t155 != x9_4) = true := c17
                            (try (have c17b1 : decide (t155 = x9_4) = false := by simpa using c17))
                            (try (have c17b2 : (t155 == x9_4) = false := by simpa using c17))
                            (try (have c17b3 : ¬ (t155 = x9_4) := by simpa using c17))
                            clear c17
                            obtain rfl := Option.some.inj H
                            go_wp2_with (first | ((with_reducible refine gate_callee (f := 19) rfl ?_); refine goesL_ (some 56) rfl rfl Tryz.func19 (by kernel_rfl) rfl #[.slice A0 l0.length c0, .int .i64 x7_1, .int .i64 x8_2] rfl (by (try simp only [List.map_toArray, List.map_cons, List.map_nil]); first | done | rfl | (simp only [List.length_drop, List.length_take]; rfl)) ?_; (with_reducible refine (laws_refHas.calls k4 _ _ l0 x7_1 x8_2 t155 _ ?side1 ?side2 A16.out).mono ?_); (case side1 => repeat (first | exact (Kd.C_below HR0.out HB.out) | (with_reducible refine Kd.C_alloc ?_ _) | (with_reducible refine Kd.C_drewN ?_ _) | (with_reducible refine Kd.C_drew ?_))); (case side2 => exact HC0.out); rintro e w' ⟨rfl, ⟨nd, rfl⟩⟩; refine ⟨_, rfl, ?_⟩))
                            go_ret
                            exact ⟨by first | rfl | (simp [errW_none, errW_some] <;> rfl) | (simp [*, errW_none, errW_some] <;> rfl), by repeat (first | (with_reducible first | exact HB.out | apply below_alloc | apply pw_below_drewN | apply below_drew1) | exact HB.out)⟩
                          · rw [if_neg c17] at H
                            have c17b0 : (t155 != x9_4) = false := by simpa using c17
                            (try (have c17b1 : decide (t155 = x9_4) = true := by simpa using c17))
                            (try (have c17b2 : (t155 == x9_4) = true := by simpa using c17))
                            clear c17
                            have H' := Aside0.mk H
                            clear H
                            go_wp2_with (first | ((with_reducible refine gate_callee (f := 19) rfl ?_); refine goesL_ (some 56) rfl rfl Tryz.func19 (by kernel_rfl) rfl #[.slice A0 l0.length c0, .int .i64 x7_1, .int .i64 x8_2] rfl (by (try simp only [List.map_toArray, List.map_cons, List.map_nil]); first | done | rfl | (simp only [List.length_drop, List.length_take]; rfl)) ?_; (with_reducible refine (laws_refHas.calls k4 _ _ l0 x7_1 x8_2 t155 _ ?side1 ?side2 A16.out).mono ?_); (case side1 => repeat (first | exact (Kd.C_below HR0.out HB.out) | (with_reducible refine Kd.C_alloc ?_ _) | (with_reducible refine Kd.C_drewN ?_ _) | (with_reducible refine Kd.C_drew ?_))); (case side2 => exact HC0.out); rintro e w' ⟨rfl, ⟨nd, rfl⟩⟩; refine ⟨_, rfl, ?_⟩))
                            go_roundg k4
                            case measure => have := HK1.out; have := HK2.out; have := HK3.out; have := HK4.out; omega
                            case rel => exact ⟨(wrap64 (x8_2 + 1)), (by first | rfl | (simp; done) | (simp [*]; done)), H', ⟨by have := HK1.out; have := HK2.out; have := HK3.out; have := HK4.out; omega⟩, ⟨by repeat (first | (with_reducible first | exact HB.out | apply below_alloc | apply pw_below_drewN | apply below_drew1) | exact HB.out)⟩⟩
            · rw [if_neg c5] at H
              have c5b0 : decide (x8_2 ≤ 60) = false := decide_eq_false c5
              clear c5
              have H' := Aside0.mk H
              clear H
              go_wp2
              go_roundg k2
              case measure => have := HK1.out; have := HK2.out; omega
              case rel => exact ⟨(wrap64 (x7_1 + 1)), (by first | rfl | (simp; done) | (simp [*]; done)), H', ⟨by have := HK1.out; have := HK2.out; omega⟩, ⟨by repeat (first | (with_reducible first | exact HB.out | apply below_alloc | apply pw_below_drewN | apply below_drew1) | exact HB.out)⟩⟩
      · rw [if_neg c4] at H
        have c4b0 : decide (x7_1 ≤ 30) = false := decide_eq_false c4
        clear c4
        obtain rfl := Option.some.inj H
        go_wp2
        go_ret
        exact ⟨by first | rfl | (simp [errW_none, errW_some] <;> rfl) | (simp [*, errW_none, errW_some] <;> rfl), by repeat (first | (with_reducible first | exact HB.out | apply below_alloc | apply pw_below_drewN | apply below_drew1) | exact HB.out)⟩

end Go.Proofs.YtmcppajgfhmpaaaGreatDoor.PTo
end

section
namespace Go.Proofs.YtmcppajgfhmpaaaGreatDoor.PTo
open Go.RowKit Go.Proofs.YtmcppajgfhmpaaaGreatDoorW.PrintWords Go.Proofs.YtmcppajgfhmpaaaGreatDoorW.PrintLast Go.Proofs.YtmcppajgfhmpaaaGreatDoorW.PrintMore
attribute [local go_sem] max2_int min2_int max_two min_two max_three min_three max_four min_four   -- for this text's walks alone
set_option linter.unusedVariables false
set_option linter.unusedSimpArgs false

/-! ### excelize_zzColumnName: function 117 -/
mutual
def excelize_zzColumnName.l0 : Nat → Int → Int → Int → Option (ByteArray)
  | 0, _, _, _ => none
  | k + 1, x0, x3, x4 => if x4 > 0 then (excelize_zzColumnName.l0 k x0 (wrap64 (x3 + 1)) (wrap64 (Int.tdiv (wrap64 (x4 - 1)) 26))) else (if 0 ≤ x3 then (if (x3 : Int).toNat ≤ 281474976710656 then (excelize_zzColumnName.l1 k x0 x3 (List.replicate (x3 : Int).toNat 0)) else (none)) else (none))
def excelize_zzColumnName.l1 : Nat → Int → Int → List Int → Option (ByteArray)
  | 0, _, _, _ => none
  | k + 1, x0, x3, x5 => if x0 > 0 then (if 0 ≤ (wrap64 (x3 - 1)) then (if (wrap64 (x3 - 1)) < (x5.length : Int) then (excelize_zzColumnName.l1 k (wrap64 (Int.tdiv (wrap64 (x0 - 1)) 26)) (wrap64 (x3 - 1)) (x5.set ((wrap64 (x3 - 1)) : Int).toNat ((wrap64 ((Int.tmod (wrap64 (x0 - 1)) 26) + 65)) % 256))) else (none)) else (none)) else (some (strOfNums x5))
end
def excelize_zzColumnName.f (k : Nat) (a0 : Int) : Option (ByteArray) := excelize_zzColumnName.l0 k a0 0 a0
theorem excelize_zzColumnName.mono_l : ∀ k, (∀ y0 y1 y2, LeO (excelize_zzColumnName.l0 k y0 y1 y2) (excelize_zzColumnName.l0 (k + 1) y0 y1 y2)) ∧ (∀ y0 y1 y2, LeO (excelize_zzColumnName.l1 k y0 y1 y2) (excelize_zzColumnName.l1 (k + 1) y0 y1 y2))
  | 0 => ⟨fun _ _ _ r h => by simp [excelize_zzColumnName.l0] at h, fun _ _ _ r h => by simp [excelize_zzColumnName.l1] at h⟩
  | k + 1 => by
    obtain ⟨ih0, ih1⟩ := excelize_zzColumnName.mono_l k
    refine ⟨?_, ?_⟩
    · intro y0 y1 y2
      unfold excelize_zzColumnName.l0
      repeat' first
      | (with_reducible exact ih0 _ _ _)
      | (with_reducible exact ih1 _ _ _)
      | (with_reducible exact LeO.refl _)
      | (with_reducible exact LeO.none _)
      | (with_reducible refine LeO.ite ?_ ?_)
      | (with_reducible refine LeO.bind ?_ (fun _ => ?_))
      | exact ih0 _ _ _
      | exact ih1 _ _ _
      | exact LeO.none _
      | refine LeO.ite ?_ ?_
      | refine LeO.bind ?_ (fun _ => ?_)
    · intro y0 y1 y2
      unfold excelize_zzColumnName.l1
      repeat' first
      | (with_reducible exact ih0 _ _ _)
      | (with_reducible exact ih1 _ _ _)
      | (with_reducible exact LeO.refl _)
      | (with_reducible exact LeO.none _)
      | (with_reducible refine LeO.ite ?_ ?_)
      | (with_reducible refine LeO.bind ?_ (fun _ => ?_))
      | exact ih0 _ _ _
      | exact ih1 _ _ _
      | exact LeO.none _
      | refine LeO.ite ?_ ?_
      | refine LeO.bind ?_ (fun _ => ?_)
theorem excelize_zzColumnName.mono : ∀ a0 k, LeO (excelize_zzColumnName.f k a0) (excelize_zzColumnName.f (k + 1) a0) := by
  intro a0 k
  obtain ⟨ih0, ih1⟩ := excelize_zzColumnName.mono_l k
  unfold excelize_zzColumnName.f
  repeat' first
      | (with_reducible exact ih0 _ _ _)
      | (with_reducible exact ih1 _ _ _)
      | (with_reducible exact LeO.refl _)
      | (with_reducible exact LeO.none _)
      | (with_reducible refine LeO.ite ?_ ?_)
      | (with_reducible refine LeO.bind ?_ (fun _ => ?_))
      | exact ih0 _ _ _
      | exact ih1 _ _ _
      | exact LeO.none _
      | refine LeO.ite ?_ ?_
      | refine LeO.bind ?_ (fun _ => ?_)
set_option maxHeartbeats 8000000 in
set_option maxRecDepth 100000 in
theorem excelize_zzColumnName.calls (k : Nat) (a0 : Int) (r : ByteArray) (w : World) (h : excelize_zzColumnName.f k a0 = some r) :
    Calls Tryz.prog 117 #[.int .i64 a0] w fun e w' => e = .returned (.string r) ∧ Below w.heap.size w w' := by
  have HB := Aside0.mk (Below.refl w.heap.size w)
  have H : (excelize_zzColumnName.l0 k a0 0 a0) = some r := h
  clear h
  have H' := Aside0.mk H
  clear H
  go_enter Tryz.func117, Tryz.ntmps117
  go_wp2
  go_loopg [3, 4] k (fun kq v3 v4 w' => ∃ (x3_1 : Int) (x4_1 : Int), v3 = .int .i64 x3_1 ∧ v4 = .int .i64 x4_1 ∧ Aside0 (excelize_zzColumnName.l0 kq a0 x3_1 x4_1 = some r) ∧ Aside0 (kq ≤ k) ∧ Aside0 (Below w.heap.size w w'))
  case atStart => exact ⟨(0), (a0), (by first | rfl | (simp; done) | (simp [*]; done)), (by first | rfl | (simp; done) | (simp [*]; done)), H', ⟨Nat.le_refl _⟩, ⟨by repeat (first | (with_reducible first | exact HB.out | apply below_alloc | apply pw_below_drewN | apply below_drew1) | exact HB.out)⟩⟩
  case round =>
    clear H'
    try clear c1
    obtain ⟨x3_1, x4_1, rfl, rfl, HA, HK1, HB⟩ := hrel
    cases gk with
    | zero => exact absurd HA.out (by simp [excelize_zzColumnName.l0])
    | succ k1 =>
      have H := HA.out
      clear HA
      simp only [excelize_zzColumnName.l0] at H
      by_cases c2 : x4_1 > 0
      · rw [if_pos c2] at H
        have c2b0 : decide (0 < x4_1) = true := decide_eq_true c2
        clear c2
        have H' := Aside0.mk H
        clear H
        go_wp2
        go_roundg k1
        case measure => have := HK1.out; omega
        case rel => exact ⟨(wrap64 (x3_1 + 1)), (wrap64 (Int.tdiv (wrap64 (x4_1 - 1)) 26)), (by first | rfl | (simp; done) | (simp [*]; done)), (by first | rfl | (simp; done) | (simp [*]; done)), H', ⟨by have := HK1.out; omega⟩, ⟨by repeat (first | (with_reducible first | exact HB.out | apply below_alloc | apply pw_below_drewN | apply below_drew1) | exact HB.out)⟩⟩
      · rw [if_neg c2] at H
        have c2b0 : decide (0 < x4_1) = false := decide_eq_false c2
        clear c2
        by_cases c3 : 0 ≤ x3_1
        · rw [if_pos c3] at H
          have c3b0 := eq_true c3
          have c3b1 : decide (0 ≤ x3_1) = true := decide_eq_true c3
          clear c3
          by_cases c4 : (x3_1 : Int).toNat ≤ 281474976710656
          · rw [if_pos c4] at H
            have c4b0 := eq_true c4
            have c4b1 : decide ((x3_1 : Int).toNat ≤ 281474976710656) = true := decide_eq_true c4
            clear c4
            obtain ⟨y157, hy157⟩ : ∃ y_ : List Int, y_ = (List.replicate (x3_1 : Int).toNat 0) := ⟨_, rfl⟩
            replace H : (excelize_zzColumnName.l1 k1 a0 x3_1 y157) = some r := by first | (rw [hy157]; with_reducible exact H) | (have H2_ := (Option.bind_some _ _).symm.trans H; rw [hy157]; with_reducible exact H2_) | (have H2_ := (Option.bind_some _ _).symm.trans H; with_reducible exact H2_) | with_reducible exact H | (rw [hy157]; exact H) | exact H
            have Ny157 := Aside0.mk hy157
            clear hy157
            have H' := Aside0.mk H
            clear H
            go_wp2_with (first | ((with_reducible refine gate_dst (N := 15) rfl ?_); refine Kd.R_make (Kd.int .u8) _ 5 rfl (N := 15) rfl 109 _ _ rfl x3_1 rfl rfl Tryz.underlying109 (.int .u8 0) 1 info5 rfl (by decide) (by omega) 0 (ok := fun _ => True) (okp := fun _ => True) rfl (fun _ hk => hk) trivial (of_decide_eq_true (by first | (with_reducible assumption) | assumption)) (Nat.le_trans (Nat.mul_le_mul_right _ (of_decide_eq_true (by first | (with_reducible assumption) | assumption) : x3_1.toNat ≤ 281474976710656)) (by omega)) (Below.refl _ _) (Nat.le_refl _) ?_; intro v158 w5 ho6 hb hg_ hnew_; clear hg_ hnew_; (first | rw [← Ny157.out] at ho6 | (simp only [Int.reduceToNat] at ho6; rw [← Ny157.out] at ho6)); have n0_ := Aside0.mk (Kd.R_lower ho6 (below_size (by repeat (first | (with_reducible first | exact HB.out | apply below_alloc | apply pw_below_drewN | apply below_drew1) | exact HB.out)))); have n1_ := Aside0.mk (below_step (by repeat (first | (with_reducible first | exact HB.out | apply below_alloc | apply pw_below_drewN | apply below_drew1) | exact HB.out)) hb); clear HB; have HO159 := n0_; have HB := n1_; clear n0_ n1_; clear hb ho6))
            go_loopg [0, 3] k1 (fun kq v0 v3 w' => ∃ (x0_2 : Int) (x3_2 : Int) (x5_2 : List Int), v0 = .int .i64 x0_2 ∧ v3 = .int .i64 x3_2 ∧ Aside0 (excelize_zzColumnName.l1 kq x0_2 x3_2 x5_2 = some r) ∧ Aside0 (kq ≤ k1) ∧ Aside0 (Kd.R (Kd.int .u8) 5 w' w.heap.size (fun _ => True) v158 x5_2) ∧ Aside0 (Below w.heap.size w w'))
            case atStart => exact ⟨(a0), (x3_1), (y157), (by first | rfl | (simp; done) | (simp [*]; done)), (by first | rfl | (simp; done) | (simp [*]; done)), H', ⟨Nat.le_refl _⟩, ⟨by (with_reducible repeat (first | apply Kd.R_alloc | apply Kd.R_drewN | apply Kd.R_drew)); exact HO159.out⟩, ⟨by repeat (first | (with_reducible first | exact HB.out | apply below_alloc | apply pw_below_drewN | apply below_drew1) | exact HB.out)⟩⟩
            case round =>
              clear H'
              try clear c1
              try clear c2
              try clear c2b0
              try clear p2
              try clear c3
              try clear c3b0
              try clear c3b1
              try clear c4
              try clear c4b0
              try clear c4b1
              try clear p6
              obtain ⟨x0_2, x3_2, x5_2, rfl, rfl, HA, HK2, HO_5, HB⟩ := hrel
              cases gk with
              | zero => exact absurd HA.out (by simp [excelize_zzColumnName.l1])
              | succ k2 =>
                have H := HA.out
                clear HA
                simp only [excelize_zzColumnName.l1] at H
                by_cases c7 : x0_2 > 0
                · rw [if_pos c7] at H
                  have c7b0 : decide (0 < x0_2) = true := decide_eq_true c7
                  clear c7
                  obtain ⟨ji8, hji8⟩ : ∃ j_ : Int, (wrap64 (x3_2 - 1)) = j_ := ⟨_, rfl⟩
                  replace H : (if 0 ≤ (ji8) then (if (ji8) < (x5_2.length : Int) then (excelize_zzColumnName.l1 k2 (wrap64 (Int.tdiv (wrap64 (x0_2 - 1)) 26)) ji8 (x5_2.set ((ji8) : Int).toNat ((wrap64 ((Int.tmod (wrap64 (x0_2 - 1)) 26) + 65)) % 256))) else (none)) else (none)) = some r := by first | (rw [hji8] at H; exact H) | (simp only [hji8] at H ⊢; exact H)
                  have hji8w : (IntKind.i64.wrap (x3_2 - 1)) = ji8 := (i64_w _).trans hji8
                  by_cases c9 : 0 ≤ (ji8)
                  · rw [if_pos c9] at H
                    have c9b0 : decide (0 ≤ (ji8)) = true := decide_eq_true c9
                    clear c9
                    by_cases c10 : (ji8) < (x5_2.length : Int)
                    · rw [if_pos c10] at H
                      have c10b0 : decide ((ji8) < (x5_2.length : Int)) = true := decide_eq_true c10
                      clear c10
                      obtain ⟨y160, hy160⟩ : ∃ y_ : List Int, y_ = (x5_2.set ((ji8) : Int).toNat ((wrap64 ((Int.tmod (wrap64 (x0_2 - 1)) 26) + 65)) % 256)) := ⟨_, rfl⟩
                      replace H : (excelize_zzColumnName.l1 k2 (wrap64 (Int.tdiv (wrap64 (x0_2 - 1)) 26)) ji8 y160) = some r := by first | (rw [hy160]; with_reducible exact H) | (have H2_ := (Option.bind_some _ _).symm.trans H; rw [hy160]; with_reducible exact H2_) | (have H2_ := (Option.bind_some _ _).symm.trans H; with_reducible exact H2_) | with_reducible exact H | (rw [hy160]; exact H) | exact H
                      have Ny160 := Aside0.mk hy160
                      clear hy160
                      have H' := Aside0.mk H
                      clear H
                      have p11 : 0 ≤ ((ji8) : Int) := of_decide_eq_true (by first | (with_reducible assumption) | assumption)
                      have q11 : ((ji8) : Int) < ((x5_2.length : Int) : Int) := of_decide_eq_true (by first | (with_reducible assumption) | assumption)
                      obtain ⟨go11, co11, eo11, gb11, gl11, cl11, HG11⟩ := Kd.R_form HO_5.out (by omega)
                      (first | cases eo11 | (injection eo11 with ea_ en_ ec_; (first | subst ea_ | (injection ea_ with ea_; subst ea_)); subst ec_; clear en_))
                      have GB11 := Aside0.mk gb11
                      have GG11 := Aside0.mk HG11
                      clear gb11 gl11 HG11
                      obtain ⟨hx11_0, hf11_0⟩ := Kd.R_celln 0 HO_5.out ((ji8) : Int) p11 q11
                      replace p11 := eq_true p11
                      replace q11 := eq_true q11
                      have HP12 := Kd.R_putg HO_5.out ((ji8) : Int) ((wrap64 ((Int.tmod (wrap64 (x0_2 - 1)) 26) + 65)) % 256)
                      go_wp2_with (first | ((with_reducible refine gate_store (t := 5) (p := 27) rfl ?_); refine store_event (t := 5) (p := 27) (v := ?vo_w13) (w1 := (wr.setCell ⟨go11, ((ji8) : Int).toNat, none⟩ (.int .u8 ((wrap64 ((Int.tmod (wrap64 (x0_2 - 1)) 26) + 65)) % 256)))) ?hg ?ho ?hn ?hr ?_; (case ho => rfl); (case hg => rfl); (case hn => rfl); (case hr => first | (go_simp; done) | (go_simp; rfl)); intro w13 hw; have hg : wr.grownBy w13 (some go11) := (by rw [hw]; exact HP12.2); have hp_ : Kd.R (Kd.int .u8) 5 w13 w.heap.size (fun _ => True) (.slice (some ⟨go11, 0, none⟩) x5_2.length co11) y160 := (by rw [hw, Ny160.out]; exact HP12.1); clear HP12; have n0_ := Aside0.mk (hp_); have n1_ := Aside0.mk ((by rw [hw]; exact below_set (HB.out) GB11.out : Below w.heap.size w w13)); clear HO_5; clear HB; have HO_5 := n0_; have HB := n1_; clear n0_ n1_; clear hg hw hp_))
                      go_roundg k2
                      case measure => have := HK1.out; have := HK2.out; omega
                      case rel => exact ⟨(wrap64 (Int.tdiv (wrap64 (x0_2 - 1)) 26)), (ji8), (y160), (by first | rfl | (simp; done) | (simp [*]; done)), (by first | rfl | (simp; done) | (simp only [← hji8] <;> (first | rfl | simp)) | (simp [*]; done)), H', ⟨by have := HK1.out; have := HK2.out; omega⟩, ⟨by (with_reducible repeat (first | apply Kd.R_alloc | apply Kd.R_drewN | apply Kd.R_drew)); exact HO_5.out⟩, ⟨by repeat (first | (with_reducible first | exact HB.out | apply below_alloc | apply pw_below_drewN | apply below_drew1) | exact HB.out)⟩⟩
                    · rw [if_neg c10] at H
                      exact absurd H (by simp)
                  · rw [if_neg c9] at H
                    exact absurd H (by simp)
                · rw [if_neg c7] at H
                  have c7b0 : decide (0 < x0_2) = false := decide_eq_false c7
                  clear c7
                  obtain rfl := Option.some.inj H
                  have hcv14 := own_string (P := Tryz.prog) Tryz.underlying109 Tryz.underlying5 Tryz.underlying9 (Kd.own_of_R HO_5.out)
                  go_wp2
                  go_ret
                  exact ⟨by first | rfl | (simp [errW_none, errW_some] <;> rfl) | (simp [*, errW_none, errW_some] <;> rfl), by repeat (first | (with_reducible first | exact HB.out | apply below_alloc | apply pw_below_drewN | apply below_drew1) | exact HB.out)⟩
          · rw [if_neg c4] at H
            exact absurd H (by simp)
        · rw [if_neg c3] at H
          exact absurd H (by simp)

end Go.Proofs.YtmcppajgfhmpaaaGreatDoor.PTo
end

section
namespace Go.Proofs.YtmcppajgfhmpaaaGreatDoor.PTo
open Go.RowKit Go.Proofs.YtmcppajgfhmpaaaGreatDoorW.PrintWords Go.Proofs.YtmcppajgfhmpaaaGreatDoorW.PrintLast Go.Proofs.YtmcppajgfhmpaaaGreatDoorW.PrintMore
attribute [local go_sem] max2_int min2_int max_two min_two max_three min_three max_four min_four   -- for this text's walks alone
set_option linter.unusedVariables false
set_option linter.unusedSimpArgs false

/-! ### excelize_ColumnNumberToName: function 98 -/
def excelize_ColumnNumberToName.f (k : Nat) (a0 : Int) : Option (ByteArray × Option Int) := if a0 < 1 then (none) else (if a0 > 16384 then (none) else ((excelize_zzColumnName.f k a0).bind fun t161 => (some (t161, none))))
theorem excelize_ColumnNumberToName.mono : ∀ a0 k, LeO (excelize_ColumnNumberToName.f k a0) (excelize_ColumnNumberToName.f (k + 1) a0) := by
  intro a0 k
  unfold excelize_ColumnNumberToName.f
  repeat' first
      | (with_reducible exact excelize_zzColumnName.mono _ _)
      | (with_reducible exact LeO.refl _)
      | (with_reducible exact LeO.none _)
      | (with_reducible refine LeO.ite ?_ ?_)
      | (with_reducible refine LeO.bind ?_ (fun _ => ?_))
      | exact excelize_zzColumnName.mono _ _
      | exact LeO.none _
      | refine LeO.ite ?_ ?_
      | refine LeO.bind ?_ (fun _ => ?_)
set_option maxHeartbeats 8000000 in
set_option maxRecDepth 100000 in
theorem excelize_ColumnNumberToName.calls (k : Nat) (a0 : Int) (r1 : ByteArray) (r2 : Option Int) (w : World) (h : excelize_ColumnNumberToName.f k a0 = some (r1, r2)) :
    Calls Tryz.prog 98 #[.int .i64 a0] w fun e w' => e = .returned (.tuple #[.string r1, errW r2]) ∧ Below w.heap.size w w' := by
  have HB := Aside0.mk (Below.refl w.heap.size w)
  have H : (if a0 < 1 then (none) else (if a0 > 16384 then (none) else ((excelize_zzColumnName.f k a0).bind fun t161 => (some (t161, none))))) = some (r1, r2) := h
  clear h
  by_cases c2 : a0 < 1
  · rw [if_pos c2] at H
    exact absurd H (by simp)
  · rw [if_neg c2] at H
    have c2b0 : decide (a0 < 1) = false := decide_eq_false c2
    clear c2
    by_cases c3 : a0 > 16384
    · rw [if_pos c3] at H
      exact absurd H (by simp)
    · rw [if_neg c3] at H
      have c3b0 : decide (16384 < a0) = false := decide_eq_false c3
      clear c3
      replace H := Option.bind_eq_some_iff.mp H
      obtain ⟨t161, A40, H⟩ := H
      replace H : (some (t161, none)) = some (r1, r2) := H
      have A4 := Aside0.mk A40
      clear A40
      simp only [Option.some.injEq, Prod.mk.injEq] at H
      obtain ⟨rfl, rfl⟩ := H
      go_enter Tryz.func98, Tryz.ntmps98
      go_wp2_with (first | (go_at_call 117; (with_reducible refine (excelize_zzColumnName.calls k a0 t161 _ A4.out).mono ?_); rintro e w5 ⟨rfl, hb⟩; have n0_ := Aside0.mk (below_step (by repeat (first | (with_reducible first | exact HB.out | apply below_alloc | apply pw_below_drewN | apply below_drew1) | exact HB.out)) hb); clear HB; have HB := n0_; clear n0_; (try clear hb); (try clear hb2); (try clear hk); (try clear hi)))
      repeat (go_quiet (first | (go_at_call 117; (with_reducible refine (excelize_zzColumnName.calls k a0 t161 _ A4.out).mono ?_); rintro e w5 ⟨rfl, hb⟩; have n0_ := Aside0.mk (below_step (by repeat (first | (with_reducible first | exact HB.out | apply below_alloc | apply pw_below_drewN | apply below_drew1) | exact HB.out)) hb); clear HB; have HB := n0_; clear n0_; (try clear hb); (try clear hb2); (try clear hk); (try clear hi))); try go_wp2_with (first | (go_at_call 117; (with_reducible refine (excelize_zzColumnName.calls k a0 t161 _ A4.out).mono ?_); rintro e w5 ⟨rfl, hb⟩; have n0_ := Aside0.mk (below_step (by repeat (first | (with_reducible first | exact HB.out | apply below_alloc | apply pw_below_drewN | apply below_drew1) | exact HB.out)) hb); clear HB; have HB := n0_; clear n0_; (try clear hb); (try clear hb2); (try clear hk); (try clear hi))))
      go_ret2
      exact ⟨by first | rfl | (simp [errW_none, errW_some] <;> rfl) | (simp [*, errW_none, errW_some] <;> rfl), by repeat (first | (with_reducible first | exact HB.out | apply below_alloc | apply pw_below_drewN | apply below_drew1) | exact HB.out)⟩

end Go.Proofs.YtmcppajgfhmpaaaGreatDoor.PTo
end

section
namespace Go.Proofs.YtmcppajgfhmpaaaGreatDoor.PTo
open Go.RowKit Go.Proofs.YtmcppajgfhmpaaaGreatDoorW.PrintWords Go.Proofs.YtmcppajgfhmpaaaGreatDoorW.PrintLast Go.Proofs.YtmcppajgfhmpaaaGreatDoorW.PrintMore
attribute [local go_sem] max2_int min2_int max_two min_two max_three min_three max_four min_four   -- for this text's walks alone
set_option linter.unusedVariables false
set_option linter.unusedSimpArgs false

/-! ### excelize_CoordinatesToCellName: function 55 -/
mutual
def excelize_CoordinatesToCellName.j0 : Nat → Int → Int → List Bool → Bool → Option (ByteArray × Option Int)
  | 0, _, _, _, _ => none
  | k + 1, x0, x1, x2, x17 => if x17 = true then (none) else (if x1 > 1048576 then (none) else ((excelize_ColumnNumberToName.f k x0).bind fun bt162 => (if bt162.2.isNone = true then (excelize_CoordinatesToCellName.l0 k x1 bt162.1 x2 (x2.length : Int) 0) else (some ((⟨#[]⟩ : ByteArray), some (bt162.2.getD 0))))))
def excelize_CoordinatesToCellName.l0 : Nat → Int → ByteArray → List Bool → Int → Int → Option (ByteArray × Option Int)
  | 0, _, _, _, _, _ => none
  | k + 1, x1, x8, x32, x33, x34 => if x34 < x33 then (if 0 ≤ x34 then (if x34 < (x32.length : Int) then (if rdOf false x32 x34 = true then (none) else (excelize_CoordinatesToCellName.l0 k x1 x8 x32 x33 (wrap64 (x34 + 1)))) else (none)) else (none)) else ((Go.Proofs.YtmcppajgfhmpaaaGreatDoor.GivenT.strconv_Itoa.f x1).bind fun t166 => (if x8.size + t166.size ≤ 9223372036854775807 then (some (x8 ++ t166, none)) else (none)))
end
def excelize_CoordinatesToCellName.f (k : Nat) (a0 : Int) (a1 : Int) (l2 : List Bool) : Option (ByteArray × Option Int) := if a0 < 1 then (excelize_CoordinatesToCellName.j0 k a0 a1 l2 true) else (excelize_CoordinatesToCellName.j0 k a0 a1 l2 (decide (a1 < 1)))
theorem excelize_CoordinatesToCellName.mono_l : ∀ k, (∀ y0 y1 y2 y3, LeO (excelize_CoordinatesToCellName.j0 k y0 y1 y2 y3) (excelize_CoordinatesToCellName.j0 (k + 1) y0 y1 y2 y3)) ∧ (∀ y0 y1 y2 y3 y4, LeO (excelize_CoordinatesToCellName.l0 k y0 y1 y2 y3 y4) (excelize_CoordinatesToCellName.l0 (k + 1) y0 y1 y2 y3 y4))
  | 0 => ⟨fun _ _ _ _ r h => by simp [excelize_CoordinatesToCellName.j0] at h, fun _ _ _ _ _ r h => by simp [excelize_CoordinatesToCellName.l0] at h⟩
  | k + 1 => by
    obtain ⟨ih0, ih1⟩ := excelize_CoordinatesToCellName.mono_l k
    refine ⟨?_, ?_⟩
    · intro y0 y1 y2 y3
      unfold excelize_CoordinatesToCellName.j0
      repeat' first
      | (with_reducible exact ih0 _ _ _ _)
      | (with_reducible exact ih1 _ _ _ _ _)
      | (with_reducible exact excelize_ColumnNumberToName.mono _ _)
      | (with_reducible exact LeO.refl _)
      | (with_reducible exact LeO.none _)
      | (with_reducible refine LeO.ite ?_ ?_)
      | (with_reducible refine LeO.bind ?_ (fun _ => ?_))
      | exact ih0 _ _ _ _
      | exact ih1 _ _ _ _ _
      | exact excelize_ColumnNumberToName.mono _ _
      | exact LeO.none _
      | refine LeO.ite ?_ ?_
      | refine LeO.bind ?_ (fun _ => ?_)
    · intro y0 y1 y2 y3 y4
      unfold excelize_CoordinatesToCellName.l0
      repeat' first
      | (with_reducible exact ih0 _ _ _ _)
      | (with_reducible exact ih1 _ _ _ _ _)
      | (with_reducible exact excelize_ColumnNumberToName.mono _ _)
      | (with_reducible exact LeO.refl _)
      | (with_reducible exact LeO.none _)
      | (with_reducible refine LeO.ite ?_ ?_)
      | (with_reducible refine LeO.bind ?_ (fun _ => ?_))
      | exact ih0 _ _ _ _
      | exact ih1 _ _ _ _ _
      | exact excelize_ColumnNumberToName.mono _ _
      | exact LeO.none _
      | refine LeO.ite ?_ ?_
      | refine LeO.bind ?_ (fun _ => ?_)
theorem excelize_CoordinatesToCellName.mono : ∀ a0 a1 a2 k, LeO (excelize_CoordinatesToCellName.f k a0 a1 a2) (excelize_CoordinatesToCellName.f (k + 1) a0 a1 a2) := by
  intro a0 a1 a2 k
  obtain ⟨ih0, ih1⟩ := excelize_CoordinatesToCellName.mono_l k
  unfold excelize_CoordinatesToCellName.f
  repeat' first
      | (with_reducible exact ih0 _ _ _ _)
      | (with_reducible exact ih1 _ _ _ _ _)
      | (with_reducible exact excelize_ColumnNumberToName.mono _ _)
      | (with_reducible exact LeO.refl _)
      | (with_reducible exact LeO.none _)
      | (with_reducible refine LeO.ite ?_ ?_)
      | (with_reducible refine LeO.bind ?_ (fun _ => ?_))
      | exact ih0 _ _ _ _
      | exact ih1 _ _ _ _ _
      | exact excelize_ColumnNumberToName.mono _ _
      | exact LeO.none _
      | refine LeO.ite ?_ ?_
      | refine LeO.bind ?_ (fun _ => ?_)
set_option maxHeartbeats 8000000 in
set_option maxRecDepth 100000 in
theorem excelize_CoordinatesToCellName.calls (k : Nat) (a0 : Int) (a1 : Int) (A2 : Option Addr) (c2 : Nat) (l2 : List Bool) (r1 : ByteArray) (r2 : Option Int) (w : World) (hr2 : Kd.C Kd.bool w A2 l2.length l2) (hc2 : l2.length ≤ c2) (h : excelize_CoordinatesToCellName.f k a0 a1 l2 = some (r1, r2)) :
    Calls Tryz.prog 55 #[.int .i64 a0, .int .i64 a1, .slice A2 l2.length c2] w fun e w' => e = .returned (.tuple #[.string r1, errW r2]) ∧ Below w.heap.size w w' := by
  have hu53 := Tryz.underlying53
  have HR2 := Aside0.mk hr2
  have HC2 := Aside0.mk hc2
  clear hr2 hc2
  have HB := Aside0.mk (Below.refl w.heap.size w)
  have H : (if a0 < 1 then (excelize_CoordinatesToCellName.j0 k a0 a1 l2 true) else (excelize_CoordinatesToCellName.j0 k a0 a1 l2 (decide (a1 < 1)))) = some (r1, r2) := h
  clear h
  have HC4 := Aside0.mk H
  clear H
  go_enter Tryz.func55, Tryz.ntmps55
  go_upto_region 1 with (fail)
  repeat (go_quiet (fail); go_upto_region 1 with (fail))
  go_cut [17] (fun v17 wc => ∃ (kq : Nat) (x17_3 : Bool), v17 = .bool x17_3 ∧ Aside0 (excelize_CoordinatesToCellName.j0 kq a0 a1 l2 x17_3 = some (r1, r2)) ∧ Aside0 (kq ≤ k) ∧ Aside0 (Below w.heap.size w wc))
  case first =>
    have H := HC4.out
    clear HC4
    by_cases c5 : a0 < 1
    · rw [if_pos c5] at H
      have c5b0 : decide (a0 < 1) = true := decide_eq_true c5
      clear c5
      (first | rw [c5b0] | (simp only [i64_w, i32_w]; rw [c5b0]) | skip)
      have H' := Aside0.mk H
      clear H
      go_wp2
      repeat (go_quiet (fail); try go_wp2)
      go_meet
      case rel => exact ⟨_, (true), (by first | rfl | (simp; done) | (simp [*]; done)), H', ⟨by first | omega | exact Nat.le_refl _⟩, ⟨by repeat (first | (with_reducible first | exact HB.out | apply below_alloc | apply pw_below_drewN | apply below_drew1) | exact HB.out)⟩⟩
    · rw [if_neg c5] at H
      have c5b0 : decide (a0 < 1) = false := decide_eq_false c5
      clear c5
      (first | rw [c5b0] | (simp only [i64_w, i32_w]; rw [c5b0]) | skip)
      have H' := Aside0.mk H
      clear H
      go_wp2
      repeat (go_quiet (fail); try go_wp2)
      go_meet
      case rel => exact ⟨_, (decide (a1 < 1)), (by first | rfl | (simp; done) | (simp [*]; done)), H', ⟨by first | omega | exact Nat.le_refl _⟩, ⟨by repeat (first | (with_reducible first | exact HB.out | apply below_alloc | apply pw_below_drewN | apply below_drew1) | exact HB.out)⟩⟩
  case rest =>
    clear HC4
    try clear c2
    try clear p2
    try clear c5
    try clear c5b0
    obtain ⟨kq, x17_3, rfl, HA, HJ3, HB⟩ := hcut
    cases kq with
    | zero => exact absurd HA.out (by simp [excelize_CoordinatesToCellName.j0])
    | succ kj3 =>
      have H := HA.out
      clear HA
      simp only [excelize_CoordinatesToCellName.j0] at H
      by_cases c6 : x17_3 = true
      · subst c6
        have H1 : (none) = some (r1, r2) := by rw [if_pos rfl] at H; exact H
        clear H
        have H := H1
        clear H1
        exact absurd H (by simp)
      · replace c6 := Bool.eq_false_iff.mpr c6
        subst c6
        have H1 : (if a1 > 1048576 then (none) else ((excelize_ColumnNumberToName.f kj3 a0).bind fun bt162 => (if bt162.2.isNone = true then (excelize_CoordinatesToCellName.l0 kj3 a1 bt162.1 l2 (l2.length : Int) 0) else (some ((⟨#[]⟩ : ByteArray), some (bt162.2.getD 0)))))) = some (r1, r2) := by rw [if_neg (show ¬ (false = true) by decide)] at H; exact H
        clear H
        have H := H1
        clear H1
        by_cases c7 : a1 > 1048576
        · rw [if_pos c7] at H
          exact absurd H (by simp)
        · rw [if_neg c7] at H
          have c7b0 : decide (1048576 < a1) = false := decide_eq_false c7
          clear c7
          replace H := Option.bind_eq_some_iff.mp H
          obtain ⟨⟨t162, t163⟩, A80, H⟩ := H
          replace H : (if t163.isNone = true then (excelize_CoordinatesToCellName.l0 kj3 a1 t162 l2 (l2.length : Int) 0) else (some ((⟨#[]⟩ : ByteArray), some (t163.getD 0)))) = some (r1, r2) := H
          have A8 := Aside0.mk A80
          clear A80
          rcases t163 with _ | q164
          · have H1 : (excelize_CoordinatesToCellName.l0 kj3 a1 t162 l2 (l2.length : Int) 0) = some (r1, r2) := by rw [if_pos (show (none : Option Int).isNone = true by rfl)] at H; exact H
            clear H
            have H := H1
            clear H1
            try simp only [errW_none, errW_some]
            have H' := Aside0.mk H
            clear H
            go_wp2_with (first | (go_at_call 98; (with_reducible refine (excelize_ColumnNumberToName.calls kj3 a0 t162 none _ A8.out).mono ?_); rintro e w9 ⟨rfl, hb⟩; have n0_ := Aside0.mk (below_step (by repeat (first | (with_reducible first | exact HB.out | apply below_alloc | apply pw_below_drewN | apply below_drew1) | exact HB.out)) hb); clear HB; have HB := n0_; clear n0_; (try clear hb); (try clear hb2); (try clear hk); (try clear hi); (try simp only [errW_none, errW_some])))
            repeat (go_quiet (first | (go_at_call 98; (with_reducible refine (excelize_ColumnNumberToName.calls kj3 a0 t162 none _ A8.out).mono ?_); rintro e w9 ⟨rfl, hb⟩; have n0_ := Aside0.mk (below_step (by repeat (first | (with_reducible first | exact HB.out | apply below_alloc | apply pw_below_drewN | apply below_drew1) | exact HB.out)) hb); clear HB; have HB := n0_; clear n0_; (try clear hb); (try clear hb2); (try clear hk); (try clear hi); (try simp only [errW_none, errW_some]))); try go_wp2_with (first | (go_at_call 98; (with_reducible refine (excelize_ColumnNumberToName.calls kj3 a0 t162 none _ A8.out).mono ?_); rintro e w9 ⟨rfl, hb⟩; have n0_ := Aside0.mk (below_step (by repeat (first | (with_reducible first | exact HB.out | apply below_alloc | apply pw_below_drewN | apply below_drew1) | exact HB.out)) hb); clear HB; have HB := n0_; clear n0_; (try clear hb); (try clear hb2); (try clear hk); (try clear hi); (try simp only [errW_none, errW_some]))))
            go_loopg [34] kj3 (fun kq v34 w' => ∃ (x34_2 : Int), v34 = .int .i64 x34_2 ∧ Aside0 (excelize_CoordinatesToCellName.l0 kq a1 t162 l2 (l2.length : Int) x34_2 = some (r1, r2)) ∧ Aside0 (kq ≤ kj3) ∧ Aside0 (Below w.heap.size w w'))
            case atStart => exact ⟨(0), (by first | rfl | (simp; done) | (simp [*]; done)), H', ⟨Nat.le_refl _⟩, ⟨by repeat (first | (with_reducible first | exact HB.out | apply below_alloc | apply pw_below_drewN | apply below_drew1) | exact HB.out)⟩⟩
            case round =>
              clear H'
              try clear q1
              try clear c2
              try clear p2
              try clear c5
              try clear c5b0
              try clear c6
              try clear c7
              try clear c7b0
              try clear p2
              try clear q164
              obtain ⟨x34_2, rfl, HA, HK2, HB⟩ := hrel
              cases gk with
              | zero => exact absurd HA.out (by simp [excelize_CoordinatesToCellName.l0])
              | succ k2 =>
                have H := HA.out
                clear HA
                simp only [excelize_CoordinatesToCellName.l0] at H
                by_cases c10 : x34_2 < (l2.length : Int)
                · rw [if_pos c10] at H
                  have c10b0 : decide (x34_2 < (l2.length : Int)) = true := decide_eq_true c10
                  clear c10
                  by_cases c11 : 0 ≤ x34_2
                  · rw [if_pos c11] at H
                    have c11b0 : decide (0 ≤ x34_2) = true := decide_eq_true c11
                    clear c11
                    by_cases c12 : x34_2 < (l2.length : Int)
                    · rw [if_pos c12] at H
                      have c12b0 : decide (x34_2 < (l2.length : Int)) = true := decide_eq_true c12
                      clear c12
                      obtain ⟨bq13, hbq13⟩ : ∃ b_ : Bool, b_ = (rdOf false l2 x34_2) := ⟨_, rfl⟩
                      replace H : (if bq13 = true then (none) else (excelize_CoordinatesToCellName.l0 k2 a1 t162 l2 (l2.length : Int) (wrap64 (x34_2 + 1)))) = some (r1, r2) := by rw [← hbq13] at H; exact H
                      have Nbq13 := Aside0.mk hbq13
                      clear hbq13
                      by_cases c14 : bq13 = true
                      · subst c14
                        have H1 : (none) = some (r1, r2) := by rw [if_pos rfl] at H; exact H
                        clear H
                        have H := H1
                        clear H1
                        exact absurd H (by simp)
                      · replace c14 := Bool.eq_false_iff.mpr c14
                        subst c14
                        have H1 : (excelize_CoordinatesToCellName.l0 k2 a1 t162 l2 (l2.length : Int) (wrap64 (x34_2 + 1))) = some (r1, r2) := by rw [if_neg (show ¬ (false = true) by decide)] at H; exact H
                        clear H
                        have H := H1
                        clear H1
                        have H' := Aside0.mk H
                        clear H
                        have p165 : 0 ≤ (x34_2 : Int) := of_decide_eq_true (by first | (with_reducible assumption) | assumption)
                        have q165 : x34_2 < (l2.length : Int) := of_decide_eq_true (by first | (with_reducible assumption) | assumption)
                        obtain ⟨ad165, e165, hx165_0⟩ := Kd.at_bool HR2.out x34_2 p165 q165
                        (try rw [← Nbq13.out] at hx165_0)
                        cases e165
                        replace hx165_0 := (HB.out.cell (World.block_lt_of_cell? w _ hx165_0)).trans hx165_0
                        replace p165 := eq_true p165
                        replace q165 := eq_true q165
                        go_wp2
                        repeat (go_quiet (fail); try go_wp2)
                        go_roundg k2
                        case measure => have := HJ3.out; have := HK2.out; omega
                        case rel => exact ⟨(wrap64 (x34_2 + 1)), (by first | rfl | (simp; done) | (simp [*]; done)), H', ⟨by have := HJ3.out; have := HK2.out; omega⟩, ⟨by repeat (first | (with_reducible first | exact HB.out | apply below_alloc | apply pw_below_drewN | apply below_drew1) | exact HB.out)⟩⟩
                    · rw [if_neg c12] at H
                      exact absurd H (by simp)
                  · rw [if_neg c11] at H
                    exact absurd H (by simp)
                · rw [if_neg c10] at H
                  have c10b0 : decide (x34_2 < (l2.length : Int)) = false := decide_eq_false c10
                  clear c10
                  replace H := Option.bind_eq_some_iff.mp H
                  obtain ⟨t166, A150, H⟩ := H
                  replace H : (if t162.size + t166.size ≤ 9223372036854775807 then (some (t162 ++ t166, none)) else (none)) = some (r1, r2) := H
                  have A15 := Aside0.mk A150
                  clear A150
                  by_cases c16 : t162.size + t166.size ≤ 9223372036854775807
                  · rw [if_pos c16] at H
                    have c16b0 := eq_true c16
                    have c16b1 : decide (t162.size + t166.size ≤ 9223372036854775807) = true := decide_eq_true c16
                    try have c16b2 : (9223372036854775807 < t162.size + t166.size) = False := eq_false (Nat.not_lt.2 c16)
                    have c16z := c16
                    (try simp only [ByteArray.size_append, show ∀ x_ : UInt8, (⟨#[x_]⟩ : ByteArray).size = 1 from fun _ => rfl] at c16z)
                    simp only [Option.some.injEq, Prod.mk.injEq] at H
                    obtain ⟨rfl, rfl⟩ := H
                    go_wp2_with (first | (go_at_call 99; (with_reducible refine (Go.Proofs.YtmcppajgfhmpaaaGreatDoor.GivenT.strconv_Itoa.calls a1 t166 _ A15.out).mono ?_); rintro e w' ⟨rfl, ⟨nd, rfl⟩⟩; (try first | exact ⟨rfl, _, World.drewN_drewN _ _ _⟩ | exact ⟨rfl, _, Eq.trans (World.drewN_drewN _ _ _) (congrArg (World.drewN _) (Nat.add_assoc _ _ _))⟩)))
                    repeat (go_quiet (first | (go_at_call 99; (with_reducible refine (Go.Proofs.YtmcppajgfhmpaaaGreatDoor.GivenT.strconv_Itoa.calls a1 t166 _ A15.out).mono ?_); rintro e w' ⟨rfl, ⟨nd, rfl⟩⟩; (try first | exact ⟨rfl, _, World.drewN_drewN _ _ _⟩ | exact ⟨rfl, _, Eq.trans (World.drewN_drewN _ _ _) (congrArg (World.drewN _) (Nat.add_assoc _ _ _))⟩))); try go_wp2_with (first | (go_at_call 99; (with_reducible refine (Go.Proofs.YtmcppajgfhmpaaaGreatDoor.GivenT.strconv_Itoa.calls a1 t166 _ A15.out).mono ?_); rintro e w' ⟨rfl, ⟨nd, rfl⟩⟩; (try first | exact ⟨rfl, _, World.drewN_drewN _ _ _⟩ | exact ⟨rfl, _, Eq.trans (World.drewN_drewN _ _ _) (congrArg (World.drewN _) (Nat.add_assoc _ _ _))⟩))))
                    go_ret2
                    exact ⟨by first | rfl | (simp [errW_none, errW_some] <;> rfl) | (simp [*, errW_none, errW_some] <;> rfl), by repeat (first | (with_reducible first | exact HB.out | apply below_alloc | apply pw_below_drewN | apply below_drew1) | exact HB.out)⟩
                  · rw [if_neg c16] at H
                    exact absurd H (by simp)
          · have H1 : (some ((⟨#[]⟩ : ByteArray), some q164)) = some (r1, r2) := by rw [if_neg (show ¬ (some q164).isNone = true by simp)] at H; exact H
            clear H
            have H := H1
            clear H1
            try simp only [errW_none, errW_some]
            simp only [Option.some.injEq, Prod.mk.injEq] at H
            obtain ⟨rfl, rfl⟩ := H
            go_wp2_with (first | (go_at_call 98; (with_reducible refine (excelize_ColumnNumberToName.calls kj3 a0 t162 (some q164) _ A8.out).mono ?_); rintro e w17 ⟨rfl, hb⟩; have n0_ := Aside0.mk (below_step (by repeat (first | (with_reducible first | exact HB.out | apply below_alloc | apply pw_below_drewN | apply below_drew1) | exact HB.out)) hb); clear HB; have HB := n0_; clear n0_; (try clear hb); (try clear hb2); (try clear hk); (try clear hi); (try simp only [errW_none, errW_some])))
            repeat (go_quiet (first | (go_at_call 98; (with_reducible refine (excelize_ColumnNumberToName.calls kj3 a0 t162 (some q164) _ A8.out).mono ?_); rintro e w17 ⟨rfl, hb⟩; have n0_ := Aside0.mk (below_step (by repeat (first | (with_reducible first | exact HB.out | apply below_alloc | apply pw_below_drewN | apply below_drew1) | exact HB.out)) hb); clear HB; have HB := n0_; clear n0_; (try clear hb); (try clear hb2); (try clear hk); (try clear hi); (try simp only [errW_none, errW_some]))); try go_wp2_with (first | (go_at_call 98; (with_reducible refine (excelize_ColumnNumberToName.calls kj3 a0 t162 (some q164) _ A8.out).mono ?_); rintro e w17 ⟨rfl, hb⟩; have n0_ := Aside0.mk (below_step (by repeat (first | (with_reducible first | exact HB.out | apply below_alloc | apply pw_below_drewN | apply below_drew1) | exact HB.out)) hb); clear HB; have HB := n0_; clear n0_; (try clear hb); (try clear hb2); (try clear hk); (try clear hi); (try simp only [errW_none, errW_some]))))
            go_ret2
            exact ⟨by first | rfl | (simp [errW_none, errW_some] <;> rfl) | (simp [*, errW_none, errW_some] <;> rfl), by repeat (first | (with_reducible first | exact HB.out | apply below_alloc | apply pw_below_drewN | apply below_drew1) | exact HB.out)⟩

end Go.Proofs.YtmcppajgfhmpaaaGreatDoor.PTo
end

section
namespace Go.Proofs.YtmcppajgfhmpaaaGreatDoor.PTo
open Go.RowKit Go.Proofs.YtmcppajgfhmpaaaGreatDoorW.PrintWords Go.Proofs.YtmcppajgfhmpaaaGreatDoorW.PrintLast Go.Proofs.YtmcppajgfhmpaaaGreatDoorW.PrintMore
attribute [local go_sem] max2_int min2_int max_two min_two max_three min_three max_four min_four   -- for this text's walks alone
set_option linter.unusedVariables false
set_option linter.unusedSimpArgs false

/-! ### excelize_coordinatesToRangeRef: function 56 -/
def excelize_coordinatesToRangeRef.f (k : Nat) (l0 : List Int) (l1 : List Bool) : Option (ByteArray × Option Int) := if (l0.length : Int) = 4 then (if 0 < (l0.length : Int) then (if 1 < (l0.length : Int) then ((excelize_CoordinatesToCellName.f k (rd l0 0) (rd l0 1) l1).bind fun bt169 => (if bt169.2.isNone = true then (if 2 < (l0.length : Int) then (if 3 < (l0.length : Int) then ((excelize_CoordinatesToCellName.f k (rd l0 2) (rd l0 3) l1).bind fun bt174 => (if bt174.2.isNone = true then (if bt169.1.size + 1 ≤ 9223372036854775807 then (if (bt169.1 ++ (⟨#[58]⟩ : ByteArray)).size + bt174.1.size ≤ 9223372036854775807 then (some ((bt169.1 ++ (⟨#[58]⟩ : ByteArray)) ++ bt174.1, none)) else (none)) else (none)) else (some ((⟨#[]⟩ : ByteArray), some (bt174.2.getD 0))))) else (none)) else (none)) else (some ((⟨#[]⟩ : ByteArray), some (bt169.2.getD 0))))) else (none)) else (none)) else (none)
theorem excelize_coordinatesToRangeRef.mono : ∀ a0 a1 k, LeO (excelize_coordinatesToRangeRef.f k a0 a1) (excelize_coordinatesToRangeRef.f (k + 1) a0 a1) := by
  intro a0 a1 k
  unfold excelize_coordinatesToRangeRef.f
  repeat' first
      | (with_reducible exact excelize_CoordinatesToCellName.mono _ _ _ _)
      | (with_reducible exact LeO.refl _)
      | (with_reducible exact LeO.none _)
      | (with_reducible refine LeO.ite ?_ ?_)
      | (with_reducible refine LeO.bind ?_ (fun _ => ?_))
      | exact excelize_CoordinatesToCellName.mono _ _ _ _
      | exact LeO.none _
      | refine LeO.ite ?_ ?_
      | refine LeO.bind ?_ (fun _ => ?_)
def excelize_coordinatesToRangeRef.T3 : Bool × List (List Nat × List Nat) := (true, [([], []), ([0], [0]), ([1], [1]), ([], []), ([3], [3]), ([4], [4]), ([], []), ([2, 5, 6], [2, 5, 6]), ([7], [7]), ([8], [8]), ([8], [8]), ([9, 7, 0, 1, 2, 3, 4, 5, 6, 7, 8, 9], [9]), ([10, 11, 0, 1, 2, 3, 4, 5, 6, 7, 8, 9, 10, 11], [10])])
def excelize_coordinatesToRangeRef.B3 : List Nat := [0, 1, 3, 0, 8, 24, 0, 127, 255, 511, 511, 1023, 4095]
theorem excelize_coordinatesToRangeRef.tab3 : rtab .any (opsOf Tryz.f56 3) = excelize_coordinatesToRangeRef.T3 := by kernel_rfl
theorem excelize_coordinatesToRangeRef.bits3 : waitsOk excelize_coordinatesToRangeRef.T3.2 excelize_coordinatesToRangeRef.B3 = true := by kernel_rfl
def excelize_coordinatesToRangeRef.T6 : Bool × List (List Nat × List Nat) := (true, [([], []), ([0], [0]), ([1], [1]), ([], []), ([3], [3]), ([4], [4]), ([], []), ([2, 5, 6], [2, 5, 6]), ([7], [7]), ([8], [8]), ([8], [8]), ([9, 7, 0, 1, 2, 3, 4, 5, 6, 7, 8, 9], [9]), ([10, 11, 0, 1, 2, 3, 4, 5, 6, 7, 8, 9, 10, 11], [10])])
def excelize_coordinatesToRangeRef.B6 : List Nat := [0, 1, 3, 0, 8, 24, 0, 127, 255, 511, 511, 1023, 4095]
theorem excelize_coordinatesToRangeRef.tab6 : rtab .any (opsOf Tryz.f56 6) = excelize_coordinatesToRangeRef.T6 := by kernel_rfl
theorem excelize_coordinatesToRangeRef.bits6 : waitsOk excelize_coordinatesToRangeRef.T6.2 excelize_coordinatesToRangeRef.B6 = true := by kernel_rfl
set_option maxHeartbeats 8000000 in
set_option maxRecDepth 100000 in
theorem excelize_coordinatesToRangeRef.calls (k : Nat) (A0 : Option Addr) (c0 : Nat) (l0 : List Int) (A1 : Option Addr) (c1 : Nat) (l1 : List Bool) (r1 : ByteArray) (r2 : Option Int) (w : World) (hr0 : Kd.C (Kd.int .i64) w A0 l0.length l0) (hc0 : l0.length ≤ c0) (hr1 : Kd.C Kd.bool w A1 l1.length l1) (hc1 : l1.length ≤ c1) (h : excelize_coordinatesToRangeRef.f k l0 l1 = some (r1, r2)) :
    Calls Tryz.prog 56 #[.slice A0 l0.length c0, .slice A1 l1.length c1] w fun e w' => e = .returned (.tuple #[.string r1, errW r2]) ∧ Below w.heap.size w w' := by
  have hu53 := Tryz.underlying53
  have HR0 := Aside0.mk hr0
  have HC0 := Aside0.mk hc0
  clear hr0 hc0
  have HR1 := Aside0.mk hr1
  have HC1 := Aside0.mk hc1
  clear hr1 hc1
  have HB := Aside0.mk (Below.refl w.heap.size w)
  have H : (if (l0.length : Int) = 4 then (if 0 < (l0.length : Int) then (if 1 < (l0.length : Int) then ((excelize_CoordinatesToCellName.f k (rd l0 0) (rd l0 1) l1).bind fun bt169 => (if bt169.2.isNone = true then (if 2 < (l0.length : Int) then (if 3 < (l0.length : Int) then ((excelize_CoordinatesToCellName.f k (rd l0 2) (rd l0 3) l1).bind fun bt174 => (if bt174.2.isNone = true then (if bt169.1.size + 1 ≤ 9223372036854775807 then (if (bt169.1 ++ (⟨#[58]⟩ : ByteArray)).size + bt174.1.size ≤ 9223372036854775807 then (some ((bt169.1 ++ (⟨#[58]⟩ : ByteArray)) ++ bt174.1, none)) else (none)) else (none)) else (some ((⟨#[]⟩ : ByteArray), some (bt174.2.getD 0))))) else (none)) else (none)) else (some ((⟨#[]⟩ : ByteArray), some (bt169.2.getD 0))))) else (none)) else (none)) else (none)) = some (r1, r2) := h
  clear h
  by_cases c3 : (l0.length : Int) = 4
  · rw [if_pos c3] at H
    have c3b0 : ((l0.length : Int) == 4) = true := beq_iff_eq.mpr c3
    have c3b1 : ((l0.length : Int) != 4) = false := bne_eq_false_iff_eq.mpr c3
    clear c3
    by_cases c4 : 0 < (l0.length : Int)
    · rw [if_pos c4] at H
      have c4b0 : decide (0 < (l0.length : Int)) = true := decide_eq_true c4
      have c4b1 : decide (0 < l0.length) = true := decide_eq_true (by omega)
      clear c4
      by_cases c5 : 1 < (l0.length : Int)
      · rw [if_pos c5] at H
        have c5b0 : decide (1 < (l0.length : Int)) = true := decide_eq_true c5
        have c5b1 : decide (1 < l0.length) = true := decide_eq_true (by omega)
        clear c5
        replace H := Option.bind_eq_some_iff.mp H
        obtain ⟨⟨t169, t170⟩, A60, H⟩ := H
        replace H : (if t170.isNone = true then (if 2 < (l0.length : Int) then (if 3 < (l0.length : Int) then ((excelize_CoordinatesToCellName.f k (rd l0 2) (rd l0 3) l1).bind fun bt174 => (if bt174.2.isNone = true then (if t169.size + 1 ≤ 9223372036854775807 then (if (t169 ++ (⟨#[58]⟩ : ByteArray)).size + bt174.1.size ≤ 9223372036854775807 then (some ((t169 ++ (⟨#[58]⟩ : ByteArray)) ++ bt174.1, none)) else (none)) else (none)) else (some ((⟨#[]⟩ : ByteArray), some (bt174.2.getD 0))))) else (none)) else (none)) else (some ((⟨#[]⟩ : ByteArray), some (t170.getD 0)))) = some (r1, r2) := H
        have A6 := Aside0.mk A60
        clear A60
        rcases t170 with _ | q171
        · have H1 : (if 2 < (l0.length : Int) then (if 3 < (l0.length : Int) then ((excelize_CoordinatesToCellName.f k (rd l0 2) (rd l0 3) l1).bind fun bt174 => (if bt174.2.isNone = true then (if t169.size + 1 ≤ 9223372036854775807 then (if (t169 ++ (⟨#[58]⟩ : ByteArray)).size + bt174.1.size ≤ 9223372036854775807 then (some ((t169 ++ (⟨#[58]⟩ : ByteArray)) ++ bt174.1, none)) else (none)) else (none)) else (some ((⟨#[]⟩ : ByteArray), some (bt174.2.getD 0))))) else (none)) else (none)) = some (r1, r2) := by rw [if_pos (show (none : Option Int).isNone = true by rfl)] at H; exact H
          clear H
          have H := H1
          clear H1
          try simp only [errW_none, errW_some]
          by_cases c7 : 2 < (l0.length : Int)
          · rw [if_pos c7] at H
            have c7b0 : decide (2 < (l0.length : Int)) = true := decide_eq_true c7
            have c7b1 : decide (2 < l0.length) = true := decide_eq_true (by omega)
            clear c7
            by_cases c8 : 3 < (l0.length : Int)
            · rw [if_pos c8] at H
              have c8b0 : decide (3 < (l0.length : Int)) = true := decide_eq_true c8
              have c8b1 : decide (3 < l0.length) = true := decide_eq_true (by omega)
              clear c8
              replace H := Option.bind_eq_some_iff.mp H
              obtain ⟨⟨t174, t175⟩, A90, H⟩ := H
              replace H : (if t175.isNone = true then (if t169.size + 1 ≤ 9223372036854775807 then (if (t169 ++ (⟨#[58]⟩ : ByteArray)).size + t174.size ≤ 9223372036854775807 then (some ((t169 ++ (⟨#[58]⟩ : ByteArray)) ++ t174, none)) else (none)) else (none)) else (some ((⟨#[]⟩ : ByteArray), some (t175.getD 0)))) = some (r1, r2) := H
              have A9 := Aside0.mk A90
              clear A90
              rcases t175 with _ | q176
              · have H1 : (if t169.size + 1 ≤ 9223372036854775807 then (if (t169 ++ (⟨#[58]⟩ : ByteArray)).size + t174.size ≤ 9223372036854775807 then (some ((t169 ++ (⟨#[58]⟩ : ByteArray)) ++ t174, none)) else (none)) else (none)) = some (r1, r2) := by rw [if_pos (show (none : Option Int).isNone = true by rfl)] at H; exact H
                clear H
                have H := H1
                clear H1
                try simp only [errW_none, errW_some]
                by_cases c10 : t169.size + 1 ≤ 9223372036854775807
                · rw [if_pos c10] at H
                  have c10b0 := eq_true c10
                  have c10b1 : decide (t169.size + 1 ≤ 9223372036854775807) = true := decide_eq_true c10
                  try have c10b2 : (9223372036854775807 < t169.size + 1) = False := eq_false (Nat.not_lt.2 c10)
                  have c10z := c10
                  (try simp only [ByteArray.size_append, show ∀ x_ : UInt8, (⟨#[x_]⟩ : ByteArray).size = 1 from fun _ => rfl] at c10z)
                  by_cases c11 : (t169 ++ (⟨#[58]⟩ : ByteArray)).size + t174.size ≤ 9223372036854775807
                  · rw [if_pos c11] at H
                    have c11b0 := eq_true c11
                    have c11b1 : decide ((t169 ++ (⟨#[58]⟩ : ByteArray)).size + t174.size ≤ 9223372036854775807) = true := decide_eq_true c11
                    try have c11b2 : (9223372036854775807 < (t169 ++ (⟨#[58]⟩ : ByteArray)).size + t174.size) = False := eq_false (Nat.not_lt.2 c11)
                    have c11z := c11
                    (try simp only [ByteArray.size_append, show ∀ x_ : UInt8, (⟨#[x_]⟩ : ByteArray).size = 1 from fun _ => rfl] at c11z)
                    simp only [Option.some.injEq, Prod.mk.injEq] at H
                    obtain ⟨rfl, rfl⟩ := H
                    go_enter Tryz.func56, Tryz.ntmps56
                    try go_wp2
                    have n0_ := Aside0.mk (below_drew1 HB.out)
                    clear HB
                    have HB := n0_
                    clear n0_
                    have p167 : 0 ≤ (0 : Int) := (by omega)
                    have q167 : 0 < (l0.length : Int) := of_decide_eq_true (by first | (with_reducible assumption) | assumption)
                    obtain ⟨ad167, e167, hx167_0⟩ := Kd.at_int HR0.out 0 p167 q167
                    have hw167_0 := hx167_0
                    (try rw [show ((0 : Int)).toNat = 0 from rfl] at hw167_0)
                    (try rw [show 0 * 1 = 0 from rfl] at hw167_0)
                    (try rw [Addr.add_zero'] at hw167_0)
                    cases e167
                    have qi167 : (0 < l0.length) = True := eq_true (by omega)
                    (try rw [show ((0 : Int)).toNat = 0 from rfl] at hx167_0)
                    (try rw [Addr.add_zero'] at hx167_0)
                    replace hx167_0 := (HB.out.cell (World.block_lt_of_cell? w _ hx167_0)).trans hx167_0
                    replace p167 := eq_true p167
                    replace q167 := eq_true q167
                    have p168 : 0 ≤ (1 : Int) := (by omega)
                    have q168 : 1 < (l0.length : Int) := of_decide_eq_true (by first | (with_reducible assumption) | assumption)
                    obtain ⟨ad168, e168, hx168_0⟩ := Kd.at_int HR0.out 1 p168 q168
                    have hw168_0 := hx168_0
                    (try rw [show ((1 : Int)).toNat = 1 from rfl] at hw168_0)
                    (try rw [show 1 * 1 = 1 from rfl] at hw168_0)
                    (try simp only [Nat.reduceMul, Nat.reduceEqDiff, Go.Addr.add, ↓reduceIte] at hw168_0)
                    obtain rfl : ad167 = ad168 := (by injection e168)
                    (try simp only [show (1 : Int).toNat = 1 from rfl, Nat.reduceMul, Nat.reduceEqDiff, Go.Addr.add, ↓reduceIte] at hx168_0)
                    have qi168 : (1 < l0.length) = True := eq_true (by omega)
                    (try rw [show ((1 : Int)).toNat = 1 from rfl] at hx168_0)
                    replace hx168_0 := (HB.out.cell (World.block_lt_of_cell? w _ hx168_0)).trans hx168_0
                    replace p168 := eq_true p168
                    replace q168 := eq_true q168
                    refine start_ (n := 13) (S := fun w' => w'.cell? ad167 = some (.int .i64 (rd l0 0)) ∧ w'.cell? ⟨ad167.block, ad167.off + 1, none⟩ = some (.int .i64 (rd l0 1))) (ds := []) #[false, false, false, false, false, false, false, false, false, false, false, false, false] (by kernel_rfl) rfl rfl ⟨((HB.out.cell (World.block_lt_of_cell? w _ hw167_0)).trans hw167_0), ((HB.out.cell (World.block_lt_of_cell? w _ hw168_0)).trans hw168_0)⟩ (fun hHeld => ?_); refine with_tabW excelize_coordinatesToRangeRef.tab3 excelize_coordinatesToRangeRef.bits3 (fun HT_ HW_ => ?_)
                    generalize w.drew = w12 at HB hx167_0 hx168_0 hHeld ⊢
                    refine pure_ (i := 0) (N := some 14) (v := ?_) (a' := ?_) #[true, false, false, false, false, false, false, false, false, false, false, false, false] rfl rfl (any_of HT_.out (by kernel_rfl)) (fun _ _ _ h => h) (Or.inl ⟨by rfl, ?_⟩) ?_ ?_
                    rotate_left
                    · intro w'
                      go_simp
                      with_reducible rfl
                    rotate_left
                    · simp only [Act.put, List.setIfInBounds_toArray, List.set_cons_zero, List.set_cons_succ, i64_w, i32_w]
                      rfl
                    refine pure_ (i := 1) (N := some 15) (v := ?_) (a' := ?_) #[true, true, false, false, false, false, false, false, false, false, false, false, false] rfl rfl (any_of HT_.out (by kernel_rfl)) (fun _ _ _ h => h) (Or.inl ⟨by rfl, ?_⟩) ?_ ?_
                    rotate_left
                    · intro w'
                      go_simp
                      with_reducible rfl
                    rotate_left
                    · simp only [Act.put, List.setIfInBounds_toArray, List.set_cons_zero, List.set_cons_succ, i64_w, i32_w]
                      rfl
                    refine pure_ (i := 3) (N := some 17) (v := ?_) (a' := ?_) #[true, true, false, true, false, false, false, false, false, false, false, false, false] rfl rfl (any_of HT_.out (by kernel_rfl)) (fun _ _ _ h => h) (Or.inl ⟨by rfl, ?_⟩) ?_ ?_
                    rotate_left
                    · intro w'
                      go_simp
                      with_reducible rfl
                    rotate_left
                    · simp only [Act.put, List.setIfInBounds_toArray, List.set_cons_zero, List.set_cons_succ, i64_w, i32_w]
                      rfl
                    refine pure_ (i := 4) (N := some 18) (v := ?_) (a' := ?_) #[true, true, false, true, true, false, false, false, false, false, false, false, false] rfl rfl (any_of HT_.out (by kernel_rfl)) (fun _ _ _ h => h) (Or.inl ⟨by rfl, ?_⟩) ?_ ?_
                    rotate_left
                    · intro w'
                      go_simp
                      with_reducible rfl
                    rotate_left
                    · simp only [Act.put, List.setIfInBounds_toArray, List.set_cons_zero, List.set_cons_succ, i64_w, i32_w]
                      rfl
                    refine pure_ (i := 6) (N := some 20) (v := ?_) (a' := ?_) #[true, true, false, true, true, false, true, false, false, false, false, false, false] rfl rfl (any_of HT_.out (by kernel_rfl)) (fun _ _ _ h => h) (Or.inl ⟨by rfl, ?_⟩) ?_ ?_
                    rotate_left
                    · intro w'
                      go_simp
                      with_reducible rfl
                    rotate_left
                    · simp only [Act.put, List.setIfInBounds_toArray, List.set_cons_zero, List.set_cons_succ, i64_w, i32_w]
                      rfl
                    refine take_ (i := 2) (N := some 16) (v := ?_) (a' := ?_) #[true, true, true, true, true, false, true, false, false, false, false, false, false] rfl rfl (take_ofW HT_.out HW_.out (by kernel_rfl)) (fun _ _ _ h => h) (Or.inl ⟨by rfl, ?_⟩) hHeld ?_ ?_
                    rotate_left
                    · rintro w' ⟨s0, s1⟩
                      go_simp
                      with_reducible rfl
                    rotate_left
                    · simp only [Act.put, List.setIfInBounds_toArray, List.set_cons_zero, List.set_cons_succ, i64_w, i32_w]
                      rfl
                    refine take_ (i := 5) (N := some 19) (v := ?_) (a' := ?_) #[true, true, true, true, true, true, true, false, false, false, false, false, false] rfl rfl (take_ofW HT_.out HW_.out (by kernel_rfl)) (fun _ _ _ h => h) (Or.inl ⟨by rfl, ?_⟩) hHeld ?_ ?_
                    rotate_left
                    · rintro w' ⟨s0, s1⟩
                      go_simp
                      with_reducible rfl
                    rotate_left
                    · simp only [Act.put, List.setIfInBounds_toArray, List.set_cons_zero, List.set_cons_succ, i64_w, i32_w]
                      rfl
                    refine one_ (i := 7) (N := some 21) #[true, true, true, true, true, true, true, true, false, false, false, false, false] rfl rfl (one_of HT_.out (by kernel_rfl)) (by decide) (fun K hK => ?_)
                    refine goes_ Tryz.func55 (by kernel_rfl) rfl #[.int .i64 (rd l0 0), .int .i64 (rd l0 1), .slice A1 l1.length c1] (by rfl) rfl rfl (by (try simp only [List.map_toArray, List.map_cons, List.map_nil]); first | done | rfl | (simp only [List.length_drop, List.length_take]; rfl)) ?_
                    with_reducible refine (excelize_CoordinatesToCellName.calls k (rd l0 0) (rd l0 1) _ _ l1 t169 none _ ?side1 ?side2 A6.out).mono ?_
                    (case side1 => repeat (first | exact (Kd.C_below HR1.out HB.out) | (with_reducible refine Kd.C_alloc ?_ _) | (with_reducible refine Kd.C_drewN ?_ _) | (with_reducible refine Kd.C_drew ?_)))
                    (case side2 => exact HC1.out)
                    rintro e w13 ⟨rfl, hb⟩
                    refine ⟨_, rfl, ?_⟩
                    have n0_ := Aside0.mk (below_step (by repeat (first | (with_reducible first | exact HB.out | apply below_alloc | apply pw_below_drewN | apply below_drew1) | exact HB.out)) hb)
                    clear HB
                    have HB := n0_
                    clear n0_
                    (try clear hb)
                    (try clear hb2)
                    (try clear hk)
                    (try clear hi)
                    (try simp only [errW_none, errW_some])
                    refine hK.out _ _ ⟨((HB.out.cell (World.block_lt_of_cell? w _ hw167_0)).trans hw167_0), ((HB.out.cell (World.block_lt_of_cell? w _ hw168_0)).trans hw168_0)⟩ (fun hHeld => ?_)
                    clear hK K
                    refine norm_ (a' := ?_) ?_ ?_
                    rotate_left
                    · show Act.put _ (some 21) _ = _
                      simp only [Act.put, List.setIfInBounds_toArray, List.set_cons_zero, List.set_cons_succ, i64_w, i32_w]
                      rfl
                    refine pure_ (i := 8) (N := some 13) (v := ?_) (a' := ?_) #[true, true, true, true, true, true, true, true, true, false, false, false, false] rfl rfl (any_of HT_.out (by kernel_rfl)) (fun _ _ _ h => h) (Or.inl ⟨by rfl, ?_⟩) ?_ ?_
                    rotate_left
                    · intro w'
                      go_simp
                      with_reducible rfl
                    rotate_left
                    · simp only [Act.put, List.setIfInBounds_toArray, List.set_cons_zero, List.set_cons_succ, i64_w, i32_w]
                      rfl
                    refine pure_ (i := 9) (N := some 22) (v := ?_) (a' := ?_) #[true, true, true, true, true, true, true, true, true, true, false, false, false] rfl rfl (any_of HT_.out (by kernel_rfl)) (fun _ _ _ h => h) (Or.inl ⟨by rfl, ?_⟩) ?_ ?_
                    rotate_left
                    · intro w'
                      go_simp
                      with_reducible rfl
                    rotate_left
                    · simp only [Act.put, List.setIfInBounds_toArray, List.set_cons_zero, List.set_cons_succ, i64_w, i32_w]
                      rfl
                    refine pure_ (i := 10) (N := some 23) (v := ?_) (a' := ?_) #[true, true, true, true, true, true, true, true, true, true, true, false, false] rfl rfl (any_of HT_.out (by kernel_rfl)) (fun _ _ _ h => h) (Or.inl ⟨by rfl, ?_⟩) ?_ ?_
                    rotate_left
                    · intro w'
                      go_simp
                      with_reducible rfl
                    rotate_left
                    · simp only [Act.put, List.setIfInBounds_toArray, List.set_cons_zero, List.set_cons_succ, i64_w, i32_w]
                      rfl
                    refine pure_ (i := 11) (N := some 6) (v := ?_) (a' := ?_) #[true, true, true, true, true, true, true, true, true, true, true, true, false] rfl rfl (any_of HT_.out (by kernel_rfl)) (fun _ _ _ h => h) (Or.inl ⟨by rfl, ?_⟩) ?_ ?_
                    rotate_left
                    · intro w'
                      go_simp
                      with_reducible rfl
                    rotate_left
                    · simp only [Act.put, List.setIfInBounds_toArray, List.set_cons_zero, List.set_cons_succ, i64_w, i32_w]
                      rfl
                    refine pure_ (i := 12) (N := some 7) (v := ?_) (a' := ?_) #[true, true, true, true, true, true, true, true, true, true, true, true, true] rfl rfl (any_of HT_.out (by kernel_rfl)) (fun _ _ _ h => h) (Or.inl ⟨by rfl, ?_⟩) ?_ ?_
                    rotate_left
                    · intro w'
                      go_simp
                      with_reducible rfl
                    rotate_left
                    · simp only [Act.put, List.setIfInBounds_toArray, List.set_cons_zero, List.set_cons_succ, i64_w, i32_w]
                      rfl
                    refine done_ (done_of HT_.out (by kernel_rfl)) ?_
                    try go_wp2
                    have n0_ := Aside0.mk (below_drew1 HB.out)
                    clear HB
                    have HB := n0_
                    clear n0_
                    have p172 : 0 ≤ (2 : Int) := (by omega)
                    have q172 : 2 < (l0.length : Int) := of_decide_eq_true (by first | (with_reducible assumption) | assumption)
                    obtain ⟨ad172, e172, hx172_0⟩ := Kd.at_int HR0.out 2 p172 q172
                    have hw172_0 := hx172_0
                    (try rw [show ((2 : Int)).toNat = 2 from rfl] at hw172_0)
                    (try rw [show 2 * 1 = 2 from rfl] at hw172_0)
                    (try simp only [Nat.reduceMul, Nat.reduceEqDiff, Go.Addr.add, ↓reduceIte] at hw172_0)
                    obtain rfl : ad167 = ad172 := (by injection e172)
                    (try simp only [show (2 : Int).toNat = 2 from rfl, Nat.reduceMul, Nat.reduceEqDiff, Go.Addr.add, ↓reduceIte] at hx172_0)
                    have qi172 : (2 < l0.length) = True := eq_true (by omega)
                    (try rw [show ((2 : Int)).toNat = 2 from rfl] at hx172_0)
                    replace hx172_0 := (HB.out.cell (World.block_lt_of_cell? w _ hx172_0)).trans hx172_0
                    replace p172 := eq_true p172
                    replace q172 := eq_true q172
                    have p173 : 0 ≤ (3 : Int) := (by omega)
                    have q173 : 3 < (l0.length : Int) := of_decide_eq_true (by first | (with_reducible assumption) | assumption)
                    obtain ⟨ad173, e173, hx173_0⟩ := Kd.at_int HR0.out 3 p173 q173
                    have hw173_0 := hx173_0
                    (try rw [show ((3 : Int)).toNat = 3 from rfl] at hw173_0)
                    (try rw [show 3 * 1 = 3 from rfl] at hw173_0)
                    (try simp only [Nat.reduceMul, Nat.reduceEqDiff, Go.Addr.add, ↓reduceIte] at hw173_0)
                    obtain rfl : ad167 = ad173 := (by injection e173)
                    (try simp only [show (3 : Int).toNat = 3 from rfl, Nat.reduceMul, Nat.reduceEqDiff, Go.Addr.add, ↓reduceIte] at hx173_0)
                    have qi173 : (3 < l0.length) = True := eq_true (by omega)
                    (try rw [show ((3 : Int)).toNat = 3 from rfl] at hx173_0)
                    replace hx173_0 := (HB.out.cell (World.block_lt_of_cell? w _ hx173_0)).trans hx173_0
                    replace p173 := eq_true p173
                    replace q173 := eq_true q173
                    refine start_ (n := 13) (S := fun w' => w'.cell? ⟨ad167.block, ad167.off + 2, none⟩ = some (.int .i64 (rd l0 2)) ∧ w'.cell? ⟨ad167.block, ad167.off + 3, none⟩ = some (.int .i64 (rd l0 3))) (ds := []) #[false, false, false, false, false, false, false, false, false, false, false, false, false] (by kernel_rfl) rfl rfl ⟨((HB.out.cell (World.block_lt_of_cell? w _ hw172_0)).trans hw172_0), ((HB.out.cell (World.block_lt_of_cell? w _ hw173_0)).trans hw173_0)⟩ (fun hHeld => ?_); refine with_tabW excelize_coordinatesToRangeRef.tab6 excelize_coordinatesToRangeRef.bits6 (fun HT_ HW_ => ?_)
                    generalize w13.drew = w14 at HB hx172_0 hx173_0 hHeld ⊢
                    refine pure_ (i := 0) (N := some 28) (v := ?_) (a' := ?_) #[true, false, false, false, false, false, false, false, false, false, false, false, false] rfl rfl (any_of HT_.out (by kernel_rfl)) (fun _ _ _ h => h) (Or.inl ⟨by rfl, ?_⟩) ?_ ?_
                    rotate_left
                    · intro w'
                      go_simp
                      with_reducible rfl
                    rotate_left
                    · simp only [Act.put, List.setIfInBounds_toArray, List.set_cons_zero, List.set_cons_succ, i64_w, i32_w]
                      rfl
                    refine pure_ (i := 1) (N := some 29) (v := ?_) (a' := ?_) #[true, true, false, false, false, false, false, false, false, false, false, false, false] rfl rfl (any_of HT_.out (by kernel_rfl)) (fun _ _ _ h => h) (Or.inl ⟨by rfl, ?_⟩) ?_ ?_
                    rotate_left
                    · intro w'
                      go_simp
                      with_reducible rfl
                    rotate_left
                    · simp only [Act.put, List.setIfInBounds_toArray, List.set_cons_zero, List.set_cons_succ, i64_w, i32_w]
                      rfl
                    refine pure_ (i := 3) (N := some 31) (v := ?_) (a' := ?_) #[true, true, false, true, false, false, false, false, false, false, false, false, false] rfl rfl (any_of HT_.out (by kernel_rfl)) (fun _ _ _ h => h) (Or.inl ⟨by rfl, ?_⟩) ?_ ?_
                    rotate_left
                    · intro w'
                      go_simp
                      with_reducible rfl
                    rotate_left
                    · simp only [Act.put, List.setIfInBounds_toArray, List.set_cons_zero, List.set_cons_succ, i64_w, i32_w]
                      rfl
                    refine pure_ (i := 4) (N := some 32) (v := ?_) (a' := ?_) #[true, true, false, true, true, false, false, false, false, false, false, false, false] rfl rfl (any_of HT_.out (by kernel_rfl)) (fun _ _ _ h => h) (Or.inl ⟨by rfl, ?_⟩) ?_ ?_
                    rotate_left
                    · intro w'
                      go_simp
                      with_reducible rfl
                    rotate_left
                    · simp only [Act.put, List.setIfInBounds_toArray, List.set_cons_zero, List.set_cons_succ, i64_w, i32_w]
                      rfl
                    refine pure_ (i := 6) (N := some 34) (v := ?_) (a' := ?_) #[true, true, false, true, true, false, true, false, false, false, false, false, false] rfl rfl (any_of HT_.out (by kernel_rfl)) (fun _ _ _ h => h) (Or.inl ⟨by rfl, ?_⟩) ?_ ?_
                    rotate_left
                    · intro w'
                      go_simp
                      with_reducible rfl
                    rotate_left
                    · simp only [Act.put, List.setIfInBounds_toArray, List.set_cons_zero, List.set_cons_succ, i64_w, i32_w]
                      rfl
                    refine take_ (i := 2) (N := some 30) (v := ?_) (a' := ?_) #[true, true, true, true, true, false, true, false, false, false, false, false, false] rfl rfl (take_ofW HT_.out HW_.out (by kernel_rfl)) (fun _ _ _ h => h) (Or.inl ⟨by rfl, ?_⟩) hHeld ?_ ?_
                    rotate_left
                    · rintro w' ⟨s0, s1⟩
                      go_simp
                      with_reducible rfl
                    rotate_left
                    · simp only [Act.put, List.setIfInBounds_toArray, List.set_cons_zero, List.set_cons_succ, i64_w, i32_w]
                      rfl
                    refine take_ (i := 5) (N := some 33) (v := ?_) (a' := ?_) #[true, true, true, true, true, true, true, false, false, false, false, false, false] rfl rfl (take_ofW HT_.out HW_.out (by kernel_rfl)) (fun _ _ _ h => h) (Or.inl ⟨by rfl, ?_⟩) hHeld ?_ ?_
                    rotate_left
                    · rintro w' ⟨s0, s1⟩
                      go_simp
                      with_reducible rfl
                    rotate_left
                    · simp only [Act.put, List.setIfInBounds_toArray, List.set_cons_zero, List.set_cons_succ, i64_w, i32_w]
                      rfl
                    refine one_ (i := 7) (N := some 35) #[true, true, true, true, true, true, true, true, false, false, false, false, false] rfl rfl (one_of HT_.out (by kernel_rfl)) (by decide) (fun K hK => ?_)
                    refine goes_ Tryz.func55 (by kernel_rfl) rfl #[.int .i64 (rd l0 2), .int .i64 (rd l0 3), .slice A1 l1.length c1] (by rfl) rfl rfl (by (try simp only [List.map_toArray, List.map_cons, List.map_nil]); first | done | rfl | (simp only [List.length_drop, List.length_take]; rfl)) ?_
                    with_reducible refine (excelize_CoordinatesToCellName.calls k (rd l0 2) (rd l0 3) _ _ l1 t174 none _ ?side1 ?side2 A9.out).mono ?_
                    (case side1 => repeat (first | exact (Kd.C_below HR1.out HB.out) | (with_reducible refine Kd.C_alloc ?_ _) | (with_reducible refine Kd.C_drewN ?_ _) | (with_reducible refine Kd.C_drew ?_)))
                    (case side2 => exact HC1.out)
                    rintro e w15 ⟨rfl, hb⟩
                    refine ⟨_, rfl, ?_⟩
                    have n0_ := Aside0.mk (below_step (by repeat (first | (with_reducible first | exact HB.out | apply below_alloc | apply pw_below_drewN | apply below_drew1) | exact HB.out)) hb)
                    clear HB
                    have HB := n0_
                    clear n0_
                    (try clear hb)
                    (try clear hb2)
                    (try clear hk)
                    (try clear hi)
                    (try simp only [errW_none, errW_some])
                    refine hK.out _ _ ⟨((HB.out.cell (World.block_lt_of_cell? w _ hw172_0)).trans hw172_0), ((HB.out.cell (World.block_lt_of_cell? w _ hw173_0)).trans hw173_0)⟩ (fun hHeld => ?_)
                    clear hK K
                    refine norm_ (a' := ?_) ?_ ?_
                    rotate_left
                    · show Act.put _ (some 35) _ = _
                      simp only [Act.put, List.setIfInBounds_toArray, List.set_cons_zero, List.set_cons_succ, i64_w, i32_w]
                      rfl
                    refine pure_ (i := 8) (N := some 27) (v := ?_) (a' := ?_) #[true, true, true, true, true, true, true, true, true, false, false, false, false] rfl rfl (any_of HT_.out (by kernel_rfl)) (fun _ _ _ h => h) (Or.inl ⟨by rfl, ?_⟩) ?_ ?_
                    rotate_left
                    · intro w'
                      go_simp
                      with_reducible rfl
                    rotate_left
                    · simp only [Act.put, List.setIfInBounds_toArray, List.set_cons_zero, List.set_cons_succ, i64_w, i32_w]
                      rfl
                    refine pure_ (i := 9) (N := some 36) (v := ?_) (a' := ?_) #[true, true, true, true, true, true, true, true, true, true, false, false, false] rfl rfl (any_of HT_.out (by kernel_rfl)) (fun _ _ _ h => h) (Or.inl ⟨by rfl, ?_⟩) ?_ ?_
                    rotate_left
                    · intro w'
                      go_simp
                      with_reducible rfl
                    rotate_left
                    · simp only [Act.put, List.setIfInBounds_toArray, List.set_cons_zero, List.set_cons_succ, i64_w, i32_w]
                      rfl
                    refine pure_ (i := 10) (N := some 37) (v := ?_) (a' := ?_) #[true, true, true, true, true, true, true, true, true, true, true, false, false] rfl rfl (any_of HT_.out (by kernel_rfl)) (fun _ _ _ h => h) (Or.inl ⟨by rfl, ?_⟩) ?_ ?_
                    rotate_left
                    · intro w'
                      go_simp
                      with_reducible rfl
                    rotate_left
                    · simp only [Act.put, List.setIfInBounds_toArray, List.set_cons_zero, List.set_cons_succ, i64_w, i32_w]
                      rfl
                    refine pure_ (i := 11) (N := some 8) (v := ?_) (a' := ?_) #[true, true, true, true, true, true, true, true, true, true, true, true, false] rfl rfl (any_of HT_.out (by kernel_rfl)) (fun _ _ _ h => h) (Or.inl ⟨by rfl, ?_⟩) ?_ ?_
                    rotate_left
                    · intro w'
                      go_simp
                      with_reducible rfl
                    rotate_left
                    · simp only [Act.put, List.setIfInBounds_toArray, List.set_cons_zero, List.set_cons_succ, i64_w, i32_w]
                      rfl
                    refine pure_ (i := 12) (N := some 7) (v := ?_) (a' := ?_) #[true, true, true, true, true, true, true, true, true, true, true, true, true] rfl rfl (any_of HT_.out (by kernel_rfl)) (fun _ _ _ h => h) (Or.inl ⟨by rfl, ?_⟩) ?_ ?_
                    rotate_left
                    · intro w'
                      go_simp
                      with_reducible rfl
                    rotate_left
                    · simp only [Act.put, List.setIfInBounds_toArray, List.set_cons_zero, List.set_cons_succ, i64_w, i32_w]
                      rfl
                    refine done_ (done_of HT_.out (by kernel_rfl)) ?_
                    try go_wp2
                    go_ret2
                    exact ⟨by first | rfl | (simp [errW_none, errW_some] <;> rfl) | (simp [*, errW_none, errW_some] <;> rfl), by repeat (first | (with_reducible first | exact HB.out | apply below_alloc | apply pw_below_drewN | apply below_drew1) | exact HB.out)⟩
                  · rw [if_neg c11] at H
                    exact absurd H (by simp)
                · rw [if_neg c10] at H
                  exact absurd H (by simp)
              · have H1 : (some ((⟨#[]⟩ : ByteArray), some q176)) = some (r1, r2) := by rw [if_neg (show ¬ (some q176).isNone = true by simp)] at H; exact H
                clear H
                have H := H1
                clear H1
                try simp only [errW_none, errW_some]
                simp only [Option.some.injEq, Prod.mk.injEq] at H
                obtain ⟨rfl, rfl⟩ := H
                go_enter Tryz.func56, Tryz.ntmps56
                try go_wp2
                have n0_ := Aside0.mk (below_drew1 HB.out)
                clear HB
                have HB := n0_
                clear n0_
                have p167 : 0 ≤ (0 : Int) := (by omega)
                have q167 : 0 < (l0.length : Int) := of_decide_eq_true (by first | (with_reducible assumption) | assumption)
                obtain ⟨ad167, e167, hx167_0⟩ := Kd.at_int HR0.out 0 p167 q167
                have hw167_0 := hx167_0
                (try rw [show ((0 : Int)).toNat = 0 from rfl] at hw167_0)
                (try rw [show 0 * 1 = 0 from rfl] at hw167_0)
                (try rw [Addr.add_zero'] at hw167_0)
                cases e167
                have qi167 : (0 < l0.length) = True := eq_true (by omega)
                (try rw [show ((0 : Int)).toNat = 0 from rfl] at hx167_0)
                (try rw [Addr.add_zero'] at hx167_0)
                replace hx167_0 := (HB.out.cell (World.block_lt_of_cell? w _ hx167_0)).trans hx167_0
                replace p167 := eq_true p167
                replace q167 := eq_true q167
                have p168 : 0 ≤ (1 : Int) := (by omega)
                have q168 : 1 < (l0.length : Int) := of_decide_eq_true (by first | (with_reducible assumption) | assumption)
                obtain ⟨ad168, e168, hx168_0⟩ := Kd.at_int HR0.out 1 p168 q168
                have hw168_0 := hx168_0
                (try rw [show ((1 : Int)).toNat = 1 from rfl] at hw168_0)
                (try rw [show 1 * 1 = 1 from rfl] at hw168_0)
                (try simp only [Nat.reduceMul, Nat.reduceEqDiff, Go.Addr.add, ↓reduceIte] at hw168_0)
                obtain rfl : ad167 = ad168 := (by injection e168)
                (try simp only [show (1 : Int).toNat = 1 from rfl, Nat.reduceMul, Nat.reduceEqDiff, Go.Addr.add, ↓reduceIte] at hx168_0)
                have qi168 : (1 < l0.length) = True := eq_true (by omega)
                (try rw [show ((1 : Int)).toNat = 1 from rfl] at hx168_0)
                replace hx168_0 := (HB.out.cell (World.block_lt_of_cell? w _ hx168_0)).trans hx168_0
                replace p168 := eq_true p168
                replace q168 := eq_true q168
                refine start_ (n := 13) (S := fun w' => w'.cell? ad167 = some (.int .i64 (rd l0 0)) ∧ w'.cell? ⟨ad167.block, ad167.off + 1, none⟩ = some (.int .i64 (rd l0 1))) (ds := []) #[false, false, false, false, false, false, false, false, false, false, false, false, false] (by kernel_rfl) rfl rfl ⟨((HB.out.cell (World.block_lt_of_cell? w _ hw167_0)).trans hw167_0), ((HB.out.cell (World.block_lt_of_cell? w _ hw168_0)).trans hw168_0)⟩ (fun hHeld => ?_); refine with_tabW excelize_coordinatesToRangeRef.tab3 excelize_coordinatesToRangeRef.bits3 (fun HT_ HW_ => ?_)
                generalize w.drew = w16 at HB hx167_0 hx168_0 hHeld ⊢
                refine pure_ (i := 0) (N := some 14) (v := ?_) (a' := ?_) #[true, false, false, false, false, false, false, false, false, false, false, false, false] rfl rfl (any_of HT_.out (by kernel_rfl)) (fun _ _ _ h => h) (Or.inl ⟨by rfl, ?_⟩) ?_ ?_
                rotate_left
                · intro w'
                  go_simp
                  with_reducible rfl
                rotate_left
                · simp only [Act.put, List.setIfInBounds_toArray, List.set_cons_zero, List.set_cons_succ, i64_w, i32_w]
                  rfl
                refine pure_ (i := 1) (N := some 15) (v := ?_) (a' := ?_) #[true, true, false, false, false, false, false, false, false, false, false, false, false] rfl rfl (any_of HT_.out (by kernel_rfl)) (fun _ _ _ h => h) (Or.inl ⟨by rfl, ?_⟩) ?_ ?_
                rotate_left
                · intro w'
                  go_simp
                  with_reducible rfl
                rotate_left
                · simp only [Act.put, List.setIfInBounds_toArray, List.set_cons_zero, List.set_cons_succ, i64_w, i32_w]
                  rfl
                refine pure_ (i := 3) (N := some 17) (v := ?_) (a' := ?_) #[true, true, false, true, false, false, false, false, false, false, false, false, false] rfl rfl (any_of HT_.out (by kernel_rfl)) (fun _ _ _ h => h) (Or.inl ⟨by rfl, ?_⟩) ?_ ?_
                rotate_left
                · intro w'
                  go_simp
                  with_reducible rfl
                rotate_left
                · simp only [Act.put, List.setIfInBounds_toArray, List.set_cons_zero, List.set_cons_succ, i64_w, i32_w]
                  rfl
                refine pure_ (i := 4) (N := some 18) (v := ?_) (a' := ?_) #[true, true, false, true, true, false, false, false, false, false, false, false, false] rfl rfl (any_of HT_.out (by kernel_rfl)) (fun _ _ _ h => h) (Or.inl ⟨by rfl, ?_⟩) ?_ ?_
                rotate_left
                · intro w'
                  go_simp
                  with_reducible rfl
                rotate_left
                · simp only [Act.put, List.setIfInBounds_toArray, List.set_cons_zero, List.set_cons_succ, i64_w, i32_w]
                  rfl
                refine pure_ (i := 6) (N := some 20) (v := ?_) (a' := ?_) #[true, true, false, true, true, false, true, false, false, false, false, false, false] rfl rfl (any_of HT_.out (by kernel_rfl)) (fun _ _ _ h => h) (Or.inl ⟨by rfl, ?_⟩) ?_ ?_
                rotate_left
                · intro w'
                  go_simp
                  with_reducible rfl
                rotate_left
                · simp only [Act.put, List.setIfInBounds_toArray, List.set_cons_zero, List.set_cons_succ, i64_w, i32_w]
                  rfl
                refine take_ (i := 2) (N := some 16) (v := ?_) (a' := ?_) #[true, true, true, true, true, false, true, false, false, false, false, false, false] rfl rfl (take_ofW HT_.out HW_.out (by kernel_rfl)) (fun _ _ _ h => h) (Or.inl ⟨by rfl, ?_⟩) hHeld ?_ ?_
                rotate_left
                · rintro w' ⟨s0, s1⟩
                  go_simp
                  with_reducible rfl
                rotate_left
                · simp only [Act.put, List.setIfInBounds_toArray, List.set_cons_zero, List.set_cons_succ, i64_w, i32_w]
                  rfl
                refine take_ (i := 5) (N := some 19) (v := ?_) (a' := ?_) #[true, true, true, true, true, true, true, false, false, false, false, false, false] rfl rfl (take_ofW HT_.out HW_.out (by kernel_rfl)) (fun _ _ _ h => h) (Or.inl ⟨by rfl, ?_⟩) hHeld ?_ ?_
                rotate_left
                · rintro w' ⟨s0, s1⟩
                  go_simp
                  with_reducible rfl
                rotate_left
                · simp only [Act.put, List.setIfInBounds_toArray, List.set_cons_zero, List.set_cons_succ, i64_w, i32_w]
                  rfl
                refine one_ (i := 7) (N := some 21) #[true, true, true, true, true, true, true, true, false, false, false, false, false] rfl rfl (one_of HT_.out (by kernel_rfl)) (by decide) (fun K hK => ?_)
                refine goes_ Tryz.func55 (by kernel_rfl) rfl #[.int .i64 (rd l0 0), .int .i64 (rd l0 1), .slice A1 l1.length c1] (by rfl) rfl rfl (by (try simp only [List.map_toArray, List.map_cons, List.map_nil]); first | done | rfl | (simp only [List.length_drop, List.length_take]; rfl)) ?_
                with_reducible refine (excelize_CoordinatesToCellName.calls k (rd l0 0) (rd l0 1) _ _ l1 t169 none _ ?side1 ?side2 A6.out).mono ?_
                (case side1 => repeat (first | exact (Kd.C_below HR1.out HB.out) | (with_reducible refine Kd.C_alloc ?_ _) | (with_reducible refine Kd.C_drewN ?_ _) | (with_reducible refine Kd.C_drew ?_)))
                (case side2 => exact HC1.out)
                rintro e w17 ⟨rfl, hb⟩
                refine ⟨_, rfl, ?_⟩
                have n0_ := Aside0.mk (below_step (by repeat (first | (with_reducible first | exact HB.out | apply below_alloc | apply pw_below_drewN | apply below_drew1) | exact HB.out)) hb)
                clear HB
                have HB := n0_
                clear n0_
                (try clear hb)
                (try clear hb2)
                (try clear hk)
                (try clear hi)
                (try simp only [errW_none, errW_some])
                refine hK.out _ _ ⟨((HB.out.cell (World.block_lt_of_cell? w _ hw167_0)).trans hw167_0), ((HB.out.cell (World.block_lt_of_cell? w _ hw168_0)).trans hw168_0)⟩ (fun hHeld => ?_)
                clear hK K
                refine norm_ (a' := ?_) ?_ ?_
                rotate_left
                · show Act.put _ (some 21) _ = _
                  simp only [Act.put, List.setIfInBounds_toArray, List.set_cons_zero, List.set_cons_succ, i64_w, i32_w]
                  rfl
                refine pure_ (i := 8) (N := some 13) (v := ?_) (a' := ?_) #[true, true, true, true, true, true, true, true, true, false, false, false, false] rfl rfl (any_of HT_.out (by kernel_rfl)) (fun _ _ _ h => h) (Or.inl ⟨by rfl, ?_⟩) ?_ ?_
                rotate_left
                · intro w'
                  go_simp
                  with_reducible rfl
                rotate_left
                · simp only [Act.put, List.setIfInBounds_toArray, List.set_cons_zero, List.set_cons_succ, i64_w, i32_w]
                  rfl
                refine pure_ (i := 9) (N := some 22) (v := ?_) (a' := ?_) #[true, true, true, true, true, true, true, true, true, true, false, false, false] rfl rfl (any_of HT_.out (by kernel_rfl)) (fun _ _ _ h => h) (Or.inl ⟨by rfl, ?_⟩) ?_ ?_
                rotate_left
                · intro w'
                  go_simp
                  with_reducible rfl
                rotate_left
                · simp only [Act.put, List.setIfInBounds_toArray, List.set_cons_zero, List.set_cons_succ, i64_w, i32_w]
                  rfl
                refine pure_ (i := 10) (N := some 23) (v := ?_) (a' := ?_) #[true, true, true, true, true, true, true, true, true, true, true, false, false] rfl rfl (any_of HT_.out (by kernel_rfl)) (fun _ _ _ h => h) (Or.inl ⟨by rfl, ?_⟩) ?_ ?_
                rotate_left
                · intro w'
                  go_simp
                  with_reducible rfl
                rotate_left
                · simp only [Act.put, List.setIfInBounds_toArray, List.set_cons_zero, List.set_cons_succ, i64_w, i32_w]
                  rfl
                refine pure_ (i := 11) (N := some 6) (v := ?_) (a' := ?_) #[true, true, true, true, true, true, true, true, true, true, true, true, false] rfl rfl (any_of HT_.out (by kernel_rfl)) (fun _ _ _ h => h) (Or.inl ⟨by rfl, ?_⟩) ?_ ?_
                rotate_left
                · intro w'
                  go_simp
                  with_reducible rfl
                rotate_left
                · simp only [Act.put, List.setIfInBounds_toArray, List.set_cons_zero, List.set_cons_succ, i64_w, i32_w]
                  rfl
                refine pure_ (i := 12) (N := some 7) (v := ?_) (a' := ?_) #[true, true, true, true, true, true, true, true, true, true, true, true, true] rfl rfl (any_of HT_.out (by kernel_rfl)) (fun _ _ _ h => h) (Or.inl ⟨by rfl, ?_⟩) ?_ ?_
                rotate_left
                · intro w'
                  go_simp
                  with_reducible rfl
                rotate_left
                · simp only [Act.put, List.setIfInBounds_toArray, List.set_cons_zero, List.set_cons_succ, i64_w, i32_w]
                  rfl
                refine done_ (done_of HT_.out (by kernel_rfl)) ?_
                try go_wp2
                have n0_ := Aside0.mk (below_drew1 HB.out)
                clear HB
                have HB := n0_
                clear n0_
                have p172 : 0 ≤ (2 : Int) := (by omega)
                have q172 : 2 < (l0.length : Int) := of_decide_eq_true (by first | (with_reducible assumption) | assumption)
                obtain ⟨ad172, e172, hx172_0⟩ := Kd.at_int HR0.out 2 p172 q172
                have hw172_0 := hx172_0
                (try rw [show ((2 : Int)).toNat = 2 from rfl] at hw172_0)
                (try rw [show 2 * 1 = 2 from rfl] at hw172_0)
                (try simp only [Nat.reduceMul, Nat.reduceEqDiff, Go.Addr.add, ↓reduceIte] at hw172_0)
                obtain rfl : ad167 = ad172 := (by injection e172)
                (try simp only [show (2 : Int).toNat = 2 from rfl, Nat.reduceMul, Nat.reduceEqDiff, Go.Addr.add, ↓reduceIte] at hx172_0)
                have qi172 : (2 < l0.length) = True := eq_true (by omega)
                (try rw [show ((2 : Int)).toNat = 2 from rfl] at hx172_0)
                replace hx172_0 := (HB.out.cell (World.block_lt_of_cell? w _ hx172_0)).trans hx172_0
                replace p172 := eq_true p172
                replace q172 := eq_true q172
                have p173 : 0 ≤ (3 : Int) := (by omega)
                have q173 : 3 < (l0.length : Int) := of_decide_eq_true (by first | (with_reducible assumption) | assumption)
                obtain ⟨ad173, e173, hx173_0⟩ := Kd.at_int HR0.out 3 p173 q173
                have hw173_0 := hx173_0
                (try rw [show ((3 : Int)).toNat = 3 from rfl] at hw173_0)
                (try rw [show 3 * 1 = 3 from rfl] at hw173_0)
                (try simp only [Nat.reduceMul, Nat.reduceEqDiff, Go.Addr.add, ↓reduceIte] at hw173_0)
                obtain rfl : ad167 = ad173 := (by injection e173)
                (try simp only [show (3 : Int).toNat = 3 from rfl, Nat.reduceMul, Nat.reduceEqDiff, Go.Addr.add, ↓reduceIte] at hx173_0)
                have qi173 : (3 < l0.length) = True := eq_true (by omega)
                (try rw [show ((3 : Int)).toNat = 3 from rfl] at hx173_0)
                replace hx173_0 := (HB.out.cell (World.block_lt_of_cell? w _ hx173_0)).trans hx173_0
                replace p173 := eq_true p173
                replace q173 := eq_true q173
                refine start_ (n := 13) (S := fun w' => w'.cell? ⟨ad167.block, ad167.off + 2, none⟩ = some (.int .i64 (rd l0 2)) ∧ w'.cell? ⟨ad167.block, ad167.off + 3, none⟩ = some (.int .i64 (rd l0 3))) (ds := []) #[false, false, false, false, false, false, false, false, false, false, false, false, false] (by kernel_rfl) rfl rfl ⟨((HB.out.cell (World.block_lt_of_cell? w _ hw172_0)).trans hw172_0), ((HB.out.cell (World.block_lt_of_cell? w _ hw173_0)).trans hw173_0)⟩ (fun hHeld => ?_); refine with_tabW excelize_coordinatesToRangeRef.tab6 excelize_coordinatesToRangeRef.bits6 (fun HT_ HW_ => ?_)
                generalize w17.drew = w18 at HB hx172_0 hx173_0 hHeld ⊢
                refine pure_ (i := 0) (N := some 28) (v := ?_) (a' := ?_) #[true, false, false, false, false, false, false, false, false, false, false, false, false] rfl rfl (any_of HT_.out (by kernel_rfl)) (fun _ _ _ h => h) (Or.inl ⟨by rfl, ?_⟩) ?_ ?_
                rotate_left
                · intro w'
                  go_simp
                  with_reducible rfl
                rotate_left
                · simp only [Act.put, List.setIfInBounds_toArray, List.set_cons_zero, List.set_cons_succ, i64_w, i32_w]
                  rfl
                refine pure_ (i := 1) (N := some 29) (v := ?_) (a' := ?_) #[true, true, false, false, false, false, false, false, false, false, false, false, false] rfl rfl (any_of HT_.out (by kernel_rfl)) (fun _ _ _ h => h) (Or.inl ⟨by rfl, ?_⟩) ?_ ?_
                rotate_left
                · intro w'
                  go_simp
                  with_reducible rfl
                rotate_left
                · simp only [Act.put, List.setIfInBounds_toArray, List.set_cons_zero, List.set_cons_succ, i64_w, i32_w]
                  rfl
                refine pure_ (i := 3) (N := some 31) (v := ?_) (a' := ?_) #[true, true, false, true, false, false, false, false, false, false, false, false, false] rfl rfl (any_of HT_.out (by kernel_rfl)) (fun _ _ _ h => h) (Or.inl ⟨by rfl, ?_⟩) ?_ ?_
                rotate_left
                · intro w'
                  go_simp
                  with_reducible rfl
                rotate_left
                · simp only [Act.put, List.setIfInBounds_toArray, List.set_cons_zero, List.set_cons_succ, i64_w, i32_w]
                  rfl
                refine pure_ (i := 4) (N := some 32) (v := ?_) (a' := ?_) #[true, true, false, true, true, false, false, false, false, false, false, false, false] rfl rfl (any_of HT_.out (by kernel_rfl)) (fun _ _ _ h => h) (Or.inl ⟨by rfl, ?_⟩) ?_ ?_
                rotate_left
                · intro w'
                  go_simp
                  with_reducible rfl
                rotate_left
                · simp only [Act.put, List.setIfInBounds_toArray, List.set_cons_zero, List.set_cons_succ, i64_w, i32_w]
                  rfl
                refine pure_ (i := 6) (N := some 34) (v := ?_) (a' := ?_) #[true, true, false, true, true, false, true, false, false, false, false, false, false] rfl rfl (any_of HT_.out (by kernel_rfl)) (fun _ _ _ h => h) (Or.inl ⟨by rfl, ?_⟩) ?_ ?_
                rotate_left
                · intro w'
                  go_simp
                  with_reducible rfl
                rotate_left
                · simp only [Act.put, List.setIfInBounds_toArray, List.set_cons_zero, List.set_cons_succ, i64_w, i32_w]
                  rfl
                refine take_ (i := 2) (N := some 30) (v := ?_) (a' := ?_) #[true, true, true, true, true, false, true, false, false, false, false, false, false] rfl rfl (take_ofW HT_.out HW_.out (by kernel_rfl)) (fun _ _ _ h => h) (Or.inl ⟨by rfl, ?_⟩) hHeld ?_ ?_
                rotate_left
                · rintro w' ⟨s0, s1⟩
                  go_simp
                  with_reducible rfl
                rotate_left
                · simp only [Act.put, List.setIfInBounds_toArray, List.set_cons_zero, List.set_cons_succ, i64_w, i32_w]
                  rfl
                refine take_ (i := 5) (N := some 33) (v := ?_) (a' := ?_) #[true, true, true, true, true, true, true, false, false, false, false, false, false] rfl rfl (take_ofW HT_.out HW_.out (by kernel_rfl)) (fun _ _ _ h => h) (Or.inl ⟨by rfl, ?_⟩) hHeld ?_ ?_
                rotate_left
                · rintro w' ⟨s0, s1⟩
                  go_simp
                  with_reducible rfl
                rotate_left
                · simp only [Act.put, List.setIfInBounds_toArray, List.set_cons_zero, List.set_cons_succ, i64_w, i32_w]
                  rfl
                refine one_ (i := 7) (N := some 35) #[true, true, true, true, true, true, true, true, false, false, false, false, false] rfl rfl (one_of HT_.out (by kernel_rfl)) (by decide) (fun K hK => ?_)
                refine goes_ Tryz.func55 (by kernel_rfl) rfl #[.int .i64 (rd l0 2), .int .i64 (rd l0 3), .slice A1 l1.length c1] (by rfl) rfl rfl (by (try simp only [List.map_toArray, List.map_cons, List.map_nil]); first | done | rfl | (simp only [List.length_drop, List.length_take]; rfl)) ?_
                with_reducible refine (excelize_CoordinatesToCellName.calls k (rd l0 2) (rd l0 3) _ _ l1 t174 (some q176) _ ?side1 ?side2 A9.out).mono ?_
                (case side1 => repeat (first | exact (Kd.C_below HR1.out HB.out) | (with_reducible refine Kd.C_alloc ?_ _) | (with_reducible refine Kd.C_drewN ?_ _) | (with_reducible refine Kd.C_drew ?_)))
                (case side2 => exact HC1.out)
                rintro e w19 ⟨rfl, hb⟩
                refine ⟨_, rfl, ?_⟩
                have n0_ := Aside0.mk (below_step (by repeat (first | (with_reducible first | exact HB.out | apply below_alloc | apply pw_below_drewN | apply below_drew1) | exact HB.out)) hb)
                clear HB
                have HB := n0_
                clear n0_
                (try clear hb)
                (try clear hb2)
                (try clear hk)
                (try clear hi)
                (try simp only [errW_none, errW_some])
                refine hK.out _ _ ⟨((HB.out.cell (World.block_lt_of_cell? w _ hw172_0)).trans hw172_0), ((HB.out.cell (World.block_lt_of_cell? w _ hw173_0)).trans hw173_0)⟩ (fun hHeld => ?_)
                clear hK K
                refine norm_ (a' := ?_) ?_ ?_
                rotate_left
                · show Act.put _ (some 35) _ = _
                  simp only [Act.put, List.setIfInBounds_toArray, List.set_cons_zero, List.set_cons_succ, i64_w, i32_w]
                  rfl
                refine pure_ (i := 8) (N := some 27) (v := ?_) (a' := ?_) #[true, true, true, true, true, true, true, true, true, false, false, false, false] rfl rfl (any_of HT_.out (by kernel_rfl)) (fun _ _ _ h => h) (Or.inl ⟨by rfl, ?_⟩) ?_ ?_
                rotate_left
                · intro w'
                  go_simp
                  with_reducible rfl
                rotate_left
                · simp only [Act.put, List.setIfInBounds_toArray, List.set_cons_zero, List.set_cons_succ, i64_w, i32_w]
                  rfl
                refine pure_ (i := 9) (N := some 36) (v := ?_) (a' := ?_) #[true, true, true, true, true, true, true, true, true, true, false, false, false] rfl rfl (any_of HT_.out (by kernel_rfl)) (fun _ _ _ h => h) (Or.inl ⟨by rfl, ?_⟩) ?_ ?_
                rotate_left
                · intro w'
                  go_simp
                  with_reducible rfl
                rotate_left
                · simp only [Act.put, List.setIfInBounds_toArray, List.set_cons_zero, List.set_cons_succ, i64_w, i32_w]
                  rfl
                refine pure_ (i := 10) (N := some 37) (v := ?_) (a' := ?_) #[true, true, true, true, true, true, true, true, true, true, true, false, false] rfl rfl (any_of HT_.out (by kernel_rfl)) (fun _ _ _ h => h) (Or.inl ⟨by rfl, ?_⟩) ?_ ?_
                rotate_left
                · intro w'
                  go_simp
                  with_reducible rfl
                rotate_left
                · simp only [Act.put, List.setIfInBounds_toArray, List.set_cons_zero, List.set_cons_succ, i64_w, i32_w]
                  rfl
                refine pure_ (i := 11) (N := some 8) (v := ?_) (a' := ?_) #[true, true, true, true, true, true, true, true, true, true, true, true, false] rfl rfl (any_of HT_.out (by kernel_rfl)) (fun _ _ _ h => h) (Or.inl ⟨by rfl, ?_⟩) ?_ ?_
                rotate_left
                · intro w'
                  go_simp
                  with_reducible rfl
                rotate_left
                · simp only [Act.put, List.setIfInBounds_toArray, List.set_cons_zero, List.set_cons_succ, i64_w, i32_w]
                  rfl
                refine pure_ (i := 12) (N := some 7) (v := ?_) (a' := ?_) #[true, true, true, true, true, true, true, true, true, true, true, true, true] rfl rfl (any_of HT_.out (by kernel_rfl)) (fun _ _ _ h => h) (Or.inl ⟨by rfl, ?_⟩) ?_ ?_
                rotate_left
                · intro w'
                  go_simp
                  with_reducible rfl
                rotate_left
                · simp only [Act.put, List.setIfInBounds_toArray, List.set_cons_zero, List.set_cons_succ, i64_w, i32_w]
                  rfl
                refine done_ (done_of HT_.out (by kernel_rfl)) ?_
                try go_wp2
                go_ret2
                exact ⟨by first | rfl | (simp [errW_none, errW_some] <;> rfl) | (simp [*, errW_none, errW_some] <;> rfl), by repeat (first | (with_reducible first | exact HB.out | apply below_alloc | apply pw_below_drewN | apply below_drew1) | exact HB.out)⟩
            · rw [if_neg c8] at H
              exact absurd H (by simp)
          · rw [if_neg c7] at H
            exact absurd H (by simp)
        · have H1 : (some ((⟨#[]⟩ : ByteArray), some q171)) = some (r1, r2) := by rw [if_neg (show ¬ (some q171).isNone = true by simp)] at H; exact H
          clear H
          have H := H1
          clear H1
          try simp only [errW_none, errW_some]
          simp only [Option.some.injEq, Prod.mk.injEq] at H
          obtain ⟨rfl, rfl⟩ := H
          go_enter Tryz.func56, Tryz.ntmps56
          try go_wp2
          have n0_ := Aside0.mk (below_drew1 HB.out)
          clear HB
          have HB := n0_
          clear n0_
          have p167 : 0 ≤ (0 : Int) := (by omega)
          have q167 : 0 < (l0.length : Int) := of_decide_eq_true (by first | (with_reducible assumption) | assumption)
          obtain ⟨ad167, e167, hx167_0⟩ := Kd.at_int HR0.out 0 p167 q167
          have hw167_0 := hx167_0
          (try rw [show ((0 : Int)).toNat = 0 from rfl] at hw167_0)
          (try rw [show 0 * 1 = 0 from rfl] at hw167_0)
          (try rw [Addr.add_zero'] at hw167_0)
          cases e167
          have qi167 : (0 < l0.length) = True := eq_true (by omega)
          (try rw [show ((0 : Int)).toNat = 0 from rfl] at hx167_0)
          (try rw [Addr.add_zero'] at hx167_0)
          replace hx167_0 := (HB.out.cell (World.block_lt_of_cell? w _ hx167_0)).trans hx167_0
          replace p167 := eq_true p167
          replace q167 := eq_true q167
          have p168 : 0 ≤ (1 : Int) := (by omega)
          have q168 : 1 < (l0.length : Int) := of_decide_eq_true (by first | (with_reducible assumption) | assumption)
          obtain ⟨ad168, e168, hx168_0⟩ := Kd.at_int HR0.out 1 p168 q168
          have hw168_0 := hx168_0
          (try rw [show ((1 : Int)).toNat = 1 from rfl] at hw168_0)
          (try rw [show 1 * 1 = 1 from rfl] at hw168_0)
          (try simp only [Nat.reduceMul, Nat.reduceEqDiff, Go.Addr.add, ↓reduceIte] at hw168_0)
          obtain rfl : ad167 = ad168 := (by injection e168)
          (try simp only [show (1 : Int).toNat = 1 from rfl, Nat.reduceMul, Nat.reduceEqDiff, Go.Addr.add, ↓reduceIte] at hx168_0)
          have qi168 : (1 < l0.length) = True := eq_true (by omega)
          (try rw [show ((1 : Int)).toNat = 1 from rfl] at hx168_0)
          replace hx168_0 := (HB.out.cell (World.block_lt_of_cell? w _ hx168_0)).trans hx168_0
          replace p168 := eq_true p168
          replace q168 := eq_true q168
          refine start_ (n := 13) (S := fun w' => w'.cell? ad167 = some (.int .i64 (rd l0 0)) ∧ w'.cell? ⟨ad167.block, ad167.off + 1, none⟩ = some (.int .i64 (rd l0 1))) (ds := []) #[false, false, false, false, false, false, false, false, false, false, false, false, false] (by kernel_rfl) rfl rfl ⟨((HB.out.cell (World.block_lt_of_cell? w _ hw167_0)).trans hw167_0), ((HB.out.cell (World.block_lt_of_cell? w _ hw168_0)).trans hw168_0)⟩ (fun hHeld => ?_); refine with_tabW excelize_coordinatesToRangeRef.tab3 excelize_coordinatesToRangeRef.bits3 (fun HT_ HW_ => ?_)
          generalize w.drew = w20 at HB hx167_0 hx168_0 hHeld ⊢
          refine pure_ (i := 0) (N := some 14) (v := ?_) (a' := ?_) #[true, false, false, false, false, false, false, false, false, false, false, false, false] rfl rfl (any_of HT_.out (by kernel_rfl)) (fun _ _ _ h => h) (Or.inl ⟨by rfl, ?_⟩) ?_ ?_
          rotate_left
          · intro w'
            go_simp
            with_reducible rfl
          rotate_left
          · simp only [Act.put, List.setIfInBounds_toArray, List.set_cons_zero, List.set_cons_succ, i64_w, i32_w]
            rfl
          refine pure_ (i := 1) (N := some 15) (v := ?_) (a' := ?_) #[true, true, false, false, false, false, false, false, false, false, false, false, false] rfl rfl (any_of HT_.out (by kernel_rfl)) (fun _ _ _ h => h) (Or.inl ⟨by rfl, ?_⟩) ?_ ?_
          rotate_left
          · intro w'
            go_simp
            with_reducible rfl
          rotate_left
          · simp only [Act.put, List.setIfInBounds_toArray, List.set_cons_zero, List.set_cons_succ, i64_w, i32_w]
            rfl
          refine pure_ (i := 3) (N := some 17) (v := ?_) (a' := ?_) #[true, true, false, true, false, false, false, false, false, false, false, false, false] rfl rfl (any_of HT_.out (by kernel_rfl)) (fun _ _ _ h => h) (Or.inl ⟨by rfl, ?_⟩) ?_ ?_
          rotate_left
          · intro w'
            go_simp
            with_reducible rfl
          rotate_left
          · simp only [Act.put, List.setIfInBounds_toArray, List.set_cons_zero, List.set_cons_succ, i64_w, i32_w]
            rfl
          refine pure_ (i := 4) (N := some 18) (v := ?_) (a' := ?_) #[true, true, false, true, true, false, false, false, false, false, false, false, false] rfl rfl (any_of HT_.out (by kernel_rfl)) (fun _ _ _ h => h) (Or.inl ⟨by rfl, ?_⟩) ?_ ?_
          rotate_left
          · intro w'
            go_simp
            with_reducible rfl
          rotate_left
          · simp only [Act.put, List.setIfInBounds_toArray, List.set_cons_zero, List.set_cons_succ, i64_w, i32_w]
            rfl
          refine pure_ (i := 6) (N := some 20) (v := ?_) (a' := ?_) #[true, true, false, true, true, false, true, false, false, false, false, false, false] rfl rfl (any_of HT_.out (by kernel_rfl)) (fun _ _ _ h => h) (Or.inl ⟨by rfl, ?_⟩) ?_ ?_
          rotate_left
          · intro w'
            go_simp
            with_reducible rfl
          rotate_left
          · simp only [Act.put, List.setIfInBounds_toArray, List.set_cons_zero, List.set_cons_succ, i64_w, i32_w]
            rfl
          refine take_ (i := 2) (N := some 16) (v := ?_) (a' := ?_) #[true, true, true, true, true, false, true, false, false, false, false, false, false] rfl rfl (take_ofW HT_.out HW_.out (by kernel_rfl)) (fun _ _ _ h => h) (Or.inl ⟨by rfl, ?_⟩) hHeld ?_ ?_
          rotate_left
          · rintro w' ⟨s0, s1⟩
            go_simp
            with_reducible rfl
          rotate_left
          · simp only [Act.put, List.setIfInBounds_toArray, List.set_cons_zero, List.set_cons_succ, i64_w, i32_w]
            rfl
          refine take_ (i := 5) (N := some 19) (v := ?_) (a' := ?_) #[true, true, true, true, true, true, true, false, false, false, false, false, false] rfl rfl (take_ofW HT_.out HW_.out (by kernel_rfl)) (fun _ _ _ h => h) (Or.inl ⟨by rfl, ?_⟩) hHeld ?_ ?_
          rotate_left
          · rintro w' ⟨s0, s1⟩
            go_simp
            with_reducible rfl
          rotate_left
          · simp only [Act.put, List.setIfInBounds_toArray, List.set_cons_zero, List.set_cons_succ, i64_w, i32_w]
            rfl
          refine one_ (i := 7) (N := some 21) #[true, true, true, true, true, true, true, true, false, false, false, false, false] rfl rfl (one_of HT_.out (by kernel_rfl)) (by decide) (fun K hK => ?_)
          refine goes_ Tryz.func55 (by kernel_rfl) rfl #[.int .i64 (rd l0 0), .int .i64 (rd l0 1), .slice A1 l1.length c1] (by rfl) rfl rfl (by (try simp only [List.map_toArray, List.map_cons, List.map_nil]); first | done | rfl | (simp only [List.length_drop, List.length_take]; rfl)) ?_
          with_reducible refine (excelize_CoordinatesToCellName.calls k (rd l0 0) (rd l0 1) _ _ l1 t169 (some q171) _ ?side1 ?side2 A6.out).mono ?_
          (case side1 => repeat (first | exact (Kd.C_below HR1.out HB.out) | (with_reducible refine Kd.C_alloc ?_ _) | (with_reducible refine Kd.C_drewN ?_ _) | (with_reducible refine Kd.C_drew ?_)))
          (case side2 => exact HC1.out)
          rintro e w21 ⟨rfl, hb⟩
          refine ⟨_, rfl, ?_⟩
          have n0_ := Aside0.mk (below_step (by repeat (first | (with_reducible first | exact HB.out | apply below_alloc | apply pw_below_drewN | apply below_drew1) | exact HB.out)) hb)
          clear HB
          have HB := n0_
          clear n0_
          (try clear hb)
          (try clear hb2)
          (try clear hk)
          (try clear hi)
          (try simp only [errW_none, errW_some])
          refine hK.out _ _ ⟨((HB.out.cell (World.block_lt_of_cell? w _ hw167_0)).trans hw167_0), ((HB.out.cell (World.block_lt_of_cell? w _ hw168_0)).trans hw168_0)⟩ (fun hHeld => ?_)
          clear hK K
          refine norm_ (a' := ?_) ?_ ?_
          rotate_left
          · show Act.put _ (some 21) _ = _
            simp only [Act.put, List.setIfInBounds_toArray, List.set_cons_zero, List.set_cons_succ, i64_w, i32_w]
            rfl
          refine pure_ (i := 8) (N := some 13) (v := ?_) (a' := ?_) #[true, true, true, true, true, true, true, true, true, false, false, false, false] rfl rfl (any_of HT_.out (by kernel_rfl)) (fun _ _ _ h => h) (Or.inl ⟨by rfl, ?_⟩) ?_ ?_
          rotate_left
          · intro w'
            go_simp
            with_reducible rfl
          rotate_left
          · simp only [Act.put, List.setIfInBounds_toArray, List.set_cons_zero, List.set_cons_succ, i64_w, i32_w]
            rfl
          refine pure_ (i := 9) (N := some 22) (v := ?_) (a' := ?_) #[true, true, true, true, true, true, true, true, true, true, false, false, false] rfl rfl (any_of HT_.out (by kernel_rfl)) (fun _ _ _ h => h) (Or.inl ⟨by rfl, ?_⟩) ?_ ?_
          rotate_left
          · intro w'
            go_simp
            with_reducible rfl
          rotate_left
          · simp only [Act.put, List.setIfInBounds_toArray, List.set_cons_zero, List.set_cons_succ, i64_w, i32_w]
            rfl
          refine pure_ (i := 10) (N := some 23) (v := ?_) (a' := ?_) #[true, true, true, true, true, true, true, true, true, true, true, false, false] rfl rfl (any_of HT_.out (by kernel_rfl)) (fun _ _ _ h => h) (Or.inl ⟨by rfl, ?_⟩) ?_ ?_
          rotate_left
          · intro w'
            go_simp
            with_reducible rfl
          rotate_left
          · simp only [Act.put, List.setIfInBounds_toArray, List.set_cons_zero, List.set_cons_succ, i64_w, i32_w]
            rfl
          refine pure_ (i := 11) (N := some 6) (v := ?_) (a' := ?_) #[true, true, true, true, true, true, true, true, true, true, true, true, false] rfl rfl (any_of HT_.out (by kernel_rfl)) (fun _ _ _ h => h) (Or.inl ⟨by rfl, ?_⟩) ?_ ?_
          rotate_left
          · intro w'
            go_simp
            with_reducible rfl
          rotate_left
          · simp only [Act.put, List.setIfInBounds_toArray, List.set_cons_zero, List.set_cons_succ, i64_w, i32_w]
            rfl
          refine pure_ (i := 12) (N := some 7) (v := ?_) (a' := ?_) #[true, true, true, true, true, true, true, true, true, true, true, true, true] rfl rfl (any_of HT_.out (by kernel_rfl)) (fun _ _ _ h => h) (Or.inl ⟨by rfl, ?_⟩) ?_ ?_
          rotate_left
          · intro w'
            go_simp
            with_reducible rfl
          rotate_left
          · simp only [Act.put, List.setIfInBounds_toArray, List.set_cons_zero, List.set_cons_succ, i64_w, i32_w]
            rfl
          refine done_ (done_of HT_.out (by kernel_rfl)) ?_
          try go_wp2
          go_ret2
          exact ⟨by first | rfl | (simp [errW_none, errW_some] <;> rfl) | (simp [*, errW_none, errW_some] <;> rfl), by repeat (first | (with_reducible first | exact HB.out | apply below_alloc | apply pw_below_drewN | apply below_drew1) | exact HB.out)⟩
      · rw [if_neg c5] at H
        exact absurd H (by simp)
    · rw [if_neg c4] at H
      exact absurd H (by simp)
  · rw [if_neg c3] at H
    exact absurd H (by simp)

end Go.Proofs.YtmcppajgfhmpaaaGreatDoor.PTo
end

section
namespace Go.Proofs.YtmcppajgfhmpaaaGreatDoor.PTo
open Go.RowKit Go.Proofs.YtmcppajgfhmpaaaGreatDoorW.PrintWords Go.Proofs.YtmcppajgfhmpaaaGreatDoorW.PrintLast Go.Proofs.YtmcppajgfhmpaaaGreatDoorW.PrintMore
attribute [local go_sem] max2_int min2_int max_two min_two max_three min_three max_four min_four   -- for this text's walks alone
set_option linter.unusedVariables false
set_option linter.unusedSimpArgs false

/-! ### excelize_inCoordinates: function 37 -/
def excelize_inCoordinates.l0 : Nat → List Int → List (List Int) → Int → Int → Option (Int)
  | 0, _, _, _, _ => none
  | k + 1, x1, x7, x8, x9 => if x9 < x8 then (if 0 ≤ x9 then (if x9 < (x7.length : Int) then (if 0 < (x1.length : Int) then (if 0 < ((rd_L3 x7 x9).length : Int) then (if (rd x1 0) = (rd (rd_L3 x7 x9) 0) then (if 1 < (x1.length : Int) then (if 1 < ((rd_L3 x7 x9).length : Int) then (if (rd x1 1) = (rd (rd_L3 x7 x9) 1) then (some x9) else (excelize_inCoordinates.l0 k x1 x7 x8 (wrap64 (x9 + 1)))) else (none)) else (none)) else (excelize_inCoordinates.l0 k x1 x7 x8 (wrap64 (x9 + 1)))) else (none)) else (none)) else (none)) else (none)) else (some (-1))
def excelize_inCoordinates.f (k : Nat) (l0 : List (List Int)) (l1 : List Int) : Option (Int) := excelize_inCoordinates.l0 k l1 l0 (l0.length : Int) 0
theorem excelize_inCoordinates.mono_l : ∀ k, (∀ y0 y1 y2 y3, LeO (excelize_inCoordinates.l0 k y0 y1 y2 y3) (excelize_inCoordinates.l0 (k + 1) y0 y1 y2 y3))
  | 0 => fun _ _ _ _ r h => by simp [excelize_inCoordinates.l0] at h
  | k + 1 => by
    have ih0 := excelize_inCoordinates.mono_l k
    · intro y0 y1 y2 y3
      unfold excelize_inCoordinates.l0
      repeat' first
      | (with_reducible exact ih0 _ _ _ _)
      | (with_reducible exact LeO.refl _)
      | (with_reducible exact LeO.none _)
      | (with_reducible refine LeO.ite ?_ ?_)
      | (with_reducible refine LeO.bind ?_ (fun _ => ?_))
      | exact ih0 _ _ _ _
      | exact LeO.none _
      | refine LeO.ite ?_ ?_
      | refine LeO.bind ?_ (fun _ => ?_)
theorem excelize_inCoordinates.mono : ∀ a0 a1 k, LeO (excelize_inCoordinates.f k a0 a1) (excelize_inCoordinates.f (k + 1) a0 a1) := by
  intro a0 a1 k
  have ih0 := excelize_inCoordinates.mono_l k
  unfold excelize_inCoordinates.f
  repeat' first
      | (with_reducible exact ih0 _ _ _ _)
      | (with_reducible exact LeO.refl _)
      | (with_reducible exact LeO.none _)
      | (with_reducible refine LeO.ite ?_ ?_)
      | (with_reducible refine LeO.bind ?_ (fun _ => ?_))
      | exact ih0 _ _ _ _
      | exact LeO.none _
      | refine LeO.ite ?_ ?_
      | refine LeO.bind ?_ (fun _ => ?_)
set_option maxHeartbeats 8000000 in
set_option maxRecDepth 100000 in
theorem excelize_inCoordinates.calls (k : Nat) (A0 : Option Addr) (c0 : Nat) (l0 : List (List Int)) (A1 : Option Addr) (c1 : Nat) (l1 : List Int) (r : Int) (w : World) (hr0 : Kd.C (Kd.slice 3 (Kd.int .i64)) w A0 l0.length l0) (hc0 : l0.length ≤ c0) (hr1 : Kd.C (Kd.int .i64) w A1 l1.length l1) (hc1 : l1.length ≤ c1) (h : excelize_inCoordinates.f k l0 l1 = some r) :
    Calls Tryz.prog 37 #[.slice A0 l0.length c0, .slice A1 l1.length c1] w fun e w' => e = .returned (.int .i64 r) ∧ Drawn0 w w' := by
  have HR0 := Aside0.mk hr0
  have HC0 := Aside0.mk hc0
  clear hr0 hc0
  have HR1 := Aside0.mk hr1
  have HC1 := Aside0.mk hc1
  clear hr1 hc1
  have H : (excelize_inCoordinates.l0 k l1 l0 (l0.length : Int) 0) = some r := h
  clear h
  have H' := Aside0.mk H
  clear H
  go_enter Tryz.func37, Tryz.ntmps37
  go_wp2
  repeat (go_quiet (fail); try go_wp2)
  go_loopg [9] k (fun kq v9 w' => ∃ (x9_1 : Int), v9 = .int .i64 x9_1 ∧ Aside0 (excelize_inCoordinates.l0 kq l1 l0 (l0.length : Int) x9_1 = some r) ∧ Aside0 (kq ≤ k) ∧ Drawn0 w w')
  case atStart => exact ⟨(0), (by first | rfl | (simp; done) | (simp [*]; done)), H', ⟨Nat.le_refl _⟩, by repeat (first | exact Drawn0.refl _ | apply Drawn0.step)⟩
  case round =>
    clear H'
    try clear c1
    try clear p2
    obtain ⟨x9_1, rfl, HA, HK1, ⟨m1, rfl⟩⟩ := hrel
    cases gk with
    | zero => exact absurd HA.out (by simp [excelize_inCoordinates.l0])
    | succ k1 =>
      have H := HA.out
      clear HA
      simp only [excelize_inCoordinates.l0] at H
      by_cases c3 : x9_1 < (l0.length : Int)
      · rw [if_pos c3] at H
        have c3b0 : decide (x9_1 < (l0.length : Int)) = true := decide_eq_true c3
        clear c3
        by_cases c4 : 0 ≤ x9_1
        · rw [if_pos c4] at H
          have c4b0 : decide (0 ≤ x9_1) = true := decide_eq_true c4
          clear c4
          by_cases c5 : x9_1 < (l0.length : Int)
          · rw [if_pos c5] at H
            have c5b0 : decide (x9_1 < (l0.length : Int)) = true := decide_eq_true c5
            clear c5
            by_cases c6 : 0 < (l1.length : Int)
            · rw [if_pos c6] at H
              have c6b0 : decide (0 < (l1.length : Int)) = true := decide_eq_true c6
              have c6b1 : decide (0 < l1.length) = true := decide_eq_true (by omega)
              clear c6
              by_cases c7 : 0 < ((rd_L3 l0 x9_1).length : Int)
              · rw [if_pos c7] at H
                have c7b0 : decide (0 < ((rd_L3 l0 x9_1).length : Int)) = true := decide_eq_true c7
                have c7b1 : decide (0 < (rd_L3 l0 x9_1).length) = true := decide_eq_true (by omega)
                clear c7
                by_cases c8 : (rd l1 0) = (rd (rd_L3 l0 x9_1) 0)
                · rw [if_pos c8] at H
                  have c8b0 : ((rd l1 0) == (rd (rd_L3 l0 x9_1) 0)) = true := beq_iff_eq.mpr c8
                  have c8b1 : ((rd l1 0) != (rd (rd_L3 l0 x9_1) 0)) = false := bne_eq_false_iff_eq.mpr c8
                  clear c8
                  by_cases c9 : 1 < (l1.length : Int)
                  · rw [if_pos c9] at H
                    have c9b0 : decide (1 < (l1.length : Int)) = true := decide_eq_true c9
                    have c9b1 : decide (1 < l1.length) = true := decide_eq_true (by omega)
                    clear c9
                    by_cases c10 : 1 < ((rd_L3 l0 x9_1).length : Int)
                    · rw [if_pos c10] at H
                      have c10b0 : decide (1 < ((rd_L3 l0 x9_1).length : Int)) = true := decide_eq_true c10
                      have c10b1 : decide (1 < (rd_L3 l0 x9_1).length) = true := decide_eq_true (by omega)
                      clear c10
                      by_cases c11 : (rd l1 1) = (rd (rd_L3 l0 x9_1) 1)
                      · rw [if_pos c11] at H
                        have c11b0 : ((rd l1 1) == (rd (rd_L3 l0 x9_1) 1)) = true := beq_iff_eq.mpr c11
                        have c11b1 : ((rd l1 1) != (rd (rd_L3 l0 x9_1) 1)) = false := bne_eq_false_iff_eq.mpr c11
                        clear c11
                        obtain rfl := Option.some.inj H
                        have p235 : 0 ≤ (x9_1 : Int) := of_decide_eq_true (by first | (with_reducible assumption) | assumption)
                        have q235 : x9_1 < (l0.length : Int) := of_decide_eq_true (by first | (with_reducible assumption) | assumption)
                        obtain ⟨ad235, A235_0, c235_0, e235, hx235_0, hl235_0, hi235_0⟩ := at_L3 HR0.out x9_1 p235 q235
                        cases e235
                        have HR235_0 := Aside0.mk hi235_0
                        have HC235_0 := Aside0.mk hl235_0
                        clear hi235_0 hl235_0
                        replace p235 := eq_true p235
                        replace q235 := eq_true q235
                        have p236 : 0 ≤ (0 : Int) := (by omega)
                        have q236 : 0 < (l1.length : Int) := of_decide_eq_true (by first | (with_reducible assumption) | assumption)
                        obtain ⟨ad236, e236, hx236_0⟩ := Kd.at_int HR1.out 0 p236 q236
                        cases e236
                        have qi236 : (0 < l1.length) = True := eq_true (by omega)
                        (try rw [show ((0 : Int)).toNat = 0 from rfl] at hx236_0)
                        (try rw [Addr.add_zero'] at hx236_0)
                        replace p236 := eq_true p236
                        replace q236 := eq_true q236
                        have p237 : 0 ≤ (0 : Int) := (by omega)
                        have q237 : 0 < ((rd_L3 l0 x9_1).length : Int) := of_decide_eq_true (by first | (with_reducible assumption) | assumption)
                        obtain ⟨ad237, e237, hx237_0⟩ := Kd.at_int HR235_0.out 0 p237 q237
                        cases e237
                        have qi237 : (0 < (rd_L3 l0 x9_1).length) = True := eq_true (by omega)
                        (try rw [show ((0 : Int)).toNat = 0 from rfl] at hx237_0)
                        (try rw [Addr.add_zero'] at hx237_0)
                        replace p237 := eq_true p237
                        replace q237 := eq_true q237
                        have p238 : 0 ≤ (1 : Int) := (by omega)
                        have q238 : 1 < (l1.length : Int) := of_decide_eq_true (by first | (with_reducible assumption) | assumption)
                        obtain ⟨ad238, e238, hx238_0⟩ := Kd.at_int HR1.out 1 p238 q238
                        obtain rfl : ad236 = ad238 := (by injection e238)
                        (try simp only [show (1 : Int).toNat = 1 from rfl, Nat.reduceMul, Nat.reduceEqDiff, Go.Addr.add, ↓reduceIte] at hx238_0)
                        have qi238 : (1 < l1.length) = True := eq_true (by omega)
                        (try rw [show ((1 : Int)).toNat = 1 from rfl] at hx238_0)
                        replace p238 := eq_true p238
                        replace q238 := eq_true q238
                        have p239 : 0 ≤ (1 : Int) := (by omega)
                        have q239 : 1 < ((rd_L3 l0 x9_1).length : Int) := of_decide_eq_true (by first | (with_reducible assumption) | assumption)
                        obtain ⟨ad239, e239, hx239_0⟩ := Kd.at_int HR235_0.out 1 p239 q239
                        obtain rfl : ad237 = ad239 := (by injection e239)
                        (try simp only [show (1 : Int).toNat = 1 from rfl, Nat.reduceMul, Nat.reduceEqDiff, Go.Addr.add, ↓reduceIte] at hx239_0)
                        have qi239 : (1 < (rd_L3 l0 x9_1).length) = True := eq_true (by omega)
                        (try rw [show ((1 : Int)).toNat = 1 from rfl] at hx239_0)
                        replace p239 := eq_true p239
                        replace q239 := eq_true q239
                        go_wp2
                        repeat (go_quiet (fail); try go_wp2)
                        go_ret
                        exact ⟨by first | rfl | (simp; done) | (simp [*]; done), by repeat (first | exact Drawn0.refl _ | apply Drawn0.step)⟩
                      · rw [if_neg c11] at H
                        have c11b0 : ((rd l1 1) == (rd (rd_L3 l0 x9_1) 1)) = false := beq_eq_false_iff_ne.mpr c11
                        have c11b1 : ((rd l1 1) != (rd (rd_L3 l0 x9_1) 1)) = true := bne_iff_ne.mpr c11
                        have H' := Aside0.mk H
                        clear H
                        have p235 : 0 ≤ (x9_1 : Int) := of_decide_eq_true (by first | (with_reducible assumption) | assumption)
                        have q235 : x9_1 < (l0.length : Int) := of_decide_eq_true (by first | (with_reducible assumption) | assumption)
                        obtain ⟨ad235, A235_0, c235_0, e235, hx235_0, hl235_0, hi235_0⟩ := at_L3 HR0.out x9_1 p235 q235
                        cases e235
                        have HR235_0 := Aside0.mk hi235_0
                        have HC235_0 := Aside0.mk hl235_0
                        clear hi235_0 hl235_0
                        replace p235 := eq_true p235
                        replace q235 := eq_true q235
                        have p236 : 0 ≤ (0 : Int) := (by omega)
                        have q236 : 0 < (l1.length : Int) := of_decide_eq_true (by first | (with_reducible assumption) | assumption)
                        obtain ⟨ad236, e236, hx236_0⟩ := Kd.at_int HR1.out 0 p236 q236
                        cases e236
                        have qi236 : (0 < l1.length) = True := eq_true (by omega)
                        (try rw [show ((0 : Int)).toNat = 0 from rfl] at hx236_0)
                        (try rw [Addr.add_zero'] at hx236_0)
                        replace p236 := eq_true p236
                        replace q236 := eq_true q236
                        have p237 : 0 ≤ (0 : Int) := (by omega)
                        have q237 : 0 < ((rd_L3 l0 x9_1).length : Int) := of_decide_eq_true (by first | (with_reducible assumption) | assumption)
                        obtain ⟨ad237, e237, hx237_0⟩ := Kd.at_int HR235_0.out 0 p237 q237
                        cases e237
                        have qi237 : (0 < (rd_L3 l0 x9_1).length) = True := eq_true (by omega)
                        (try rw [show ((0 : Int)).toNat = 0 from rfl] at hx237_0)
                        (try rw [Addr.add_zero'] at hx237_0)
                        replace p237 := eq_true p237
                        replace q237 := eq_true q237
                        have p238 : 0 ≤ (1 : Int) := (by omega)
                        have q238 : 1 < (l1.length : Int) := of_decide_eq_true (by first | (with_reducible assumption) | assumption)
                        obtain ⟨ad238, e238, hx238_0⟩ := Kd.at_int HR1.out 1 p238 q238
                        obtain rfl : ad236 = ad238 := (by injection e238)
                        (try simp only [show (1 : Int).toNat = 1 from rfl, Nat.reduceMul, Nat.reduceEqDiff, Go.Addr.add, ↓reduceIte] at hx238_0)
                        have qi238 : (1 < l1.length) = True := eq_true (by omega)
                        (try rw [show ((1 : Int)).toNat = 1 from rfl] at hx238_0)
                        replace p238 := eq_true p238
                        replace q238 := eq_true q238
                        have p239 : 0 ≤ (1 : Int) := (by omega)
                        have q239 : 1 < ((rd_L3 l0 x9_1).length : Int) := of_decide_eq_true (by first | (with_reducible assumption) | assumption)
                        obtain ⟨ad239, e239, hx239_0⟩ := Kd.at_int HR235_0.out 1 p239 q239
                        obtain rfl : ad237 = ad239 := (by injection e239)
                        (try simp only [show (1 : Int).toNat = 1 from rfl, Nat.reduceMul, Nat.reduceEqDiff, Go.Addr.add, ↓reduceIte] at hx239_0)
                        have qi239 : (1 < (rd_L3 l0 x9_1).length) = True := eq_true (by omega)
                        (try rw [show ((1 : Int)).toNat = 1 from rfl] at hx239_0)
                        replace p239 := eq_true p239
                        replace q239 := eq_true q239
                        go_wp2
                        repeat (go_quiet (fail); try go_wp2)
                        go_roundg k1
                        case measure => have := HK1.out; omega
                        case rel => exact ⟨(wrap64 (x9_1 + 1)), (by first | rfl | (simp; done) | (simp [*]; done)), H', ⟨by have := HK1.out; omega⟩, by repeat (first | exact Drawn0.refl _ | apply Drawn0.step)⟩
                    · rw [if_neg c10] at H
                      exact absurd H (by simp)
                  · rw [if_neg c9] at H
                    exact absurd H (by simp)
                · rw [if_neg c8] at H
                  have c8b0 : ((rd l1 0) == (rd (rd_L3 l0 x9_1) 0)) = false := beq_eq_false_iff_ne.mpr c8
                  have c8b1 : ((rd l1 0) != (rd (rd_L3 l0 x9_1) 0)) = true := bne_iff_ne.mpr c8
                  have H' := Aside0.mk H
                  clear H
                  have p235 : 0 ≤ (x9_1 : Int) := of_decide_eq_true (by first | (with_reducible assumption) | assumption)
                  have q235 : x9_1 < (l0.length : Int) := of_decide_eq_true (by first | (with_reducible assumption) | assumption)
                  obtain ⟨ad235, A235_0, c235_0, e235, hx235_0, hl235_0, hi235_0⟩ := at_L3 HR0.out x9_1 p235 q235
                  cases e235
                  have HR235_0 := Aside0.mk hi235_0
                  have HC235_0 := Aside0.mk hl235_0
                  clear hi235_0 hl235_0
                  replace p235 := eq_true p235
                  replace q235 := eq_true q235
                  have p236 : 0 ≤ (0 : Int) := (by omega)
                  have q236 : 0 < (l1.length : Int) := of_decide_eq_true (by first | (with_reducible assumption) | assumption)
                  obtain ⟨ad236, e236, hx236_0⟩ := Kd.at_int HR1.out 0 p236 q236
                  cases e236
                  have qi236 : (0 < l1.length) = True := eq_true (by omega)
                  (try rw [show ((0 : Int)).toNat = 0 from rfl] at hx236_0)
                  (try rw [Addr.add_zero'] at hx236_0)
                  replace p236 := eq_true p236
                  replace q236 := eq_true q236
                  have p237 : 0 ≤ (0 : Int) := (by omega)
                  have q237 : 0 < ((rd_L3 l0 x9_1).length : Int) := of_decide_eq_true (by first | (with_reducible assumption) | assumption)
                  obtain ⟨ad237, e237, hx237_0⟩ := Kd.at_int HR235_0.out 0 p237 q237
                  cases e237
                  have qi237 : (0 < (rd_L3 l0 x9_1).length) = True := eq_true (by omega)
                  (try rw [show ((0 : Int)).toNat = 0 from rfl] at hx237_0)
                  (try rw [Addr.add_zero'] at hx237_0)
                  replace p237 := eq_true p237
                  replace q237 := eq_true q237
                  go_wp2
                  repeat (go_quiet (fail); try go_wp2)
                  go_roundg k1
                  case measure => have := HK1.out; omega
                  case rel => exact ⟨(wrap64 (x9_1 + 1)), (by first | rfl | (simp; done) | (simp [*]; done)), H', ⟨by have := HK1.out; omega⟩, by repeat (first | exact Drawn0.refl _ | apply Drawn0.step)⟩
              · rw [if_neg c7] at H
                exact absurd H (by simp)
            · rw [if_neg c6] at H
              exact absurd H (by simp)
          · rw [if_neg c5] at H
            exact absurd H (by simp)
        · rw [if_neg c4] at H
          exact absurd H (by simp)
      · rw [if_neg c3] at H
        have c3b0 : decide (x9_1 < (l0.length : Int)) = false := decide_eq_false c3
        clear c3
        obtain rfl := Option.some.inj H
        go_wp2
        repeat (go_quiet (fail); try go_wp2)
        go_ret
        exact ⟨by first | rfl | (simp; done) | (simp [*]; done), by repeat (first | exact Drawn0.refl _ | apply Drawn0.step)⟩

end Go.Proofs.YtmcppajgfhmpaaaGreatDoor.PTo
end

section
namespace Go.Proofs.YtmcppajgfhmpaaaGreatDoor.PTo
open Go.RowKit Go.Proofs.YtmcppajgfhmpaaaGreatDoorW.PrintWords Go.Proofs.YtmcppajgfhmpaaaGreatDoorW.PrintLast Go.Proofs.YtmcppajgfhmpaaaGreatDoorW.PrintMore
attribute [local go_sem] max2_int min2_int max_two min_two max_three min_three max_four min_four   -- for this text's walks alone
set_option linter.unusedVariables false
set_option linter.unusedSimpArgs false

/-! ### excelize_sortCoordinates: function 35 -/
def excelize_sortCoordinates.f (l0 : List Int) : Option (Option Int) := if (l0.length : Int) = 4 then (if 2 < (l0.length : Int) then (if 0 < (l0.length : Int) then (if (rd l0 2) < (rd l0 0) then (none) else (if 3 < (l0.length : Int) then (if 1 < (l0.length : Int) then (if (rd l0 3) < (rd l0 1) then (none) else (some none)) else (none)) else (none))) else (none)) else (none)) else (none)
set_option maxHeartbeats 8000000 in
set_option maxRecDepth 100000 in
theorem excelize_sortCoordinates.calls (A0 : Option Addr) (c0 : Nat) (l0 : List Int) (r : Option Int) (w : World) (hr0 : Kd.C (Kd.int .i64) w A0 l0.length l0) (hc0 : l0.length ≤ c0) (h : excelize_sortCoordinates.f l0 = some r) :
    Calls Tryz.prog 35 #[.slice A0 l0.length c0] w fun e w' => e = .returned (errW r) ∧ Below w.heap.size w w' := by
  have HR0 := Aside0.mk hr0
  have HC0 := Aside0.mk hc0
  clear hr0 hc0
  have HB := Aside0.mk (Below.refl w.heap.size w)
  have H : (if (l0.length : Int) = 4 then (if 2 < (l0.length : Int) then (if 0 < (l0.length : Int) then (if (rd l0 2) < (rd l0 0) then (none) else (if 3 < (l0.length : Int) then (if 1 < (l0.length : Int) then (if (rd l0 3) < (rd l0 1) then (none) else (some none)) else (none)) else (none))) else (none)) else (none)) else (none)) = some r := h
  clear h
  by_cases c2 : (l0.length : Int) = 4
  · rw [if_pos c2] at H
    have c2b0 : ((l0.length : Int) == 4) = true := beq_iff_eq.mpr c2
    have c2b1 : ((l0.length : Int) != 4) = false := bne_eq_false_iff_eq.mpr c2
    clear c2
    by_cases c3 : 2 < (l0.length : Int)
    · rw [if_pos c3] at H
      have c3b0 : decide (2 < (l0.length : Int)) = true := decide_eq_true c3
      have c3b1 : decide (2 < l0.length) = true := decide_eq_true (by omega)
      clear c3
      by_cases c4 : 0 < (l0.length : Int)
      · rw [if_pos c4] at H
        have c4b0 : decide (0 < (l0.length : Int)) = true := decide_eq_true c4
        have c4b1 : decide (0 < l0.length) = true := decide_eq_true (by omega)
        clear c4
        by_cases c5 : (rd l0 2) < (rd l0 0)
        · rw [if_pos c5] at H
          exact absurd H (by simp)
        · rw [if_neg c5] at H
          have c5b0 : decide ((rd l0 2) < (rd l0 0)) = false := decide_eq_false c5
          clear c5
          by_cases c6 : 3 < (l0.length : Int)
          · rw [if_pos c6] at H
            have c6b0 : decide (3 < (l0.length : Int)) = true := decide_eq_true c6
            have c6b1 : decide (3 < l0.length) = true := decide_eq_true (by omega)
            clear c6
            by_cases c7 : 1 < (l0.length : Int)
            · rw [if_pos c7] at H
              have c7b0 : decide (1 < (l0.length : Int)) = true := decide_eq_true c7
              have c7b1 : decide (1 < l0.length) = true := decide_eq_true (by omega)
              clear c7
              by_cases c8 : (rd l0 3) < (rd l0 1)
              · rw [if_pos c8] at H
                exact absurd H (by simp)
              · rw [if_neg c8] at H
                have c8b0 : decide ((rd l0 3) < (rd l0 1)) = false := decide_eq_false c8
                clear c8
                obtain rfl := Option.some.inj H
                go_enter Tryz.func35, Tryz.ntmps35
                try go_wp2
                have n0_ := Aside0.mk (below_drew1 HB.out)
                clear HB
                have HB := n0_
                clear n0_
                have p240 : 0 ≤ (2 : Int) := (by omega)
                have q240 : 2 < (l0.length : Int) := of_decide_eq_true (by first | (with_reducible assumption) | assumption)
                obtain ⟨ad240, e240, hx240_0⟩ := Kd.at_int HR0.out 2 p240 q240
                have hw240_0 := hx240_0
                (try rw [show ((2 : Int)).toNat = 2 from rfl] at hw240_0)
                (try rw [show 2 * 1 = 2 from rfl] at hw240_0)
                (try simp only [Nat.reduceMul, Nat.reduceEqDiff, Go.Addr.add, ↓reduceIte] at hw240_0)
                cases e240
                (try simp only [show (2 : Int).toNat = 2 from rfl, Nat.reduceMul, Nat.reduceEqDiff, Go.Addr.add, ↓reduceIte] at hx240_0)
                have qi240 : (2 < l0.length) = True := eq_true (by omega)
                (try rw [show ((2 : Int)).toNat = 2 from rfl] at hx240_0)
                replace hx240_0 := (HB.out.cell (World.block_lt_of_cell? w _ hx240_0)).trans hx240_0
                replace p240 := eq_true p240
                replace q240 := eq_true q240
                have p241 : 0 ≤ (0 : Int) := (by omega)
                have q241 : 0 < (l0.length : Int) := of_decide_eq_true (by first | (with_reducible assumption) | assumption)
                obtain ⟨ad241, e241, hx241_0⟩ := Kd.at_int HR0.out 0 p241 q241
                have hw241_0 := hx241_0
                (try rw [show ((0 : Int)).toNat = 0 from rfl] at hw241_0)
                (try rw [show 0 * 1 = 0 from rfl] at hw241_0)
                (try rw [Addr.add_zero'] at hw241_0)
                obtain rfl : ad240 = ad241 := (by injection e241)
                have qi241 : (0 < l0.length) = True := eq_true (by omega)
                (try rw [show ((0 : Int)).toNat = 0 from rfl] at hx241_0)
                (try rw [Addr.add_zero'] at hx241_0)
                replace hx241_0 := (HB.out.cell (World.block_lt_of_cell? w _ hx241_0)).trans hx241_0
                replace p241 := eq_true p241
                replace q241 := eq_true q241
                refine start_ (n := 7) (S := fun w' => w'.cell? ⟨ad240.block, ad240.off + 2, none⟩ = some (.int .i64 (rd l0 2)) ∧ w'.cell? ad240 = some (.int .i64 (rd l0 0))) (ds := []) #[false, false, false, false, false, false, false] (by kernel_rfl) rfl rfl ⟨((HB.out.cell (World.block_lt_of_cell? w _ hw240_0)).trans hw240_0), ((HB.out.cell (World.block_lt_of_cell? w _ hw241_0)).trans hw241_0)⟩ (fun hHeld => ?_)
                generalize w.drew = w9 at HB hx240_0 hx241_0 hHeld ⊢
                refine pure_ (i := 0) (N := some 7) (v := ?_) (a' := ?_) #[true, false, false, false, false, false, false] rfl rfl (by kernel_rfl) (fun _ _ _ h => h) (Or.inl ⟨by rfl, ?_⟩) ?_ ?_
                rotate_left
                · intro w'
                  go_simp
                  with_reducible rfl
                rotate_left
                · simp only [Act.put, List.setIfInBounds_toArray, List.set_cons_zero, List.set_cons_succ, i64_w, i32_w]
                  rfl
                refine pure_ (i := 1) (N := some 8) (v := ?_) (a' := ?_) #[true, true, false, false, false, false, false] rfl rfl (by kernel_rfl) (fun _ _ _ h => h) (Or.inl ⟨by rfl, ?_⟩) ?_ ?_
                rotate_left
                · intro w'
                  go_simp
                  with_reducible rfl
                rotate_left
                · simp only [Act.put, List.setIfInBounds_toArray, List.set_cons_zero, List.set_cons_succ, i64_w, i32_w]
                  rfl
                refine pure_ (i := 3) (N := some 10) (v := ?_) (a' := ?_) #[true, true, false, true, false, false, false] rfl rfl (by kernel_rfl) (fun _ _ _ h => h) (Or.inl ⟨by rfl, ?_⟩) ?_ ?_
                rotate_left
                · intro w'
                  go_simp
                  with_reducible rfl
                rotate_left
                · simp only [Act.put, List.setIfInBounds_toArray, List.set_cons_zero, List.set_cons_succ, i64_w, i32_w]
                  rfl
                refine pure_ (i := 4) (N := some 11) (v := ?_) (a' := ?_) #[true, true, false, true, true, false, false] rfl rfl (by kernel_rfl) (fun _ _ _ h => h) (Or.inl ⟨by rfl, ?_⟩) ?_ ?_
                rotate_left
                · intro w'
                  go_simp
                  with_reducible rfl
                rotate_left
                · simp only [Act.put, List.setIfInBounds_toArray, List.set_cons_zero, List.set_cons_succ, i64_w, i32_w]
                  rfl
                refine take_ (i := 2) (N := some 9) (v := ?_) (a' := ?_) #[true, true, true, true, true, false, false] rfl rfl (by kernel_rfl) (fun _ _ _ h => h) (Or.inl ⟨by rfl, ?_⟩) hHeld ?_ ?_
                rotate_left
                · rintro w' ⟨s0, s1⟩
                  go_simp
                  with_reducible rfl
                rotate_left
                · simp only [Act.put, List.setIfInBounds_toArray, List.set_cons_zero, List.set_cons_succ, i64_w, i32_w]
                  rfl
                refine take_ (i := 5) (N := some 12) (v := ?_) (a' := ?_) #[true, true, true, true, true, true, false] rfl rfl (by kernel_rfl) (fun _ _ _ h => h) (Or.inl ⟨by rfl, ?_⟩) hHeld ?_ ?_
                rotate_left
                · rintro w' ⟨s0, s1⟩
                  go_simp
                  with_reducible rfl
                rotate_left
                · simp only [Act.put, List.setIfInBounds_toArray, List.set_cons_zero, List.set_cons_succ, i64_w, i32_w]
                  rfl
                refine pure_ (i := 6) (N := some 13) (v := ?_) (a' := ?_) #[true, true, true, true, true, true, true] rfl rfl (by kernel_rfl) (fun _ _ _ h => h) (Or.inl ⟨by rfl, ?_⟩) ?_ ?_
                rotate_left
                · intro w'
                  go_simp
                  with_reducible rfl
                rotate_left
                · simp only [Act.put, List.setIfInBounds_toArray, List.set_cons_zero, List.set_cons_succ, i64_w, i32_w]
                  rfl
                refine done_ (by kernel_rfl) ?_
                try go_wp2
                have n0_ := Aside0.mk (below_drew1 HB.out)
                clear HB
                have HB := n0_
                clear n0_
                have p242 : 0 ≤ (3 : Int) := (by omega)
                have q242 : 3 < (l0.length : Int) := of_decide_eq_true (by first | (with_reducible assumption) | assumption)
                obtain ⟨ad242, e242, hx242_0⟩ := Kd.at_int HR0.out 3 p242 q242
                have hw242_0 := hx242_0
                (try rw [show ((3 : Int)).toNat = 3 from rfl] at hw242_0)
                (try rw [show 3 * 1 = 3 from rfl] at hw242_0)
                (try simp only [Nat.reduceMul, Nat.reduceEqDiff, Go.Addr.add, ↓reduceIte] at hw242_0)
                obtain rfl : ad240 = ad242 := (by injection e242)
                (try simp only [show (3 : Int).toNat = 3 from rfl, Nat.reduceMul, Nat.reduceEqDiff, Go.Addr.add, ↓reduceIte] at hx242_0)
                have qi242 : (3 < l0.length) = True := eq_true (by omega)
                (try rw [show ((3 : Int)).toNat = 3 from rfl] at hx242_0)
                replace hx242_0 := (HB.out.cell (World.block_lt_of_cell? w _ hx242_0)).trans hx242_0
                replace p242 := eq_true p242
                replace q242 := eq_true q242
                have p243 : 0 ≤ (1 : Int) := (by omega)
                have q243 : 1 < (l0.length : Int) := of_decide_eq_true (by first | (with_reducible assumption) | assumption)
                obtain ⟨ad243, e243, hx243_0⟩ := Kd.at_int HR0.out 1 p243 q243
                have hw243_0 := hx243_0
                (try rw [show ((1 : Int)).toNat = 1 from rfl] at hw243_0)
                (try rw [show 1 * 1 = 1 from rfl] at hw243_0)
                (try simp only [Nat.reduceMul, Nat.reduceEqDiff, Go.Addr.add, ↓reduceIte] at hw243_0)
                obtain rfl : ad240 = ad243 := (by injection e243)
                (try simp only [show (1 : Int).toNat = 1 from rfl, Nat.reduceMul, Nat.reduceEqDiff, Go.Addr.add, ↓reduceIte] at hx243_0)
                have qi243 : (1 < l0.length) = True := eq_true (by omega)
                (try rw [show ((1 : Int)).toNat = 1 from rfl] at hx243_0)
                replace hx243_0 := (HB.out.cell (World.block_lt_of_cell? w _ hx243_0)).trans hx243_0
                replace p243 := eq_true p243
                replace q243 := eq_true q243
                refine start_ (n := 7) (S := fun w' => w'.cell? ⟨ad240.block, ad240.off + 3, none⟩ = some (.int .i64 (rd l0 3)) ∧ w'.cell? ⟨ad240.block, ad240.off + 1, none⟩ = some (.int .i64 (rd l0 1))) (ds := []) #[false, false, false, false, false, false, false] (by kernel_rfl) rfl rfl ⟨((HB.out.cell (World.block_lt_of_cell? w _ hw242_0)).trans hw242_0), ((HB.out.cell (World.block_lt_of_cell? w _ hw243_0)).trans hw243_0)⟩ (fun hHeld => ?_)
                generalize w9.drew = w10 at HB hx242_0 hx243_0 hHeld ⊢
                refine pure_ (i := 0) (N := some 24) (v := ?_) (a' := ?_) #[true, false, false, false, false, false, false] rfl rfl (by kernel_rfl) (fun _ _ _ h => h) (Or.inl ⟨by rfl, ?_⟩) ?_ ?_
                rotate_left
                · intro w'
                  go_simp
                  with_reducible rfl
                rotate_left
                · simp only [Act.put, List.setIfInBounds_toArray, List.set_cons_zero, List.set_cons_succ, i64_w, i32_w]
                  rfl
                refine pure_ (i := 1) (N := some 25) (v := ?_) (a' := ?_) #[true, true, false, false, false, false, false] rfl rfl (by kernel_rfl) (fun _ _ _ h => h) (Or.inl ⟨by rfl, ?_⟩) ?_ ?_
                rotate_left
                · intro w'
                  go_simp
                  with_reducible rfl
                rotate_left
                · simp only [Act.put, List.setIfInBounds_toArray, List.set_cons_zero, List.set_cons_succ, i64_w, i32_w]
                  rfl
                refine pure_ (i := 3) (N := some 27) (v := ?_) (a' := ?_) #[true, true, false, true, false, false, false] rfl rfl (by kernel_rfl) (fun _ _ _ h => h) (Or.inl ⟨by rfl, ?_⟩) ?_ ?_
                rotate_left
                · intro w'
                  go_simp
                  with_reducible rfl
                rotate_left
                · simp only [Act.put, List.setIfInBounds_toArray, List.set_cons_zero, List.set_cons_succ, i64_w, i32_w]
                  rfl
                refine pure_ (i := 4) (N := some 28) (v := ?_) (a' := ?_) #[true, true, false, true, true, false, false] rfl rfl (by kernel_rfl) (fun _ _ _ h => h) (Or.inl ⟨by rfl, ?_⟩) ?_ ?_
                rotate_left
                · intro w'
                  go_simp
                  with_reducible rfl
                rotate_left
                · simp only [Act.put, List.setIfInBounds_toArray, List.set_cons_zero, List.set_cons_succ, i64_w, i32_w]
                  rfl
                refine take_ (i := 2) (N := some 26) (v := ?_) (a' := ?_) #[true, true, true, true, true, false, false] rfl rfl (by kernel_rfl) (fun _ _ _ h => h) (Or.inl ⟨by rfl, ?_⟩) hHeld ?_ ?_
                rotate_left
                · rintro w' ⟨s0, s1⟩
                  go_simp
                  with_reducible rfl
                rotate_left
                · simp only [Act.put, List.setIfInBounds_toArray, List.set_cons_zero, List.set_cons_succ, i64_w, i32_w]
                  rfl
                refine take_ (i := 5) (N := some 29) (v := ?_) (a' := ?_) #[true, true, true, true, true, true, false] rfl rfl (by kernel_rfl) (fun _ _ _ h => h) (Or.inl ⟨by rfl, ?_⟩) hHeld ?_ ?_
                rotate_left
                · rintro w' ⟨s0, s1⟩
                  go_simp
                  with_reducible rfl
                rotate_left
                · simp only [Act.put, List.setIfInBounds_toArray, List.set_cons_zero, List.set_cons_succ, i64_w, i32_w]
                  rfl
                refine pure_ (i := 6) (N := some 30) (v := ?_) (a' := ?_) #[true, true, true, true, true, true, true] rfl rfl (by kernel_rfl) (fun _ _ _ h => h) (Or.inl ⟨by rfl, ?_⟩) ?_ ?_
                rotate_left
                · intro w'
                  go_simp
                  with_reducible rfl
                rotate_left
                · simp only [Act.put, List.setIfInBounds_toArray, List.set_cons_zero, List.set_cons_succ, i64_w, i32_w]
                  rfl
                refine done_ (by kernel_rfl) ?_
                try go_wp2
                go_ret
                exact ⟨by first | rfl | (simp [errW_none, errW_some] <;> rfl) | (simp [*, errW_none, errW_some] <;> rfl), by repeat (first | (with_reducible first | exact HB.out | apply below_alloc | apply pw_below_drewN | apply below_drew1) | exact HB.out)⟩
            · rw [if_neg c7] at H
              exact absurd H (by simp)
          · rw [if_neg c6] at H
            exact absurd H (by simp)
      · rw [if_neg c4] at H
        exact absurd H (by simp)
    · rw [if_neg c3] at H
      exact absurd H (by simp)
  · rw [if_neg c2] at H
    exact absurd H (by simp)

end Go.Proofs.YtmcppajgfhmpaaaGreatDoor.PTo
end
