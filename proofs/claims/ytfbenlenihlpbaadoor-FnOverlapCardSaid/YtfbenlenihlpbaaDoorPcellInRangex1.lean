-- PRINTED BY print.sh 35421559b90ae4d0a3588c463048766b98c2df88dd9212a6774a882060cdf62d: not written by this session
import Derived.Test.YtfbenlenihlpbaaDoorPcellInRangex0
namespace Go.Proofs.YtfbenlenihlpbaaDoor.PcellInRange
open Go.RowKit Go.Proofs.YtfbenlenihlpbaaDoorW.PrintWords Go.Proofs.YtfbenlenihlpbaaDoorW.PrintLast Go.Proofs.YtfbenlenihlpbaaDoorW.PrintMore
attribute [local go_sem] max2_int min2_int max_two min_two max_three min_three max_four min_four   -- for this text's walks alone
set_option linter.unusedVariables false
set_option linter.unusedSimpArgs false

/-! ### excelize_cellInRange: function 69 -/
def excelize_cellInRange.f (l0 : List Int) (l1 : List Int) : Option (Bool) := if 0 < (l0.length : Int) then (if 0 < (l1.length : Int) then (if (rd l0 0) ≥ (rd l1 0) then (if 2 < (l1.length : Int) then (if (rd l0 0) ≤ (rd l1 2) then (if 1 < (l0.length : Int) then (if 1 < (l1.length : Int) then (if (rd l0 1) ≥ (rd l1 1) then (if 3 < (l1.length : Int) then (some (decide ((rd l0 1) ≤ (rd l1 3)))) else (none)) else (some false)) else (none)) else (none)) else (some false)) else (none)) else (some false)) else (none)) else (none)
set_option maxHeartbeats 8000000 in
set_option maxRecDepth 100000 in
theorem excelize_cellInRange.calls (A0 : Option Addr) (c0 : Nat) (l0 : List Int) (A1 : Option Addr) (c1 : Nat) (l1 : List Int) (r : Bool) (w : World) (hr0 : Kd.C (Kd.int .i64) w A0 l0.length l0) (hc0 : l0.length ≤ c0) (hr1 : Kd.C (Kd.int .i64) w A1 l1.length l1) (hc1 : l1.length ≤ c1) (h : excelize_cellInRange.f l0 l1 = some r) :
    Calls Tryd.prog 69 #[.slice A0 l0.length c0, .slice A1 l1.length c1] w fun e w' => e = .returned (.bool r) ∧ Drawn0 w w' := by
  have HR0 := Aside0.mk hr0
  have HC0 := Aside0.mk hc0
  clear hr0 hc0
  have HR1 := Aside0.mk hr1
  have HC1 := Aside0.mk hc1
  clear hr1 hc1
  have H : (if 0 < (l0.length : Int) then (if 0 < (l1.length : Int) then (if (rd l0 0) ≥ (rd l1 0) then (if 2 < (l1.length : Int) then (if (rd l0 0) ≤ (rd l1 2) then (if 1 < (l0.length : Int) then (if 1 < (l1.length : Int) then (if (rd l0 1) ≥ (rd l1 1) then (if 3 < (l1.length : Int) then (some (decide ((rd l0 1) ≤ (rd l1 3)))) else (none)) else (some false)) else (none)) else (none)) else (some false)) else (none)) else (some false)) else (none)) else (none)) = some r := h
  clear h
  by_cases c3 : 0 < (l0.length : Int)
  · rw [if_pos c3] at H
    have c3b0 : decide (0 < (l0.length : Int)) = true := decide_eq_true c3
    have c3b1 : decide (0 < l0.length) = true := decide_eq_true (by omega)
    clear c3
    by_cases c4 : 0 < (l1.length : Int)
    · rw [if_pos c4] at H
      have c4b0 : decide (0 < (l1.length : Int)) = true := decide_eq_true c4
      have c4b1 : decide (0 < l1.length) = true := decide_eq_true (by omega)
      clear c4
      by_cases c5 : (rd l0 0) ≥ (rd l1 0)
      · rw [if_pos c5] at H
        have c5b0 : decide ((rd l1 0) ≤ (rd l0 0)) = true := decide_eq_true c5
        clear c5
        by_cases c6 : 2 < (l1.length : Int)
        · rw [if_pos c6] at H
          have c6b0 : decide (2 < (l1.length : Int)) = true := decide_eq_true c6
          have c6b1 : decide (2 < l1.length) = true := decide_eq_true (by omega)
          clear c6
          by_cases c7 : (rd l0 0) ≤ (rd l1 2)
          · rw [if_pos c7] at H
            have c7b0 : decide ((rd l0 0) ≤ (rd l1 2)) = true := decide_eq_true c7
            clear c7
            by_cases c8 : 1 < (l0.length : Int)
            · rw [if_pos c8] at H
              have c8b0 : decide (1 < (l0.length : Int)) = true := decide_eq_true c8
              have c8b1 : decide (1 < l0.length) = true := decide_eq_true (by omega)
              clear c8
              by_cases c9 : 1 < (l1.length : Int)
              · rw [if_pos c9] at H
                have c9b0 : decide (1 < (l1.length : Int)) = true := decide_eq_true c9
                have c9b1 : decide (1 < l1.length) = true := decide_eq_true (by omega)
                clear c9
                by_cases c10 : (rd l0 1) ≥ (rd l1 1)
                · rw [if_pos c10] at H
                  have c10b0 : decide ((rd l1 1) ≤ (rd l0 1)) = true := decide_eq_true c10
                  clear c10
                  by_cases c11 : 3 < (l1.length : Int)
                  · rw [if_pos c11] at H
                    have c11b0 : decide (3 < (l1.length : Int)) = true := decide_eq_true c11
                    have c11b1 : decide (3 < l1.length) = true := decide_eq_true (by omega)
                    clear c11
                    obtain rfl := Option.some.inj H
                    have p101 : 0 ≤ (0 : Int) := (by omega)
                    have q101 : 0 < (l0.length : Int) := of_decide_eq_true (by first | (with_reducible assumption) | assumption)
                    obtain ⟨ad101, e101, hx101_0⟩ := Kd.at_int HR0.out 0 p101 q101
                    cases e101
                    have qi101 : (0 < l0.length) = True := eq_true (by omega)
                    (try rw [show ((0 : Int)).toNat = 0 from rfl] at hx101_0)
                    (try rw [Addr.add_zero'] at hx101_0)
                    replace p101 := eq_true p101
                    replace q101 := eq_true q101
                    have p102 : 0 ≤ (0 : Int) := (by omega)
                    have q102 : 0 < (l1.length : Int) := of_decide_eq_true (by first | (with_reducible assumption) | assumption)
                    obtain ⟨ad102, e102, hx102_0⟩ := Kd.at_int HR1.out 0 p102 q102
                    cases e102
                    have qi102 : (0 < l1.length) = True := eq_true (by omega)
                    (try rw [show ((0 : Int)).toNat = 0 from rfl] at hx102_0)
                    (try rw [Addr.add_zero'] at hx102_0)
                    replace p102 := eq_true p102
                    replace q102 := eq_true q102
                    have p103 : 0 ≤ (0 : Int) := (by omega)
                    have q103 : 0 < (l0.length : Int) := of_decide_eq_true (by first | (with_reducible assumption) | assumption)
                    obtain ⟨ad103, e103, hx103_0⟩ := Kd.at_int HR0.out 0 p103 q103
                    obtain rfl : ad101 = ad103 := (by injection e103)
                    have qi103 : (0 < l0.length) = True := eq_true (by omega)
                    (try rw [show ((0 : Int)).toNat = 0 from rfl] at hx103_0)
                    (try rw [Addr.add_zero'] at hx103_0)
                    replace p103 := eq_true p103
                    replace q103 := eq_true q103
                    have p104 : 0 ≤ (2 : Int) := (by omega)
                    have q104 : 2 < (l1.length : Int) := of_decide_eq_true (by first | (with_reducible assumption) | assumption)
                    obtain ⟨ad104, e104, hx104_0⟩ := Kd.at_int HR1.out 2 p104 q104
                    obtain rfl : ad102 = ad104 := (by injection e104)
                    (try simp only [show (2 : Int).toNat = 2 from rfl, Nat.reduceMul, Nat.reduceEqDiff, Go.Addr.add, ↓reduceIte] at hx104_0)
                    have qi104 : (2 < l1.length) = True := eq_true (by omega)
                    (try rw [show ((2 : Int)).toNat = 2 from rfl] at hx104_0)
                    replace p104 := eq_true p104
                    replace q104 := eq_true q104
                    have p105 : 0 ≤ (1 : Int) := (by omega)
                    have q105 : 1 < (l0.length : Int) := of_decide_eq_true (by first | (with_reducible assumption) | assumption)
                    obtain ⟨ad105, e105, hx105_0⟩ := Kd.at_int HR0.out 1 p105 q105
                    obtain rfl : ad101 = ad105 := (by injection e105)
                    (try simp only [show (1 : Int).toNat = 1 from rfl, Nat.reduceMul, Nat.reduceEqDiff, Go.Addr.add, ↓reduceIte] at hx105_0)
                    have qi105 : (1 < l0.length) = True := eq_true (by omega)
                    (try rw [show ((1 : Int)).toNat = 1 from rfl] at hx105_0)
                    replace p105 := eq_true p105
                    replace q105 := eq_true q105
                    have p106 : 0 ≤ (1 : Int) := (by omega)
                    have q106 : 1 < (l1.length : Int) := of_decide_eq_true (by first | (with_reducible assumption) | assumption)
                    obtain ⟨ad106, e106, hx106_0⟩ := Kd.at_int HR1.out 1 p106 q106
                    obtain rfl : ad102 = ad106 := (by injection e106)
                    (try simp only [show (1 : Int).toNat = 1 from rfl, Nat.reduceMul, Nat.reduceEqDiff, Go.Addr.add, ↓reduceIte] at hx106_0)
                    have qi106 : (1 < l1.length) = True := eq_true (by omega)
                    (try rw [show ((1 : Int)).toNat = 1 from rfl] at hx106_0)
                    replace p106 := eq_true p106
                    replace q106 := eq_true q106
                    have p107 : 0 ≤ (1 : Int) := (by omega)
                    have q107 : 1 < (l0.length : Int) := of_decide_eq_true (by first | (with_reducible assumption) | assumption)
                    obtain ⟨ad107, e107, hx107_0⟩ := Kd.at_int HR0.out 1 p107 q107
                    obtain rfl : ad101 = ad107 := (by injection e107)
                    (try simp only [show (1 : Int).toNat = 1 from rfl, Nat.reduceMul, Nat.reduceEqDiff, Go.Addr.add, ↓reduceIte] at hx107_0)
                    have qi107 : (1 < l0.length) = True := eq_true (by omega)
                    (try rw [show ((1 : Int)).toNat = 1 from rfl] at hx107_0)
                    replace p107 := eq_true p107
                    replace q107 := eq_true q107
                    have p108 : 0 ≤ (3 : Int) := (by omega)
                    have q108 : 3 < (l1.length : Int) := of_decide_eq_true (by first | (with_reducible assumption) | assumption)
                    obtain ⟨ad108, e108, hx108_0⟩ := Kd.at_int HR1.out 3 p108 q108
                    obtain rfl : ad102 = ad108 := (by injection e108)
                    (try simp only [show (3 : Int).toNat = 3 from rfl, Nat.reduceMul, Nat.reduceEqDiff, Go.Addr.add, ↓reduceIte] at hx108_0)
                    have qi108 : (3 < l1.length) = True := eq_true (by omega)
                    (try rw [show ((3 : Int)).toNat = 3 from rfl] at hx108_0)
                    replace p108 := eq_true p108
                    replace q108 := eq_true q108
                    go_enter Tryd.func69, Tryd.ntmps69
                    go_wp2
                    repeat (go_quiet (fail); try go_wp2)
                    go_ret
                    exact ⟨by first | rfl | (simp; done) | (simp [*]; done), by repeat (first | exact Drawn0.refl _ | apply Drawn0.step)⟩
                  · rw [if_neg c11] at H
                    exact absurd H (by simp)
                · rw [if_neg c10] at H
                  have c10b0 : decide ((rd l1 1) ≤ (rd l0 1)) = false := decide_eq_false c10
                  clear c10
                  obtain rfl := Option.some.inj H
                  have p101 : 0 ≤ (0 : Int) := (by omega)
                  have q101 : 0 < (l0.length : Int) := of_decide_eq_true (by first | (with_reducible assumption) | assumption)
                  obtain ⟨ad101, e101, hx101_0⟩ := Kd.at_int HR0.out 0 p101 q101
                  cases e101
                  have qi101 : (0 < l0.length) = True := eq_true (by omega)
                  (try rw [show ((0 : Int)).toNat = 0 from rfl] at hx101_0)
                  (try rw [Addr.add_zero'] at hx101_0)
                  replace p101 := eq_true p101
                  replace q101 := eq_true q101
                  have p102 : 0 ≤ (0 : Int) := (by omega)
                  have q102 : 0 < (l1.length : Int) := of_decide_eq_true (by first | (with_reducible assumption) | assumption)
                  obtain ⟨ad102, e102, hx102_0⟩ := Kd.at_int HR1.out 0 p102 q102
                  cases e102
                  have qi102 : (0 < l1.length) = True := eq_true (by omega)
                  (try rw [show ((0 : Int)).toNat = 0 from rfl] at hx102_0)
                  (try rw [Addr.add_zero'] at hx102_0)
                  replace p102 := eq_true p102
                  replace q102 := eq_true q102
                  have p103 : 0 ≤ (0 : Int) := (by omega)
                  have q103 : 0 < (l0.length : Int) := of_decide_eq_true (by first | (with_reducible assumption) | assumption)
                  obtain ⟨ad103, e103, hx103_0⟩ := Kd.at_int HR0.out 0 p103 q103
                  obtain rfl : ad101 = ad103 := (by injection e103)
                  have qi103 : (0 < l0.length) = True := eq_true (by omega)
                  (try rw [show ((0 : Int)).toNat = 0 from rfl] at hx103_0)
                  (try rw [Addr.add_zero'] at hx103_0)
                  replace p103 := eq_true p103
                  replace q103 := eq_true q103
                  have p104 : 0 ≤ (2 : Int) := (by omega)
                  have q104 : 2 < (l1.length : Int) := of_decide_eq_true (by first | (with_reducible assumption) | assumption)
                  obtain ⟨ad104, e104, hx104_0⟩ := Kd.at_int HR1.out 2 p104 q104
                  obtain rfl : ad102 = ad104 := (by injection e104)
                  (try simp only [show (2 : Int).toNat = 2 from rfl, Nat.reduceMul, Nat.reduceEqDiff, Go.Addr.add, ↓reduceIte] at hx104_0)
                  have qi104 : (2 < l1.length) = True := eq_true (by omega)
                  (try rw [show ((2 : Int)).toNat = 2 from rfl] at hx104_0)
                  replace p104 := eq_true p104
                  replace q104 := eq_true q104
                  have p105 : 0 ≤ (1 : Int) := (by omega)
                  have q105 : 1 < (l0.length : Int) := of_decide_eq_true (by first | (with_reducible assumption) | assumption)
                  obtain ⟨ad105, e105, hx105_0⟩ := Kd.at_int HR0.out 1 p105 q105
                  obtain rfl : ad101 = ad105 := (by injection e105)
                  (try simp only [show (1 : Int).toNat = 1 from rfl, Nat.reduceMul, Nat.reduceEqDiff, Go.Addr.add, ↓reduceIte] at hx105_0)
                  have qi105 : (1 < l0.length) = True := eq_true (by omega)
                  (try rw [show ((1 : Int)).toNat = 1 from rfl] at hx105_0)
                  replace p105 := eq_true p105
                  replace q105 := eq_true q105
                  have p106 : 0 ≤ (1 : Int) := (by omega)
                  have q106 : 1 < (l1.length : Int) := of_decide_eq_true (by first | (with_reducible assumption) | assumption)
                  obtain ⟨ad106, e106, hx106_0⟩ := Kd.at_int HR1.out 1 p106 q106
                  obtain rfl : ad102 = ad106 := (by injection e106)
                  (try simp only [show (1 : Int).toNat = 1 from rfl, Nat.reduceMul, Nat.reduceEqDiff, Go.Addr.add, ↓reduceIte] at hx106_0)
                  have qi106 : (1 < l1.length) = True := eq_true (by omega)
                  (try rw [show ((1 : Int)).toNat = 1 from rfl] at hx106_0)
                  replace p106 := eq_true p106
                  replace q106 := eq_true q106
                  go_enter Tryd.func69, Tryd.ntmps69
                  go_wp2
                  repeat (go_quiet (fail); try go_wp2)
                  go_ret
                  exact ⟨by first | rfl | (simp; done) | (simp [*]; done), by repeat (first | exact Drawn0.refl _ | apply Drawn0.step)⟩
              · rw [if_neg c9] at H
                exact absurd H (by simp)
            · rw [if_neg c8] at H
              exact absurd H (by simp)
          · rw [if_neg c7] at H
            have c7b0 : decide ((rd l0 0) ≤ (rd l1 2)) = false := decide_eq_false c7
            clear c7
            obtain rfl := Option.some.inj H
            have p101 : 0 ≤ (0 : Int) := (by omega)
            have q101 : 0 < (l0.length : Int) := of_decide_eq_true (by first | (with_reducible assumption) | assumption)
            obtain ⟨ad101, e101, hx101_0⟩ := Kd.at_int HR0.out 0 p101 q101
            cases e101
            have qi101 : (0 < l0.length) = True := eq_true (by omega)
            (try rw [show ((0 : Int)).toNat = 0 from rfl] at hx101_0)
            (try rw [Addr.add_zero'] at hx101_0)
            replace p101 := eq_true p101
            replace q101 := eq_true q101
            have p102 : 0 ≤ (0 : Int) := (by omega)
            have q102 : 0 < (l1.length : Int) := of_decide_eq_true (by first | (with_reducible assumption) | assumption)
            obtain ⟨ad102, e102, hx102_0⟩ := Kd.at_int HR1.out 0 p102 q102
            cases e102
            have qi102 : (0 < l1.length) = True := eq_true (by omega)
            (try rw [show ((0 : Int)).toNat = 0 from rfl] at hx102_0)
            (try rw [Addr.add_zero'] at hx102_0)
            replace p102 := eq_true p102
            replace q102 := eq_true q102
            have p103 : 0 ≤ (0 : Int) := (by omega)
            have q103 : 0 < (l0.length : Int) := of_decide_eq_true (by first | (with_reducible assumption) | assumption)
            obtain ⟨ad103, e103, hx103_0⟩ := Kd.at_int HR0.out 0 p103 q103
            obtain rfl : ad101 = ad103 := (by injection e103)
            have qi103 : (0 < l0.length) = True := eq_true (by omega)
            (try rw [show ((0 : Int)).toNat = 0 from rfl] at hx103_0)
            (try rw [Addr.add_zero'] at hx103_0)
            replace p103 := eq_true p103
            replace q103 := eq_true q103
            have p104 : 0 ≤ (2 : Int) := (by omega)
            have q104 : 2 < (l1.length : Int) := of_decide_eq_true (by first | (with_reducible assumption) | assumption)
            obtain ⟨ad104, e104, hx104_0⟩ := Kd.at_int HR1.out 2 p104 q104
            obtain rfl : ad102 = ad104 := (by injection e104)
            (try simp only [show (2 : Int).toNat = 2 from rfl, Nat.reduceMul, Nat.reduceEqDiff, Go.Addr.add, ↓reduceIte] at hx104_0)
            have qi104 : (2 < l1.length) = True := eq_true (by omega)
            (try rw [show ((2 : Int)).toNat = 2 from rfl] at hx104_0)
            replace p104 := eq_true p104
            replace q104 := eq_true q104
            go_enter Tryd.func69, Tryd.ntmps69
            go_wp2
            repeat (go_quiet (fail); try go_wp2)
            go_ret
            exact ⟨by first | rfl | (simp; done) | (simp [*]; done), by repeat (first | exact Drawn0.refl _ | apply Drawn0.step)⟩
        · rw [if_neg c6] at H
          exact absurd H (by simp)
      · rw [if_neg c5] at H
        have c5b0 : decide ((rd l1 0) ≤ (rd l0 0)) = false := decide_eq_false c5
        clear c5
        obtain rfl := Option.some.inj H
        have p101 : 0 ≤ (0 : Int) := (by omega)
        have q101 : 0 < (l0.length : Int) := of_decide_eq_true (by first | (with_reducible assumption) | assumption)
        obtain ⟨ad101, e101, hx101_0⟩ := Kd.at_int HR0.out 0 p101 q101
        cases e101
        have qi101 : (0 < l0.length) = True := eq_true (by omega)
        (try rw [show ((0 : Int)).toNat = 0 from rfl] at hx101_0)
        (try rw [Addr.add_zero'] at hx101_0)
        replace p101 := eq_true p101
        replace q101 := eq_true q101
        have p102 : 0 ≤ (0 : Int) := (by omega)
        have q102 : 0 < (l1.length : Int) := of_decide_eq_true (by first | (with_reducible assumption) | assumption)
        obtain ⟨ad102, e102, hx102_0⟩ := Kd.at_int HR1.out 0 p102 q102
        cases e102
        have qi102 : (0 < l1.length) = True := eq_true (by omega)
        (try rw [show ((0 : Int)).toNat = 0 from rfl] at hx102_0)
        (try rw [Addr.add_zero'] at hx102_0)
        replace p102 := eq_true p102
        replace q102 := eq_true q102
        go_enter Tryd.func69, Tryd.ntmps69
        go_wp2
        repeat (go_quiet (fail); try go_wp2)
        go_ret
        exact ⟨by first | rfl | (simp; done) | (simp [*]; done), by repeat (first | exact Drawn0.refl _ | apply Drawn0.step)⟩
    · rw [if_neg c4] at H
      exact absurd H (by simp)
  · rw [if_neg c3] at H
    exact absurd H (by simp)

/-- THE ONE PURE STATEMENT of excelize_cellInRange: yours. -/
def excelize_cellInRange.Pure : Prop := ∀ (l0 : List Int) (l1 : List Int), l0.length ≤ maxLen → l0.length * 8 ≤ 140737488351232 → (∀ x ∈ l0, (Lit.int .i64 x).wf = true) → l1.length ≤ maxLen → l1.length * 8 ≤ 140737488351232 → (∀ x ∈ l1, (Lit.int .i64 x).wf = true) → excelize_cellInRange.f l0 l1 = some true
theorem excelize_cellInRange.walk (P : excelize_cellInRange.Pure) (a0 : Option Addr) (len0 cap0 : Nat) (z0 : List Int) (a1 : Option Addr) (len1 cap1 : Nat) (z1 : List Int) (w : World) (w0 : (a0 = none ∧ len0 = 0 ∧ cap0 = 0 ∧ z0 = []) ∨ ∃ x, a0 = some x ∧ len0 ≤ cap0 ∧ cap0 ≤ maxLen ∧ z0.length = cap0 ∧ (∀ i, i < z0.length → w.cell? (x.add i) = some (.int .i64 (z0.getD i 0))) ∧ ∀ n ∈ z0, (Lit.int .i64 n).wf = true) (y0 : len0 * 8 ≤ 140737488351232) (w1 : (a1 = none ∧ len1 = 0 ∧ cap1 = 0 ∧ z1 = []) ∨ ∃ x, a1 = some x ∧ len1 ≤ cap1 ∧ cap1 ≤ maxLen ∧ z1.length = cap1 ∧ (∀ i, i < z1.length → w.cell? (x.add i) = some (.int .i64 (z1.getD i 0))) ∧ ∀ n ∈ z1, (Lit.int .i64 n).wf = true) (y1 : len1 * 8 ≤ 140737488351232) :
    Calls Tryd.prog 69 #[.slice a0 len0 cap0, .slice a1 len1 cap1] w fun e w' => e = .returned (.bool true) ∧ Below w.heap.size w w' := by
  obtain ⟨l0, rfl, hr0, hm0, hw0, hc0⟩ := ReadsInt.ofRowC w0
  obtain ⟨l1, rfl, hr1, hm1, hw1, hc1⟩ := ReadsInt.ofRowC w1
  have h := P l0 l1 hm0 y0 hw0 hm1 y1 hw1
  refine (excelize_cellInRange.calls _ _ l0 _ _ l1 true w (Kd.C_of_reads (d := (0 : Int)) (h1 := fun _ => rfl) hr0) hc0 (Kd.C_of_reads (d := (0 : Int)) (h1 := fun _ => rfl) hr1) hc1 h).mono ?_
  rintro e w' ⟨rfl, hd⟩
  exact ⟨rfl, hd.below⟩

end Go.Proofs.YtfbenlenihlpbaaDoor.PcellInRange
