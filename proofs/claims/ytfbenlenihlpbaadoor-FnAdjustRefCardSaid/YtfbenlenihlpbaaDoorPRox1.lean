/- Contracts of functions that the text "Ro" uses: the call ends in what the plain Lean function says, where that says something. Written by a program of this session. No conditions. -/
import Derived.Test.YtfbenlenihlpbaaDoorPRox0
namespace Go.Proofs.YtfbenlenihlpbaaDoor.PRo
open Go.RowKit Go.Proofs.YtfbenlenihlpbaaDoorW.PrintWords Go.Proofs.YtfbenlenihlpbaaDoorW.PrintLast Go.Proofs.YtfbenlenihlpbaaDoorW.PrintMore
attribute [local go_sem] max2_int min2_int max_two min_two max_three min_three max_four min_four   -- for this text's walks alone
set_option linter.unusedVariables false
set_option linter.unusedSimpArgs false

/-! ### spec_ColumnNumber: function 73 -/
mutual
def spec_ColumnNumber.l0 : Nat → ByteArray → Int → Int → Option (Int × Bool)
  | 0, _, _, _ => none
  | k + 1, x0, x4, x5 => if x5 < (x0.size : Int) then (if 0 ≤ x5 then (if (bt x0 x5) ≥ 97 then (spec_ColumnNumber.j1 k x0 x4 x5 (bt x0 x5) (decide ((bt x0 x5) ≤ 122))) else (spec_ColumnNumber.j1 k x0 x4 x5 (bt x0 x5) false)) else (none)) else (some (x4, decide (x4 > 0)))
def spec_ColumnNumber.j1 : Nat → ByteArray → Int → Int → Int → Bool → Option (Int × Bool)
  | 0, _, _, _, _, _ => none
  | k + 1, x0, x4, x5, x6, x21 => if x21 = true then (spec_ColumnNumber.j2 k x0 x4 x5 ((((x6 - 97) % 256) + 65) % 256)) else (spec_ColumnNumber.j2 k x0 x4 x5 x6)
def spec_ColumnNumber.j2 : Nat → ByteArray → Int → Int → Int → Option (Int × Bool)
  | 0, _, _, _, _ => none
  | k + 1, x0, x4, x5, x6 => if x6 < 65 then (spec_ColumnNumber.j3 k x0 x4 x5 x6 true) else (spec_ColumnNumber.j3 k x0 x4 x5 x6 (decide (x6 > 90)))
def spec_ColumnNumber.j3 : Nat → ByteArray → Int → Int → Int → Bool → Option (Int × Bool)
  | 0, _, _, _, _, _ => none
  | k + 1, x0, x4, x5, x6, x30 => if x30 = true then (some (0, false)) else (if (wrap64 ((wrap64 ((wrap64 (26 * x4)) + ((x6 - 65) % 256))) + 1)) > 16384 then (some (0, false)) else (spec_ColumnNumber.l0 k x0 (wrap64 ((wrap64 ((wrap64 (26 * x4)) + ((x6 - 65) % 256))) + 1)) (wrap64 (x5 + 1))))
end
def spec_ColumnNumber.f (k : Nat) (a0 : ByteArray) : Option (Int × Bool) := spec_ColumnNumber.l0 k a0 0 0
theorem spec_ColumnNumber.mono_l : ∀ k, (∀ y0 y1 y2, LeO (spec_ColumnNumber.l0 k y0 y1 y2) (spec_ColumnNumber.l0 (k + 1) y0 y1 y2)) ∧ (∀ y0 y1 y2 y3 y4, LeO (spec_ColumnNumber.j1 k y0 y1 y2 y3 y4) (spec_ColumnNumber.j1 (k + 1) y0 y1 y2 y3 y4)) ∧ (∀ y0 y1 y2 y3, LeO (spec_ColumnNumber.j2 k y0 y1 y2 y3) (spec_ColumnNumber.j2 (k + 1) y0 y1 y2 y3)) ∧ (∀ y0 y1 y2 y3 y4, LeO (spec_ColumnNumber.j3 k y0 y1 y2 y3 y4) (spec_ColumnNumber.j3 (k + 1) y0 y1 y2 y3 y4))
  | 0 => ⟨fun _ _ _ r h => by simp [spec_ColumnNumber.l0] at h, fun _ _ _ _ _ r h => by simp [spec_ColumnNumber.j1] at h, fun _ _ _ _ r h => by simp [spec_ColumnNumber.j2] at h, fun _ _ _ _ _ r h => by simp [spec_ColumnNumber.j3] at h⟩
  | k + 1 => by
    obtain ⟨ih0, ih1, ih2, ih3⟩ := spec_ColumnNumber.mono_l k
    refine ⟨?_, ?_, ?_, ?_⟩
    · intro y0 y1 y2
      unfold spec_ColumnNumber.l0
      repeat' first
      | (with_reducible exact ih0 _ _ _)
      | (with_reducible exact ih1 _ _ _ _ _)
      | (with_reducible exact ih2 _ _ _ _)
      | (with_reducible exact ih3 _ _ _ _ _)
      | (with_reducible exact LeO.refl _)
      | (with_reducible exact LeO.none _)
      | (with_reducible refine LeO.ite ?_ ?_)
      | (with_reducible refine LeO.bind ?_ (fun _ => ?_))
      | exact ih0 _ _ _
      | exact ih1 _ _ _ _ _
      | exact ih2 _ _ _ _
      | exact ih3 _ _ _ _ _
      | exact LeO.none _
      | refine LeO.ite ?_ ?_
      | refine LeO.bind ?_ (fun _ => ?_)
    · intro y0 y1 y2 y3 y4
      unfold spec_ColumnNumber.j1
      repeat' first
      | (with_reducible exact ih0 _ _ _)
      | (with_reducible exact ih1 _ _ _ _ _)
      | (with_reducible exact ih2 _ _ _ _)
      | (with_reducible exact ih3 _ _ _ _ _)
      | (with_reducible exact LeO.refl _)
      | (with_reducible exact LeO.none _)
      | (with_reducible refine LeO.ite ?_ ?_)
      | (with_reducible refine LeO.bind ?_ (fun _ => ?_))
      | exact ih0 _ _ _
      | exact ih1 _ _ _ _ _
      | exact ih2 _ _ _ _
      | exact ih3 _ _ _ _ _
      | exact LeO.none _
      | refine LeO.ite ?_ ?_
      | refine LeO.bind ?_ (fun _ => ?_)
    · intro y0 y1 y2 y3
      unfold spec_ColumnNumber.j2
      repeat' first
      | (with_reducible exact ih0 _ _ _)
      | (with_reducible exact ih1 _ _ _ _ _)
      | (with_reducible exact ih2 _ _ _ _)
      | (with_reducible exact ih3 _ _ _ _ _)
      | (with_reducible exact LeO.refl _)
      | (with_reducible exact LeO.none _)
      | (with_reducible refine LeO.ite ?_ ?_)
      | (with_reducible refine LeO.bind ?_ (fun _ => ?_))
      | exact ih0 _ _ _
      | exact ih1 _ _ _ _ _
      | exact ih2 _ _ _ _
      | exact ih3 _ _ _ _ _
      | exact LeO.none _
      | refine LeO.ite ?_ ?_
      | refine LeO.bind ?_ (fun _ => ?_)
    · intro y0 y1 y2 y3 y4
      unfold spec_ColumnNumber.j3
      repeat' first
      | (with_reducible exact ih0 _ _ _)
      | (with_reducible exact ih1 _ _ _ _ _)
      | (with_reducible exact ih2 _ _ _ _)
      | (with_reducible exact ih3 _ _ _ _ _)
      | (with_reducible exact LeO.refl _)
      | (with_reducible exact LeO.none _)
      | (with_reducible refine LeO.ite ?_ ?_)
      | (with_reducible refine LeO.bind ?_ (fun _ => ?_))
      | exact ih0 _ _ _
      | exact ih1 _ _ _ _ _
      | exact ih2 _ _ _ _
      | exact ih3 _ _ _ _ _
      | exact LeO.none _
      | refine LeO.ite ?_ ?_
      | refine LeO.bind ?_ (fun _ => ?_)
theorem spec_ColumnNumber.mono : ∀ a0 k, LeO (spec_ColumnNumber.f k a0) (spec_ColumnNumber.f (k + 1) a0) := by
  intro a0 k
  obtain ⟨ih0, ih1, ih2, ih3⟩ := spec_ColumnNumber.mono_l k
  unfold spec_ColumnNumber.f
  repeat' first
      | (with_reducible exact ih0 _ _ _)
      | (with_reducible exact ih1 _ _ _ _ _)
      | (with_reducible exact ih2 _ _ _ _)
      | (with_reducible exact ih3 _ _ _ _ _)
      | (with_reducible exact LeO.refl _)
      | (with_reducible exact LeO.none _)
      | (with_reducible refine LeO.ite ?_ ?_)
      | (with_reducible refine LeO.bind ?_ (fun _ => ?_))
      | exact ih0 _ _ _
      | exact ih1 _ _ _ _ _
      | exact ih2 _ _ _ _
      | exact ih3 _ _ _ _ _
      | exact LeO.none _
      | refine LeO.ite ?_ ?_
      | refine LeO.bind ?_ (fun _ => ?_)
set_option maxHeartbeats 8000000 in
set_option maxRecDepth 100000 in
theorem spec_ColumnNumber.calls (k : Nat) (a0 : ByteArray) (r1 : Int) (r2 : Bool) (w : World) (h : spec_ColumnNumber.f k a0 = some (r1, r2)) :
    Calls Tryd.prog 73 #[.string a0] w fun e w' => e = .returned (.tuple #[.int .i64 r1, .bool r2]) ∧ Drawn0 w w' := by
  have H : (spec_ColumnNumber.l0 k a0 0 0) = some (r1, r2) := h
  clear h
  have H' := Aside0.mk H
  clear H
  go_enter Tryd.func73, Tryd.ntmps73
  go_wp2
  go_loopg [4, 5] k (fun kq v4 v5 w' => ∃ (x4_1 : Int) (x5_1 : Int), v4 = .int .i64 x4_1 ∧ v5 = .int .i64 x5_1 ∧ Aside0 (spec_ColumnNumber.l0 kq a0 x4_1 x5_1 = some (r1, r2)) ∧ Aside0 (kq ≤ k) ∧ Drawn0 w w')
  case atStart => exact ⟨(0), (0), (by first | rfl | (simp; done) | (simp [*]; done)), (by first | rfl | (simp; done) | (simp [*]; done)), H', ⟨Nat.le_refl _⟩, by repeat (first | exact Drawn0.refl _ | apply Drawn0.step)⟩
  case round =>
    clear H'
    obtain ⟨x4_1, x5_1, rfl, rfl, HA, HK1, ⟨m1, rfl⟩⟩ := hrel
    cases gk with
    | zero => exact absurd HA.out (by simp [spec_ColumnNumber.l0])
    | succ k1 =>
      have H := HA.out
      clear HA
      simp only [spec_ColumnNumber.l0] at H
      by_cases c2 : x5_1 < (a0.size : Int)
      · rw [if_pos c2] at H
        have c2b0 : decide (x5_1 < (a0.size : Int)) = true := decide_eq_true c2
        clear c2
        by_cases c3 : 0 ≤ x5_1
        · rw [if_pos c3] at H
          have c3b0 : decide (0 ≤ x5_1) = true := decide_eq_true c3
          clear c3
          have HC5 := Aside0.mk H
          clear H
          have p4 : 0 ≤ (x5_1 : Int) := of_decide_eq_true (by first | (with_reducible assumption) | assumption)
          have q4 : x5_1 < (a0.size : Int) := of_decide_eq_true (by first | (with_reducible assumption) | assumption)
          have hx4 := bt_at a0 x5_1
          replace p4 := eq_true p4
          replace q4 := eq_true q4
          go_upto_region 6 with (fail)
          go_cut [21] (fun v21 wc => ∃ (kq : Nat) (x21_4 : Bool), v21 = .bool x21_4 ∧ Aside0 (spec_ColumnNumber.j1 kq a0 x4_1 x5_1 (bt a0 x5_1) x21_4 = some (r1, r2)) ∧ Aside0 (kq ≤ k1) ∧ Drawn0 w wc)
          case first =>
            have H := HC5.out
            clear HC5
            by_cases c6 : (bt a0 x5_1) ≥ 97
            · rw [if_pos c6] at H
              have c6b0 : decide (97 ≤ (bt a0 x5_1)) = true := decide_eq_true c6
              clear c6
              (first | rw [c6b0] | (simp only [i64_w, i32_w]; rw [c6b0]) | skip)
              have H' := Aside0.mk H
              clear H
              go_wp2
              go_meet
              case rel => exact ⟨_, (decide ((bt a0 x5_1) ≤ 122)), (by first | rfl | (simp; done) | (simp [*]; done)), H', ⟨by have := HK1.out; first | omega | exact Nat.le_refl _⟩, by repeat (first | exact Drawn0.refl _ | apply Drawn0.step)⟩
            · rw [if_neg c6] at H
              have c6b0 : decide (97 ≤ (bt a0 x5_1)) = false := decide_eq_false c6
              clear c6
              (first | rw [c6b0] | (simp only [i64_w, i32_w]; rw [c6b0]) | skip)
              have H' := Aside0.mk H
              clear H
              go_wp2
              go_meet
              case rel => exact ⟨_, (false), (by first | rfl | (simp; done) | (simp [*]; done)), H', ⟨by have := HK1.out; first | omega | exact Nat.le_refl _⟩, by repeat (first | exact Drawn0.refl _ | apply Drawn0.step)⟩
          case rest =>
            clear HC5
            try clear c2
            try clear c2b0
            try clear p2
            try clear c3
            try clear c3b0
            try clear p4
            try clear q4
            try clear hx4
            try clear c6
            try clear c6b0
            try clear p4
            try clear q4
            obtain ⟨kq, x21_4, rfl, HA, HJ4, ⟨mc4, rfl⟩⟩ := hcut
            cases kq with
            | zero => exact absurd HA.out (by simp [spec_ColumnNumber.j1])
            | succ kj4 =>
              have H := HA.out
              clear HA
              simp only [spec_ColumnNumber.j1] at H
              have HC7 := Aside0.mk H
              clear H
              go_upto_if 21 with (fail)
              go_cut [6] (fun v6 wc => ∃ (kq : Nat) (x6_6 : Int), v6 = .int .u8 x6_6 ∧ Aside0 (spec_ColumnNumber.j2 kq a0 x4_1 x5_1 x6_6 = some (r1, r2)) ∧ Aside0 (kq ≤ kj4) ∧ Drawn0 w wc)
              case first =>
                have H := HC7.out
                clear HC7
                by_cases c8 : x21_4 = true
                · subst c8
                  have H1 : (spec_ColumnNumber.j2 kj4 a0 x4_1 x5_1 (((((bt a0 x5_1) - 97) % 256) + 65) % 256)) = some (r1, r2) := by rw [if_pos rfl] at H; exact H
                  clear H
                  have H := H1
                  clear H1
                  have H' := Aside0.mk H
                  clear H
                  go_wp2
                  go_meet
                  case rel => exact ⟨_, (((((bt a0 x5_1) - 97) % 256) + 65) % 256), (by first | rfl | (simp; done) | (simp [*]; done)), H', ⟨by have := HK1.out; have := HJ4.out; first | omega | exact Nat.le_refl _⟩, by repeat (first | exact Drawn0.refl _ | apply Drawn0.step)⟩
                · replace c8 := Bool.eq_false_iff.mpr c8
                  subst c8
                  have H1 : (spec_ColumnNumber.j2 kj4 a0 x4_1 x5_1 (bt a0 x5_1)) = some (r1, r2) := by rw [if_neg (show ¬ (false = true) by decide)] at H; exact H
                  clear H
                  have H := H1
                  clear H1
                  have H' := Aside0.mk H
                  clear H
                  go_wp2
                  go_meet
                  case rel => exact ⟨_, ((bt a0 x5_1)), (by first | rfl | (simp; done) | (simp [*]; done)), H', ⟨by have := HK1.out; have := HJ4.out; first | omega | exact Nat.le_refl _⟩, by repeat (first | exact Drawn0.refl _ | apply Drawn0.step)⟩
              case rest =>
                clear HC7
                try clear c2
                try clear c2b0
                try clear p2
                try clear c3
                try clear c3b0
                try clear c4
                try clear p4
                try clear q4
                try clear hx4
                try clear c6
                try clear c6b0
                try clear c7
                try clear c8
                try clear p2
                try clear p4
                try clear q4
                obtain ⟨kq, x6_6, rfl, HA, HJ6, ⟨mc6, rfl⟩⟩ := hcut
                cases kq with
                | zero => exact absurd HA.out (by simp [spec_ColumnNumber.j2])
                | succ kj6 =>
                  have H := HA.out
                  clear HA
                  simp only [spec_ColumnNumber.j2] at H
                  have HC9 := Aside0.mk H
                  clear H
                  go_upto_region 8 with (fail)
                  go_cut [30] (fun v30 wc => ∃ (kq : Nat) (x30_8 : Bool), v30 = .bool x30_8 ∧ Aside0 (spec_ColumnNumber.j3 kq a0 x4_1 x5_1 x6_6 x30_8 = some (r1, r2)) ∧ Aside0 (kq ≤ kj6) ∧ Drawn0 w wc)
                  case first =>
                    have H := HC9.out
                    clear HC9
                    by_cases c10 : x6_6 < 65
                    · rw [if_pos c10] at H
                      have c10b0 : decide (x6_6 < 65) = true := decide_eq_true c10
                      clear c10
                      (first | rw [c10b0] | (simp only [i64_w, i32_w]; rw [c10b0]) | skip)
                      have H' := Aside0.mk H
                      clear H
                      go_wp2
                      go_meet
                      case rel => exact ⟨_, (true), (by first | rfl | (simp; done) | (simp [*]; done)), H', ⟨by have := HK1.out; have := HJ4.out; have := HJ6.out; first | omega | exact Nat.le_refl _⟩, by repeat (first | exact Drawn0.refl _ | apply Drawn0.step)⟩
                    · rw [if_neg c10] at H
                      have c10b0 : decide (x6_6 < 65) = false := decide_eq_false c10
                      clear c10
                      (first | rw [c10b0] | (simp only [i64_w, i32_w]; rw [c10b0]) | skip)
                      have H' := Aside0.mk H
                      clear H
                      go_wp2
                      go_meet
                      case rel => exact ⟨_, (decide (x6_6 > 90)), (by first | rfl | (simp; done) | (simp [*]; done)), H', ⟨by have := HK1.out; have := HJ4.out; have := HJ6.out; first | omega | exact Nat.le_refl _⟩, by repeat (first | exact Drawn0.refl _ | apply Drawn0.step)⟩
                  case rest =>
                    clear HC9
                    try clear c1
                    try clear c2
                    try clear c2b0
                    try clear p2
                    try clear c3
                    try clear c3b0
                    try clear c4
                    try clear p4
                    try clear q4
                    try clear hx4
                    try clear c6
                    try clear c6b0
                    try clear c7
                    try clear c8
                    try clear c10
                    try clear c10b0
                    try clear p2
                    try clear p4
                    try clear q4
                    obtain ⟨kq, x30_8, rfl, HA, HJ8, ⟨mc8, rfl⟩⟩ := hcut
                    cases kq with
                    | zero => exact absurd HA.out (by simp [spec_ColumnNumber.j3])
                    | succ kj8 =>
                      have H := HA.out
                      clear HA
                      simp only [spec_ColumnNumber.j3] at H
                      by_cases c11 : x30_8 = true
                      · subst c11
                        have H1 : (some (0, false)) = some (r1, r2) := by rw [if_pos rfl] at H; exact H
                        clear H
                        have H := H1
                        clear H1
                        simp only [Option.some.injEq, Prod.mk.injEq] at H
                        obtain ⟨rfl, rfl⟩ := H
                        go_wp2
                        go_ret2
                        exact ⟨by first | rfl | (simp; done) | (simp [*]; done), by repeat (first | exact Drawn0.refl _ | apply Drawn0.step)⟩
                      · replace c11 := Bool.eq_false_iff.mpr c11
                        subst c11
                        have H1 : (if (wrap64 ((wrap64 ((wrap64 (26 * x4_1)) + ((x6_6 - 65) % 256))) + 1)) > 16384 then (some (0, false)) else (spec_ColumnNumber.l0 kj8 a0 (wrap64 ((wrap64 ((wrap64 (26 * x4_1)) + ((x6_6 - 65) % 256))) + 1)) (wrap64 (x5_1 + 1)))) = some (r1, r2) := by rw [if_neg (show ¬ (false = true) by decide)] at H; exact H
                        clear H
                        have H := H1
                        clear H1
                        by_cases c12 : (wrap64 ((wrap64 ((wrap64 (26 * x4_1)) + ((x6_6 - 65) % 256))) + 1)) > 16384
                        · rw [if_pos c12] at H
                          have c12b0 : decide (16384 < (wrap64 ((wrap64 ((wrap64 (26 * x4_1)) + ((x6_6 - 65) % 256))) + 1))) = true := decide_eq_true c12
                          clear c12
                          simp only [Option.some.injEq, Prod.mk.injEq] at H
                          obtain ⟨rfl, rfl⟩ := H
                          go_wp2
                          go_ret2
                          exact ⟨by first | rfl | (simp; done) | (simp [*]; done), by repeat (first | exact Drawn0.refl _ | apply Drawn0.step)⟩
                        · rw [if_neg c12] at H
                          have c12b0 : decide (16384 < (wrap64 ((wrap64 ((wrap64 (26 * x4_1)) + ((x6_6 - 65) % 256))) + 1))) = false := decide_eq_false c12
                          clear c12
                          have H' := Aside0.mk H
                          clear H
                          go_wp2
                          go_roundg kj8
                          case measure => have := HK1.out; have := HJ4.out; have := HJ6.out; have := HJ8.out; omega
                          case rel => exact ⟨(wrap64 ((wrap64 ((wrap64 (26 * x4_1)) + ((x6_6 - 65) % 256))) + 1)), (wrap64 (x5_1 + 1)), (by first | rfl | (simp; done) | (simp [*]; done)), (by first | rfl | (simp; done) | (simp [*]; done)), H', ⟨by have := HK1.out; have := HJ4.out; have := HJ6.out; have := HJ8.out; omega⟩, by repeat (first | exact Drawn0.refl _ | apply Drawn0.step)⟩
        · rw [if_neg c3] at H
          exact absurd H (by simp)
      · rw [if_neg c2] at H
        have c2b0 : decide (x5_1 < (a0.size : Int)) = false := decide_eq_false c2
        clear c2
        simp only [Option.some.injEq, Prod.mk.injEq] at H
        obtain ⟨rfl, rfl⟩ := H
        go_wp2
        go_ret2
        exact ⟨by first | rfl | (simp; done) | (simp [*]; done), by repeat (first | exact Drawn0.refl _ | apply Drawn0.step)⟩

end Go.Proofs.YtfbenlenihlpbaaDoor.PRo
