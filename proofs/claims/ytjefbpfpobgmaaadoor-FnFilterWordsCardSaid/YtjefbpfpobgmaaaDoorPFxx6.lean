/- Contracts of functions that the text "Fx" uses: the call ends in what the plain Lean function says, where that says something. Written by a program of this session. No conditions. -/
import Derived.Test.YtjefbpfpobgmaaaDoorPFxx0
import Derived.Test.YtjefbpfpobgmaaaDoorPFxx4
import Derived.Test.YtjefbpfpobgmaaaDoorPFxx5
namespace Go.Proofs.YtjefbpfpobgmaaaDoor.PFx
open Go.RowKit Go.Proofs.YtjefbpfpobgmaaaDoorW.PrintWords Go.Proofs.YtjefbpfpobgmaaaDoorW.PrintLast Go.Proofs.YtjefbpfpobgmaaaDoorW.PrintMore
attribute [local go_sem] max2_int min2_int max_two min_two max_three min_three max_four min_four   -- for this text's walks alone
set_option linter.unusedVariables false
set_option linter.unusedSimpArgs false

/-! ### laws_refFilter: function 11 -/
mutual
def laws_refFilter.l0 : Nat → List Int → List ByteArray → Bool → ByteArray → Int → Option (ByteArray × Bool)
  | 0, _, _, _, _, _ => none
  | k + 1, x4, x5, x6, x7, x8 => if x8 < (x4.length : Int) then (if 0 ≤ x8 then ((spec_Digits.f k (wrap64 ((rd x4 x8) + 100)) 10).bind fun t128 => (if t128.size + 1 ≤ 9223372036854775807 then (if x7.size + (t128 ++ (⟨#[32]⟩ : ByteArray)).size ≤ 9223372036854775807 then (laws_refFilter.l0 k x4 x5 x6 (x7 ++ (t128 ++ (⟨#[32]⟩ : ByteArray))) (wrap64 (x8 + 1))) else (none)) else (none))) else (none)) else (laws_refFilter.l1 k x4 x5 x6 x7 0)
def laws_refFilter.l1 : Nat → List Int → List ByteArray → Bool → ByteArray → Int → Option (ByteArray × Bool)
  | 0, _, _, _, _, _ => none
  | k + 1, x4, x5, x6, x7, x9 => if x9 < (x5.length : Int) then (if 0 ≤ x9 then (if (rdOf ByteArray.empty x5 x9).size + 1 ≤ 9223372036854775807 then (if x7.size + ((rdOf ByteArray.empty x5 x9) ++ (⟨#[59]⟩ : ByteArray)).size ≤ 9223372036854775807 then (laws_refFilter.l1 k x4 x5 x6 (x7 ++ ((rdOf ByteArray.empty x5 x9) ++ (⟨#[59]⟩ : ByteArray))) (wrap64 (x9 + 1))) else (none)) else (none)) else (none)) else (if x6 = true then (some (x7, decide ((x4.length : Int) > 0))) else (some (x7, false)))
end
def laws_refFilter.f (k : Nat) (l0 : List ByteArray) : Option (ByteArray × Bool) := (impl_Filter.f k l0).bind fun bt120 => (laws_refFilter.l0 k bt120.1 bt120.2.1 bt120.2.2 (⟨#[]⟩ : ByteArray) 0)
theorem laws_refFilter.mono_l : ∀ k, (∀ y0 y1 y2 y3 y4, LeO (laws_refFilter.l0 k y0 y1 y2 y3 y4) (laws_refFilter.l0 (k + 1) y0 y1 y2 y3 y4)) ∧ (∀ y0 y1 y2 y3 y4, LeO (laws_refFilter.l1 k y0 y1 y2 y3 y4) (laws_refFilter.l1 (k + 1) y0 y1 y2 y3 y4))
  | 0 => ⟨fun _ _ _ _ _ r h => by simp [laws_refFilter.l0] at h, fun _ _ _ _ _ r h => by simp [laws_refFilter.l1] at h⟩
  | k + 1 => by
    obtain ⟨ih0, ih1⟩ := laws_refFilter.mono_l k
    refine ⟨?_, ?_⟩
    · intro y0 y1 y2 y3 y4
      unfold laws_refFilter.l0
      repeat' first
      | (with_reducible exact ih0 _ _ _ _ _)
      | (with_reducible exact ih1 _ _ _ _ _)
      | (with_reducible exact impl_Filter.mono _ _)
      | (with_reducible exact spec_Digits.mono _ _ _)
      | (with_reducible exact LeO.refl _)
      | (with_reducible exact LeO.none _)
      | (with_reducible refine LeO.ite ?_ ?_)
      | (with_reducible refine LeO.bind ?_ (fun _ => ?_))
      | exact ih0 _ _ _ _ _
      | exact ih1 _ _ _ _ _
      | exact impl_Filter.mono _ _
      | exact spec_Digits.mono _ _ _
      | exact LeO.none _
      | refine LeO.ite ?_ ?_
      | refine LeO.bind ?_ (fun _ => ?_)
    · intro y0 y1 y2 y3 y4
      unfold laws_refFilter.l1
      repeat' first
      | (with_reducible exact ih0 _ _ _ _ _)
      | (with_reducible exact ih1 _ _ _ _ _)
      | (with_reducible exact impl_Filter.mono _ _)
      | (with_reducible exact spec_Digits.mono _ _ _)
      | (with_reducible exact LeO.refl _)
      | (with_reducible exact LeO.none _)
      | (with_reducible refine LeO.ite ?_ ?_)
      | (with_reducible refine LeO.bind ?_ (fun _ => ?_))
      | exact ih0 _ _ _ _ _
      | exact ih1 _ _ _ _ _
      | exact impl_Filter.mono _ _
      | exact spec_Digits.mono _ _ _
      | exact LeO.none _
      | refine LeO.ite ?_ ?_
      | refine LeO.bind ?_ (fun _ => ?_)
theorem laws_refFilter.mono : ∀ a0 k, LeO (laws_refFilter.f k a0) (laws_refFilter.f (k + 1) a0) := by
  intro a0 k
  obtain ⟨ih0, ih1⟩ := laws_refFilter.mono_l k
  unfold laws_refFilter.f
  repeat' first
      | (with_reducible exact ih0 _ _ _ _ _)
      | (with_reducible exact ih1 _ _ _ _ _)
      | (with_reducible exact impl_Filter.mono _ _)
      | (with_reducible exact spec_Digits.mono _ _ _)
      | (with_reducible exact LeO.refl _)
      | (with_reducible exact LeO.none _)
      | (with_reducible refine LeO.ite ?_ ?_)
      | (with_reducible refine LeO.bind ?_ (fun _ => ?_))
      | exact ih0 _ _ _ _ _
      | exact ih1 _ _ _ _ _
      | exact impl_Filter.mono _ _
      | exact spec_Digits.mono _ _ _
      | exact LeO.none _
      | refine LeO.ite ?_ ?_
      | refine LeO.bind ?_ (fun _ => ?_)
set_option maxHeartbeats 8000000 in
set_option maxRecDepth 100000 in
theorem laws_refFilter.calls (k : Nat) (A0 : Option Addr) (c0 : Nat) (l0 : List ByteArray) (r1 : ByteArray) (r2 : Bool) (w : World) (hr0 : Kd.C Kd.string w A0 l0.length l0) (hc0 : l0.length ≤ c0) (h : laws_refFilter.f k l0 = some (r1, r2)) :
    Calls Tryd.prog 11 #[.slice A0 l0.length c0] w fun e w' => e = .returned (.tuple #[.string r1, .bool r2]) ∧ Below w.heap.size w w' := by
  have HR0 := Aside0.mk hr0
  have HC0 := Aside0.mk hc0
  clear hr0 hc0
  have HB := Aside0.mk (Below.refl w.heap.size w)
  have H : ((impl_Filter.f k l0).bind fun bt120 => (laws_refFilter.l0 k bt120.1 bt120.2.1 bt120.2.2 (⟨#[]⟩ : ByteArray) 0)) = some (r1, r2) := h
  clear h
  replace H := Option.bind_eq_some_iff.mp H
  obtain ⟨⟨t120, t121, t122⟩, A20, H⟩ := H
  replace H : (laws_refFilter.l0 k t120 t121 t122 (⟨#[]⟩ : ByteArray) 0) = some (r1, r2) := H
  have A2 := Aside0.mk A20
  clear A20
  have H' := Aside0.mk H
  clear H
  go_enter Tryd.func11, Tryd.ntmps11
  go_wp2_with (first | ((with_reducible refine gate_callee (f := 17) rfl ?_); refine goesL_ (some 12) rfl rfl Tryd.func17 (by kernel_rfl) rfl #[.slice A0 l0.length c0] rfl (by (try simp only [List.map_toArray, List.map_cons, List.map_nil]); first | done | rfl | (simp only [List.length_drop, List.length_take]; rfl)) ?_; (with_reducible refine (impl_Filter.calls k _ _ l0 t120 t121 t122 _ ?side1 ?side2 A2.out).mono ?_); (case side1 => repeat (first | exact HR0.out | (with_reducible refine Kd.C_alloc ?_ _) | (with_reducible refine Kd.C_drewN ?_ _) | (with_reducible refine Kd.C_drew ?_))); (case side2 => exact HC0.out); rintro e w3 ⟨v123, v125, rfl, ho0, ho1, hb⟩; refine ⟨_, rfl, ?_⟩; have n0_ := Aside0.mk (Kd.R_lower ho0 (below_size (by repeat (first | (with_reducible first | exact HB.out | apply below_alloc | apply pw_below_drewN | apply below_drew1) | exact HB.out)))); have n1_ := Aside0.mk (Kd.R_lower ho1 (below_size (by repeat (first | (with_reducible first | exact HB.out | apply below_alloc | apply pw_below_drewN | apply below_drew1) | exact HB.out)))); have n2_ := Aside0.mk (below_step (by repeat (first | (with_reducible first | exact HB.out | apply below_alloc | apply pw_below_drewN | apply below_drew1) | exact HB.out)) hb); clear HB; have HO124 := n0_; have HO126 := n1_; have HB := n2_; clear n0_ n1_ n2_; (try clear hb); (try clear hb2); (try clear hk); (try clear hi); (try clear ho0); (try clear ho1)))
  go_loopg [7, 8] k (fun kq v7 v8 w' => ∃ (x7_1 : ByteArray) (x8_1 : Int), v7 = .string x7_1 ∧ v8 = .int .i64 x8_1 ∧ Aside0 (laws_refFilter.l0 kq t120 t121 t122 x7_1 x8_1 = some (r1, r2)) ∧ Aside0 (kq ≤ k) ∧ Aside0 (Kd.R (Kd.int .i64) 3 w' w.heap.size (fun _ => True) v123 t120) ∧ Aside0 (Kd.R Kd.string 9 w' w.heap.size (fun _ => True) v125 t121) ∧ Aside0 (Below w.heap.size w w'))
  case atStart => exact ⟨((⟨#[]⟩ : ByteArray)), (0), (by first | rfl | (simp; done) | (simp [*]; done)), (by first | rfl | (simp; done) | (simp [*]; done)), H', ⟨Nat.le_refl _⟩, ⟨by (with_reducible repeat (first | apply Kd.R_alloc | apply Kd.R_drewN | apply Kd.R_drew)); exact HO124.out⟩, ⟨by (with_reducible repeat (first | apply Kd.R_alloc | apply Kd.R_drewN | apply Kd.R_drew)); exact HO126.out⟩, ⟨by repeat (first | (with_reducible first | exact HB.out | apply below_alloc | apply pw_below_drewN | apply below_drew1) | exact HB.out)⟩⟩
  case round =>
    clear H'
    try clear c1
    try clear p2
    obtain ⟨x7_1, x8_1, rfl, rfl, HA, HK1, HO_4, HO_5, HB⟩ := hrel
    cases gk with
    | zero => exact absurd HA.out (by simp [laws_refFilter.l0])
    | succ k1 =>
      have H := HA.out
      clear HA
      simp only [laws_refFilter.l0] at H
      by_cases c4 : x8_1 < (t120.length : Int)
      · rw [if_pos c4] at H
        have c4b0 : decide (x8_1 < (t120.length : Int)) = true := decide_eq_true c4
        clear c4
        by_cases c5 : 0 ≤ x8_1
        · rw [if_pos c5] at H
          have c5b0 : decide (0 ≤ x8_1) = true := decide_eq_true c5
          clear c5
          replace H := Option.bind_eq_some_iff.mp H
          obtain ⟨t128, A60, H⟩ := H
          replace H : (if t128.size + 1 ≤ 9223372036854775807 then (if x7_1.size + (t128 ++ (⟨#[32]⟩ : ByteArray)).size ≤ 9223372036854775807 then (laws_refFilter.l0 k1 t120 t121 t122 (x7_1 ++ (t128 ++ (⟨#[32]⟩ : ByteArray))) (wrap64 (x8_1 + 1))) else (none)) else (none)) = some (r1, r2) := H
          have A6 := Aside0.mk A60
          clear A60
          by_cases c7 : t128.size + 1 ≤ 9223372036854775807
          · rw [if_pos c7] at H
            have c7b0 := eq_true c7
            have c7b1 : decide (t128.size + 1 ≤ 9223372036854775807) = true := decide_eq_true c7
            try have c7b2 : (9223372036854775807 < t128.size + 1) = False := eq_false (Nat.not_lt.2 c7)
            have c7z := c7
            (try simp only [ByteArray.size_append, show ∀ x_ : UInt8, (⟨#[x_]⟩ : ByteArray).size = 1 from fun _ => rfl] at c7z)
            by_cases c8 : x7_1.size + (t128 ++ (⟨#[32]⟩ : ByteArray)).size ≤ 9223372036854775807
            · rw [if_pos c8] at H
              have c8b0 := eq_true c8
              have c8b1 : decide (x7_1.size + (t128 ++ (⟨#[32]⟩ : ByteArray)).size ≤ 9223372036854775807) = true := decide_eq_true c8
              try have c8b2 : (9223372036854775807 < x7_1.size + (t128 ++ (⟨#[32]⟩ : ByteArray)).size) = False := eq_false (Nat.not_lt.2 c8)
              have c8z := c8
              (try simp only [ByteArray.size_append, show ∀ x_ : UInt8, (⟨#[x_]⟩ : ByteArray).size = 1 from fun _ => rfl] at c8z)
              have H' := Aside0.mk H
              clear H
              obtain ⟨Ao9, co9, eo9⟩ := Kd.R_slice HO_4.out
              subst eo9
              have p127 : 0 ≤ (x8_1 : Int) := of_decide_eq_true (by first | (with_reducible assumption) | assumption)
              have q127 : x8_1 < (t120.length : Int) := of_decide_eq_true (by first | (with_reducible assumption) | assumption)
              obtain ⟨ad127, e127, hx127_0⟩ := Kd.at_int (Kd.R_reads' HO_4.out).2.2 x8_1 p127 q127
              cases e127
              replace p127 := eq_true p127
              replace q127 := eq_true q127
              go_wp2_with (first | ((with_reducible refine gate_callee (f := 18) rfl ?_); refine goesL_ (some 28) rfl rfl Tryd.func18 (by kernel_rfl) rfl #[.int .i64 (wrap64 ((rd t120 x8_1) + 100)), .int .i64 10] rfl (by (try simp only [List.map_toArray, List.map_cons, List.map_nil]); first | done | rfl | (simp only [List.length_drop, List.length_take]; rfl)) ?_; (with_reducible refine (spec_Digits.calls k1 (wrap64 ((rd t120 x8_1) + 100)) 10 t128 _ A6.out).mono ?_); rintro e w' ⟨rfl, ⟨nd, rfl⟩⟩; refine ⟨_, rfl, ?_⟩))
              go_roundg k1
              case measure => have := HK1.out; omega
              case rel => exact ⟨(x7_1 ++ (t128 ++ (⟨#[32]⟩ : ByteArray))), (wrap64 (x8_1 + 1)), (by first | rfl | (simp; done) | (simp [*]; done)), (by first | rfl | (simp; done) | (simp [*]; done)), H', ⟨by have := HK1.out; omega⟩, ⟨by (with_reducible repeat (first | apply Kd.R_alloc | apply Kd.R_drewN | apply Kd.R_drew)); exact HO_4.out⟩, ⟨by (with_reducible repeat (first | apply Kd.R_alloc | apply Kd.R_drewN | apply Kd.R_drew)); exact HO_5.out⟩, ⟨by repeat (first | (with_reducible first | exact HB.out | apply below_alloc | apply pw_below_drewN | apply below_drew1) | exact HB.out)⟩⟩
            · rw [if_neg c8] at H
              exact absurd H (by simp)
          · rw [if_neg c7] at H
            exact absurd H (by simp)
        · rw [if_neg c5] at H
          exact absurd H (by simp)
      · rw [if_neg c4] at H
        have c4b0 : decide (x8_1 < (t120.length : Int)) = false := decide_eq_false c4
        clear c4
        have H' := Aside0.mk H
        clear H
        obtain ⟨Ao10, co10, eo10⟩ := Kd.R_slice HO_4.out
        subst eo10
        go_wp2
        go_loopg [7, 9] k1 (fun kq v7 v9 w' => ∃ (x7_2 : ByteArray) (x9_2 : Int), v7 = .string x7_2 ∧ v9 = .int .i64 x9_2 ∧ Aside0 (laws_refFilter.l1 kq t120 t121 t122 x7_2 x9_2 = some (r1, r2)) ∧ Aside0 (kq ≤ k1) ∧ Aside0 (Kd.R (Kd.int .i64) 3 w' w.heap.size (fun _ => True) (.slice Ao10 t120.length co10) t120) ∧ Aside0 (Kd.R Kd.string 9 w' w.heap.size (fun _ => True) v125 t121) ∧ Aside0 (Below w.heap.size w w'))
        case atStart => exact ⟨(x7_1), (0), (by first | rfl | (simp; done) | (simp [*]; done)), (by first | rfl | (simp; done) | (simp [*]; done)), H', ⟨Nat.le_refl _⟩, ⟨by (with_reducible repeat (first | apply Kd.R_alloc | apply Kd.R_drewN | apply Kd.R_drew)); exact HO_4.out⟩, ⟨by (with_reducible repeat (first | apply Kd.R_alloc | apply Kd.R_drewN | apply Kd.R_drew)); exact HO_5.out⟩, ⟨by repeat (first | (with_reducible first | exact HB.out | apply below_alloc | apply pw_below_drewN | apply below_drew1) | exact HB.out)⟩⟩
        case round =>
          clear H'
          try clear c1
          try clear p1
          try clear q1
          try clear hx1
          try clear p2
          try clear c4
          try clear c4b0
          try clear c5
          try clear c5b0
          try clear p6
          try clear c7
          try clear c7b0
          try clear c7b1
          try clear c7b2
          try clear c8
          try clear c8b0
          try clear c8b1
          try clear c8b2
          try clear hx127_0
          try clear p127
          try clear p2
          try clear q127
          obtain ⟨x7_2, x9_2, rfl, rfl, HA, HK2, HO_4, HO_5, HB⟩ := hrel
          cases gk with
          | zero => exact absurd HA.out (by simp [laws_refFilter.l1])
          | succ k2 =>
            have H := HA.out
            clear HA
            simp only [laws_refFilter.l1] at H
            by_cases c11 : x9_2 < (t121.length : Int)
            · rw [if_pos c11] at H
              have c11b0 : decide (x9_2 < (t121.length : Int)) = true := decide_eq_true c11
              clear c11
              by_cases c12 : 0 ≤ x9_2
              · rw [if_pos c12] at H
                have c12b0 : decide (0 ≤ x9_2) = true := decide_eq_true c12
                clear c12
                by_cases c13 : (rdOf ByteArray.empty t121 x9_2).size + 1 ≤ 9223372036854775807
                · rw [if_pos c13] at H
                  have c13b0 := eq_true c13
                  have c13b1 : decide ((rdOf ByteArray.empty t121 x9_2).size + 1 ≤ 9223372036854775807) = true := decide_eq_true c13
                  try have c13b2 : (9223372036854775807 < (rdOf ByteArray.empty t121 x9_2).size + 1) = False := eq_false (Nat.not_lt.2 c13)
                  have c13z := c13
                  (try simp only [ByteArray.size_append, show ∀ x_ : UInt8, (⟨#[x_]⟩ : ByteArray).size = 1 from fun _ => rfl] at c13z)
                  by_cases c14 : x7_2.size + ((rdOf ByteArray.empty t121 x9_2) ++ (⟨#[59]⟩ : ByteArray)).size ≤ 9223372036854775807
                  · rw [if_pos c14] at H
                    have c14b0 := eq_true c14
                    have c14b1 : decide (x7_2.size + ((rdOf ByteArray.empty t121 x9_2) ++ (⟨#[59]⟩ : ByteArray)).size ≤ 9223372036854775807) = true := decide_eq_true c14
                    try have c14b2 : (9223372036854775807 < x7_2.size + ((rdOf ByteArray.empty t121 x9_2) ++ (⟨#[59]⟩ : ByteArray)).size) = False := eq_false (Nat.not_lt.2 c14)
                    have c14z := c14
                    (try simp only [ByteArray.size_append, show ∀ x_ : UInt8, (⟨#[x_]⟩ : ByteArray).size = 1 from fun _ => rfl] at c14z)
                    have H' := Aside0.mk H
                    clear H
                    obtain ⟨Ao15, co15, eo15⟩ := Kd.R_slice HO_5.out
                    subst eo15
                    have p129 : 0 ≤ (x9_2 : Int) := of_decide_eq_true (by first | (with_reducible assumption) | assumption)
                    have q129 : x9_2 < (t121.length : Int) := of_decide_eq_true (by first | (with_reducible assumption) | assumption)
                    obtain ⟨ad129, e129, hx129_0⟩ := Kd.at_string (Kd.R_reads' HO_5.out).2.2 x9_2 p129 q129
                    cases e129
                    replace p129 := eq_true p129
                    replace q129 := eq_true q129
                    go_wp2
                    go_roundg k2
                    case measure => have := HK1.out; have := HK2.out; omega
                    case rel => exact ⟨(x7_2 ++ ((rdOf ByteArray.empty t121 x9_2) ++ (⟨#[59]⟩ : ByteArray))), (wrap64 (x9_2 + 1)), (by first | rfl | (simp; done) | (simp [*]; done)), (by first | rfl | (simp; done) | (simp [*]; done)), H', ⟨by have := HK1.out; have := HK2.out; omega⟩, ⟨by (with_reducible repeat (first | apply Kd.R_alloc | apply Kd.R_drewN | apply Kd.R_drew)); exact HO_4.out⟩, ⟨by (with_reducible repeat (first | apply Kd.R_alloc | apply Kd.R_drewN | apply Kd.R_drew)); exact HO_5.out⟩, ⟨by repeat (first | (with_reducible first | exact HB.out | apply below_alloc | apply pw_below_drewN | apply below_drew1) | exact HB.out)⟩⟩
                  · rw [if_neg c14] at H
                    exact absurd H (by simp)
                · rw [if_neg c13] at H
                  exact absurd H (by simp)
              · rw [if_neg c12] at H
                exact absurd H (by simp)
            · rw [if_neg c11] at H
              have c11b0 : decide (x9_2 < (t121.length : Int)) = false := decide_eq_false c11
              clear c11
              by_cases c16 : t122 = true
              · subst c16
                have H1 : (some (x7_2, decide ((t120.length : Int) > 0))) = some (r1, r2) := by rw [if_pos rfl] at H; exact H
                clear H
                have H := H1
                clear H1
                simp only [Option.some.injEq, Prod.mk.injEq] at H
                obtain ⟨rfl, rfl⟩ := H
                obtain ⟨Ao17, co17, eo17⟩ := Kd.R_slice HO_5.out
                subst eo17
                go_wp2
                go_ret2
                exact ⟨by first | rfl | (simp [errW_none, errW_some] <;> rfl) | (simp [*, errW_none, errW_some] <;> rfl), by repeat (first | (with_reducible first | exact HB.out | apply below_alloc | apply pw_below_drewN | apply below_drew1) | exact HB.out)⟩
              · replace c16 := Bool.eq_false_iff.mpr c16
                subst c16
                have H1 : (some (x7_2, false)) = some (r1, r2) := by rw [if_neg (show ¬ (false = true) by decide)] at H; exact H
                clear H
                have H := H1
                clear H1
                simp only [Option.some.injEq, Prod.mk.injEq] at H
                obtain ⟨rfl, rfl⟩ := H
                obtain ⟨Ao18, co18, eo18⟩ := Kd.R_slice HO_5.out
                subst eo18
                go_wp2
                go_ret2
                exact ⟨by first | rfl | (simp [errW_none, errW_some] <;> rfl) | (simp [*, errW_none, errW_some] <;> rfl), by repeat (first | (with_reducible first | exact HB.out | apply below_alloc | apply pw_below_drewN | apply below_drew1) | exact HB.out)⟩

end Go.Proofs.YtjefbpfpobgmaaaDoor.PFx
