/- Contracts of functions that the text "Lv" uses: the call ends in what the plain Lean function says, where that says something. Written by a program of this session. No conditions. -/
import Derived.Test.YtjefbpfpobgmaaaPLvx0
import Derived.Test.YtjefbpfpobgmaaaPLvx8
namespace Go.Proofs.Ytjefbpfpobgmaaa.PLv
open Go.RowKit Go.Proofs.YtjefbpfpobgmaaaW.PrintWords Go.Proofs.YtjefbpfpobgmaaaW.PrintLast Go.Proofs.YtjefbpfpobgmaaaW.PrintMore
attribute [local go_sem] Go.Proofs.Ytjefbpfpobgmaaa.Flt.run_store_float max2_int min2_int max_two min_two max_three min_three max_four min_four   -- for this text's walks alone
set_option linter.unusedVariables false
set_option linter.unusedSimpArgs false

/-! ### laws_refLines: function 10 -/
mutual
def laws_refLines.l0 : Nat → List Int → List (S34) → Int → Int → Option ((List (S34)))
  | 0, _, _, _, _ => none
  | k + 1, x0, x3, x4, x5 => if (wrap64 (x5 + 1)) < (x0.length : Int) then (laws_refLines.j1 k x0 x3 x4 x5 (decide (x5 < 12))) else (laws_refLines.j1 k x0 x3 x4 x5 false)
def laws_refLines.j1 : Nat → List Int → List (S34) → Int → Int → Bool → Option ((List (S34)))
  | 0, _, _, _, _, _ => none
  | k + 1, x0, x3, x4, x5, x15 => if x15 = true then (if 0 ≤ x5 then (if x5 < (x0.length : Int) then ((laws_gridNumber.f (rd x0 x5) 4).bind fun t149 => (if 0 ≤ (wrap64 (x5 + 1)) then (if (wrap64 (x5 + 1)) < (x0.length : Int) then ((laws_gridNumber.f (wrap64 (Int.tdiv (rd x0 (wrap64 (x5 + 1))) 5)) 4).bind fun t151 => ((laws_gridNumber.f (wrap64 (Int.tdiv (rd x0 (wrap64 (x5 + 1))) 25)) 3).bind fun t153 => ((laws_gridNumber.f (rd x0 (wrap64 (x5 + 1))) 4).bind fun t157 => (if x3.length < 2932031007402 then (laws_refLines.l0 k x0 (x3 ++ [(⟨wrap64 (x4 + t149), wrap64 ((wrap64 ((wrap64 (x4 + t149)) + t157)) - 1), wrap64 (t151 - 1), wrap64 (t153 - 1), 0, ((Go.bits .and .i64 (rd x0 (wrap64 (x5 + 1))) 1) == 1), false⟩ : S34)]) (wrap64 ((wrap64 ((wrap64 (x4 + t149)) + t157)) - 1)) (wrap64 (x5 + 2))) else (none))))) else (none)) else (none))) else (none)) else (none)) else (some x3)
end
def laws_refLines.f (k : Nat) (l0 : List Int) : Option ((List (S34))) := laws_refLines.l0 k l0 ([] : List (S34)) 0 0
theorem laws_refLines.mono_l : ∀ k, (∀ y0 y1 y2 y3, LeO (laws_refLines.l0 k y0 y1 y2 y3) (laws_refLines.l0 (k + 1) y0 y1 y2 y3)) ∧ (∀ y0 y1 y2 y3 y4, LeO (laws_refLines.j1 k y0 y1 y2 y3 y4) (laws_refLines.j1 (k + 1) y0 y1 y2 y3 y4))
  | 0 => ⟨fun _ _ _ _ r h => by simp [laws_refLines.l0] at h, fun _ _ _ _ _ r h => by simp [laws_refLines.j1] at h⟩
  | k + 1 => by
    obtain ⟨ih0, ih1⟩ := laws_refLines.mono_l k
    refine ⟨?_, ?_⟩
    · intro y0 y1 y2 y3
      unfold laws_refLines.l0
      repeat' first
      | (with_reducible exact ih0 _ _ _ _)
      | (with_reducible exact ih1 _ _ _ _ _)
      | (with_reducible exact LeO.refl _)
      | (with_reducible exact LeO.none _)
      | (with_reducible refine LeO.ite ?_ ?_)
      | (with_reducible refine LeO.bind ?_ (fun _ => ?_))
      | exact ih0 _ _ _ _
      | exact ih1 _ _ _ _ _
      | exact LeO.none _
      | refine LeO.ite ?_ ?_
      | refine LeO.bind ?_ (fun _ => ?_)
    · intro y0 y1 y2 y3 y4
      unfold laws_refLines.j1
      repeat' first
      | (with_reducible exact ih0 _ _ _ _)
      | (with_reducible exact ih1 _ _ _ _ _)
      | (with_reducible exact LeO.refl _)
      | (with_reducible exact LeO.none _)
      | (with_reducible refine LeO.ite ?_ ?_)
      | (with_reducible refine LeO.bind ?_ (fun _ => ?_))
      | exact ih0 _ _ _ _
      | exact ih1 _ _ _ _ _
      | exact LeO.none _
      | refine LeO.ite ?_ ?_
      | refine LeO.bind ?_ (fun _ => ?_)
theorem laws_refLines.mono : ∀ a0 k, LeO (laws_refLines.f k a0) (laws_refLines.f (k + 1) a0) := by
  intro a0 k
  obtain ⟨ih0, ih1⟩ := laws_refLines.mono_l k
  unfold laws_refLines.f
  repeat' first
      | (with_reducible exact ih0 _ _ _ _)
      | (with_reducible exact ih1 _ _ _ _ _)
      | (with_reducible exact LeO.refl _)
      | (with_reducible exact LeO.none _)
      | (with_reducible refine LeO.ite ?_ ?_)
      | (with_reducible refine LeO.bind ?_ (fun _ => ?_))
      | exact ih0 _ _ _ _
      | exact ih1 _ _ _ _ _
      | exact LeO.none _
      | refine LeO.ite ?_ ?_
      | refine LeO.bind ?_ (fun _ => ?_)
def laws_refLines.T6 : Bool × List (List Nat × List Nat) := (true, [([], []), ([], []), ([], []), ([1, 2], [1, 2]), ([3], [3]), ([4], [4]), ([0, 5], [0, 5]), ([], []), ([], []), ([8], [8]), ([7, 9], [7, 9]), ([10], [10]), ([11], [11]), ([12, 5], [12]), ([13], [13]), ([], []), ([], []), ([16], [16]), ([15, 17], [15, 17]), ([18], [18]), ([19], [19]), ([20, 13], [20]), ([21], [21]), ([], []), ([], []), ([24], [24]), ([23, 25], [23, 25]), ([26], [26]), ([27], [27]), ([28], [28]), ([6, 14, 22, 29], [6, 14, 22, 29]), ([], []), ([31, 30, 21, 0, 1, 2, 3, 4, 5, 6, 7, 8, 9, 10, 11, 12, 13, 14, 15, 16, 17, 18, 19, 20, 21, 22, 23, 24, 25, 26, 27, 28, 29, 30, 31], [30, 31])])
def laws_refLines.B6 : List Nat := [0, 0, 0, 6, 14, 30, 63, 0, 0, 256, 896, 1920, 3968, 8126, 16318, 0, 0, 65536, 229376, 491520, 1015808, 2080702, 4177854, 0, 0, 16777216, 58720256, 125829120, 260046848, 528482304, 1073741823, 0, 4294967295]
theorem laws_refLines.tab6 : rtab .any (opsOf Try.f10 6) = laws_refLines.T6 := by kernel_rfl
theorem laws_refLines.bits6 : waitsOk laws_refLines.T6.2 laws_refLines.B6 = true := by kernel_rfl
def laws_refLines.T7 : Bool × List (List Nat × List Nat) := (true, [([], []), ([0], [0]), ([], []), ([], []), ([3], [3]), ([2, 4], [2, 4]), ([5], [5]), ([6], [6]), ([1, 7], [1, 7]), ([8], [8]), ([0, 1, 2, 3, 4, 5, 6, 7, 8, 9], []), ([10, 9, 7, 0, 1, 2, 3, 4, 5, 6, 7, 8, 9], [9, 10])])
def laws_refLines.B7 : List Nat := [0, 1, 0, 0, 8, 28, 60, 124, 255, 511, 1023, 2047]
theorem laws_refLines.tab7 : rtab .any (opsOf Try.f10 7) = laws_refLines.T7 := by kernel_rfl
theorem laws_refLines.bits7 : waitsOk laws_refLines.T7.2 laws_refLines.B7 = true := by kernel_rfl
set_option maxHeartbeats 8000000 in
set_option maxRecDepth 100000 in
theorem laws_refLines.calls (k : Nat) (A0 : Option Addr) (c0 : Nat) (l0 : List Int) (r : List (S34)) (w : World) (hr0 : Kd.C (Kd.int .i64) w A0 l0.length l0) (hc0 : l0.length ≤ c0) (h : laws_refLines.f k l0 = some r) :
    Calls Try.prog 10 #[.slice A0 l0.length c0] w fun e w' => ∃ v0_ : Value, e = .returned (v0_) ∧ Kd.R k34 34 w' w.heap.size (fun _ => True) v0_ r ∧ Below w.heap.size w w' := by
  have hu34 := Try.underlying34
  have HR0 := Aside0.mk hr0
  have HC0 := Aside0.mk hc0
  clear hr0 hc0
  have HB := Aside0.mk (Below.refl w.heap.size w)
  have H : (laws_refLines.l0 k l0 ([] : List (S34)) 0 0) = some r := h
  clear h
  have H' := Aside0.mk H
  clear H
  go_enter Try.func10, Try.ntmps10
  go_wp2
  go_loopg [3, 4, 5] k (fun kq v3 v4 v5 w' => ∃ (x3_1 : List (S34)) (x4_1 : Int) (x5_1 : Int), v4 = .int .i64 x4_1 ∧ v5 = .int .i64 x5_1 ∧ Aside0 (laws_refLines.l0 kq l0 x3_1 x4_1 x5_1 = some r) ∧ Aside0 (kq ≤ k) ∧ Aside0 (Kd.R k34 34 w' w.heap.size (fun _ => True) v3 x3_1) ∧ Aside0 (Below w.heap.size w w'))
  case atStart => exact ⟨(([] : List (S34))), (0), (0), (by first | rfl | (simp; done) | (simp [*]; done)), (by first | rfl | (simp; done) | (simp [*]; done)), H', ⟨Nat.le_refl _⟩, ⟨by first | exact Kd.R_nil _ _ _ _ _ | exact Kd.N_nil _ _ _ _ _ | exact Kd.V_nil _ _ _ _ _ | exact Kd.Q_nil _ _ _ _ _ | exact Kd.S_nil _ _ _ _ _⟩, ⟨by repeat (first | (with_reducible first | exact HB.out | apply below_alloc | apply pw_below_drewN | apply below_drew1) | exact HB.out)⟩⟩
  case round =>
    clear H'
    try clear c1
    obtain ⟨x3_1, x4_1, x5_1, rfl, rfl, HA, HK1, HO_3, HB⟩ := hrel
    cases gk with
    | zero => exact absurd HA.out (by simp [laws_refLines.l0])
    | succ k1 =>
      have H := HA.out
      clear HA
      simp only [laws_refLines.l0] at H
      have HC2 := Aside0.mk H
      clear H
      go_upto_region 4 with (fail)
      go_cut [15] (fun v15 wc => ∃ (kq : Nat) (x15_1 : Bool), v15 = .bool x15_1 ∧ Aside0 (laws_refLines.j1 kq l0 x3_1 x4_1 x5_1 x15_1 = some r) ∧ Aside0 (kq ≤ k1) ∧ Aside0 (Kd.R k34 34 wc w.heap.size (fun _ => True) u3 x3_1) ∧ Aside0 (Below w.heap.size w wc))
      case first =>
        have H := HC2.out
        clear HC2
        by_cases c3 : (wrap64 (x5_1 + 1)) < (l0.length : Int)
        · rw [if_pos c3] at H
          have c3b0 : decide ((wrap64 (x5_1 + 1)) < (l0.length : Int)) = true := decide_eq_true c3
          clear c3
          (first | rw [c3b0] | (simp only [i64_w, i32_w]; rw [c3b0]) | skip)
          have H' := Aside0.mk H
          clear H
          go_wp2
          go_meet
          case rel => exact ⟨_, (decide (x5_1 < 12)), (by first | rfl | (simp; done) | (simp [*]; done)), H', ⟨by have := HK1.out; first | omega | exact Nat.le_refl _⟩, ⟨by (with_reducible repeat (first | apply Kd.R_alloc | apply Kd.R_drewN | apply Kd.R_drew)); exact HO_3.out⟩, ⟨by repeat (first | (with_reducible first | exact HB.out | apply below_alloc | apply pw_below_drewN | apply below_drew1) | exact HB.out)⟩⟩
        · rw [if_neg c3] at H
          have c3b0 : decide ((wrap64 (x5_1 + 1)) < (l0.length : Int)) = false := decide_eq_false c3
          clear c3
          (first | rw [c3b0] | (simp only [i64_w, i32_w]; rw [c3b0]) | skip)
          have H' := Aside0.mk H
          clear H
          go_wp2
          go_meet
          case rel => exact ⟨_, (false), (by first | rfl | (simp; done) | (simp [*]; done)), H', ⟨by have := HK1.out; first | omega | exact Nat.le_refl _⟩, ⟨by (with_reducible repeat (first | apply Kd.R_alloc | apply Kd.R_drewN | apply Kd.R_drew)); exact HO_3.out⟩, ⟨by repeat (first | (with_reducible first | exact HB.out | apply below_alloc | apply pw_below_drewN | apply below_drew1) | exact HB.out)⟩⟩
      case rest =>
        clear HC2
        try clear c1
        try clear p2
        try clear c3
        try clear c3b0
        obtain ⟨kq, x15_1, rfl, HA, HJ1, HO_3, HB⟩ := hcut
        cases kq with
        | zero => exact absurd HA.out (by simp [laws_refLines.j1])
        | succ kj1 =>
          have H := HA.out
          clear HA
          simp only [laws_refLines.j1] at H
          by_cases c4 : x15_1 = true
          · subst c4
            have H1 : (if 0 ≤ x5_1 then (if x5_1 < (l0.length : Int) then ((laws_gridNumber.f (rd l0 x5_1) 4).bind fun t149 => (if 0 ≤ (wrap64 (x5_1 + 1)) then (if (wrap64 (x5_1 + 1)) < (l0.length : Int) then ((laws_gridNumber.f (wrap64 (Int.tdiv (rd l0 (wrap64 (x5_1 + 1))) 5)) 4).bind fun t151 => ((laws_gridNumber.f (wrap64 (Int.tdiv (rd l0 (wrap64 (x5_1 + 1))) 25)) 3).bind fun t153 => ((laws_gridNumber.f (rd l0 (wrap64 (x5_1 + 1))) 4).bind fun t157 => (if x3_1.length < 2932031007402 then (laws_refLines.l0 kj1 l0 (x3_1 ++ [(⟨wrap64 (x4_1 + t149), wrap64 ((wrap64 ((wrap64 (x4_1 + t149)) + t157)) - 1), wrap64 (t151 - 1), wrap64 (t153 - 1), 0, ((Go.bits .and .i64 (rd l0 (wrap64 (x5_1 + 1))) 1) == 1), false⟩ : S34)]) (wrap64 ((wrap64 ((wrap64 (x4_1 + t149)) + t157)) - 1)) (wrap64 (x5_1 + 2))) else (none))))) else (none)) else (none))) else (none)) else (none)) = some r := by rw [if_pos rfl] at H; exact H
            clear H
            have H := H1
            clear H1
            by_cases c5 : 0 ≤ x5_1
            · rw [if_pos c5] at H
              have c5b0 : decide (0 ≤ x5_1) = true := decide_eq_true c5
              clear c5
              by_cases c6 : x5_1 < (l0.length : Int)
              · rw [if_pos c6] at H
                have c6b0 : decide (x5_1 < (l0.length : Int)) = true := decide_eq_true c6
                clear c6
                replace H := Option.bind_eq_some_iff.mp H
                obtain ⟨t149, A70, H⟩ := H
                replace H : (if 0 ≤ (wrap64 (x5_1 + 1)) then (if (wrap64 (x5_1 + 1)) < (l0.length : Int) then ((laws_gridNumber.f (wrap64 (Int.tdiv (rd l0 (wrap64 (x5_1 + 1))) 5)) 4).bind fun t151 => ((laws_gridNumber.f (wrap64 (Int.tdiv (rd l0 (wrap64 (x5_1 + 1))) 25)) 3).bind fun t153 => ((laws_gridNumber.f (rd l0 (wrap64 (x5_1 + 1))) 4).bind fun t157 => (if x3_1.length < 2932031007402 then (laws_refLines.l0 kj1 l0 (x3_1 ++ [(⟨wrap64 (x4_1 + t149), wrap64 ((wrap64 ((wrap64 (x4_1 + t149)) + t157)) - 1), wrap64 (t151 - 1), wrap64 (t153 - 1), 0, ((Go.bits .and .i64 (rd l0 (wrap64 (x5_1 + 1))) 1) == 1), false⟩ : S34)]) (wrap64 ((wrap64 ((wrap64 (x4_1 + t149)) + t157)) - 1)) (wrap64 (x5_1 + 2))) else (none))))) else (none)) else (none)) = some r := H
                have A7 := Aside0.mk A70
                clear A70
                obtain ⟨ji8, hji8⟩ : ∃ j_ : Int, (wrap64 (x5_1 + 1)) = j_ := ⟨_, rfl⟩
                replace H : (if 0 ≤ (ji8) then (if (ji8) < (l0.length : Int) then ((laws_gridNumber.f (wrap64 (Int.tdiv (rd l0 (ji8)) 5)) 4).bind fun t151 => ((laws_gridNumber.f (wrap64 (Int.tdiv (rd l0 (ji8)) 25)) 3).bind fun t153 => ((laws_gridNumber.f (rd l0 (ji8)) 4).bind fun t157 => (if x3_1.length < 2932031007402 then (laws_refLines.l0 kj1 l0 (x3_1 ++ [(⟨wrap64 (x4_1 + t149), wrap64 ((wrap64 ((wrap64 (x4_1 + t149)) + t157)) - 1), wrap64 (t151 - 1), wrap64 (t153 - 1), 0, ((Go.bits .and .i64 (rd l0 (ji8)) 1) == 1), false⟩ : S34)]) (wrap64 ((wrap64 ((wrap64 (x4_1 + t149)) + t157)) - 1)) (wrap64 (x5_1 + 2))) else (none))))) else (none)) else (none)) = some r := by first | (rw [hji8] at H; exact H) | (simp only [hji8] at H ⊢; exact H)
                (try rw [hji8] at A7)
                have hji8w : (IntKind.i64.wrap (x5_1 + 1)) = ji8 := (i64_w _).trans hji8
                by_cases c9 : 0 ≤ (ji8)
                · rw [if_pos c9] at H
                  have c9b0 : decide (0 ≤ (ji8)) = true := decide_eq_true c9
                  clear c9
                  by_cases c10 : (ji8) < (l0.length : Int)
                  · rw [if_pos c10] at H
                    have c10b0 : decide ((ji8) < (l0.length : Int)) = true := decide_eq_true c10
                    clear c10
                    replace H := Option.bind_eq_some_iff.mp H
                    obtain ⟨t151, A110, H⟩ := H
                    replace H : ((laws_gridNumber.f (wrap64 (Int.tdiv (rd l0 (ji8)) 25)) 3).bind fun t153 => ((laws_gridNumber.f (rd l0 (ji8)) 4).bind fun t157 => (if x3_1.length < 2932031007402 then (laws_refLines.l0 kj1 l0 (x3_1 ++ [(⟨wrap64 (x4_1 + t149), wrap64 ((wrap64 ((wrap64 (x4_1 + t149)) + t157)) - 1), wrap64 (t151 - 1), wrap64 (t153 - 1), 0, ((Go.bits .and .i64 (rd l0 (ji8)) 1) == 1), false⟩ : S34)]) (wrap64 ((wrap64 ((wrap64 (x4_1 + t149)) + t157)) - 1)) (wrap64 (x5_1 + 2))) else (none)))) = some r := H
                    have A11 := Aside0.mk A110
                    clear A110
                    replace H := Option.bind_eq_some_iff.mp H
                    obtain ⟨t153, A120, H⟩ := H
                    replace H : ((laws_gridNumber.f (rd l0 (ji8)) 4).bind fun t157 => (if x3_1.length < 2932031007402 then (laws_refLines.l0 kj1 l0 (x3_1 ++ [(⟨wrap64 (x4_1 + t149), wrap64 ((wrap64 ((wrap64 (x4_1 + t149)) + t157)) - 1), wrap64 (t151 - 1), wrap64 (t153 - 1), 0, ((Go.bits .and .i64 (rd l0 (ji8)) 1) == 1), false⟩ : S34)]) (wrap64 ((wrap64 ((wrap64 (x4_1 + t149)) + t157)) - 1)) (wrap64 (x5_1 + 2))) else (none))) = some r := H
                    have A12 := Aside0.mk A120
                    clear A120
                    replace H := Option.bind_eq_some_iff.mp H
                    obtain ⟨t157, A130, H⟩ := H
                    replace H : (if x3_1.length < 2932031007402 then (laws_refLines.l0 kj1 l0 (x3_1 ++ [(⟨wrap64 (x4_1 + t149), wrap64 ((wrap64 ((wrap64 (x4_1 + t149)) + t157)) - 1), wrap64 (t151 - 1), wrap64 (t153 - 1), 0, ((Go.bits .and .i64 (rd l0 (ji8)) 1) == 1), false⟩ : S34)]) (wrap64 ((wrap64 ((wrap64 (x4_1 + t149)) + t157)) - 1)) (wrap64 (x5_1 + 2))) else (none)) = some r := H
                    have A13 := Aside0.mk A130
                    clear A130
                    by_cases c14 : x3_1.length < 2932031007402
                    · rw [if_pos c14] at H
                      have LMc14 := Aside0.mk c14
                      clear c14
                      obtain ⟨y158, hy158⟩ : ∃ y_ : List (S34), y_ = (x3_1 ++ [(⟨wrap64 (x4_1 + t149), wrap64 ((wrap64 ((wrap64 (x4_1 + t149)) + t157)) - 1), wrap64 (t151 - 1), wrap64 (t153 - 1), 0, ((Go.bits .and .i64 (rd l0 (ji8)) 1) == 1), false⟩ : S34)]) := ⟨_, rfl⟩
                      replace H : (laws_refLines.l0 kj1 l0 y158 (wrap64 ((wrap64 ((wrap64 (x4_1 + t149)) + t157)) - 1)) (wrap64 (x5_1 + 2))) = some r := by first | (rw [hy158]; with_reducible exact H) | (have H2_ := (Option.bind_some _ _).symm.trans H; rw [hy158]; with_reducible exact H2_) | (have H2_ := (Option.bind_some _ _).symm.trans H; with_reducible exact H2_) | with_reducible exact H | (rw [hy158]; exact H) | exact H
                      have Ny158 := Aside0.mk hy158
                      clear hy158
                      have H' := Aside0.mk H
                      clear H
                      try go_wp2
                      have n0_ := Aside0.mk (Kd.R_drew HO_3.out)
                      have n1_ := Aside0.mk (below_drew1 HB.out)
                      clear HO_3
                      clear HB
                      have HO_3 := n0_
                      have HB := n1_
                      clear n0_ n1_
                      have p148 : 0 ≤ (x5_1 : Int) := of_decide_eq_true (by first | (with_reducible assumption) | assumption)
                      have q148 : x5_1 < (l0.length : Int) := of_decide_eq_true (by first | (with_reducible assumption) | assumption)
                      obtain ⟨ad148, e148, hx148_0⟩ := Kd.at_int HR0.out x5_1 p148 q148
                      have hw148_0 := hx148_0
                      cases e148
                      replace hx148_0 := (HB.out.cell (World.block_lt_of_cell? w _ hx148_0)).trans hx148_0
                      replace p148 := eq_true p148
                      replace q148 := eq_true q148
                      have p150 : 0 ≤ ((ji8) : Int) := of_decide_eq_true (by first | (with_reducible assumption) | assumption)
                      have q150 : (ji8) < (l0.length : Int) := of_decide_eq_true (by first | (with_reducible assumption) | assumption)
                      obtain ⟨ad150, e150, hx150_0⟩ := Kd.at_int HR0.out (ji8) p150 q150
                      have hw150_0 := hx150_0
                      obtain rfl : ad148 = ad150 := (by injection e150)
                      replace hx150_0 := (HB.out.cell (World.block_lt_of_cell? w _ hx150_0)).trans hx150_0
                      replace p150 := eq_true p150
                      replace q150 := eq_true q150
                      have p152 : 0 ≤ ((ji8) : Int) := of_decide_eq_true (by first | (with_reducible assumption) | assumption)
                      have q152 : (ji8) < (l0.length : Int) := of_decide_eq_true (by first | (with_reducible assumption) | assumption)
                      obtain ⟨ad152, e152, hx152_0⟩ := Kd.at_int HR0.out (ji8) p152 q152
                      have hw152_0 := hx152_0
                      obtain rfl : ad148 = ad152 := (by injection e152)
                      replace hx152_0 := (HB.out.cell (World.block_lt_of_cell? w _ hx152_0)).trans hx152_0
                      replace p152 := eq_true p152
                      replace q152 := eq_true q152
                      have p154 : 0 ≤ ((ji8) : Int) := of_decide_eq_true (by first | (with_reducible assumption) | assumption)
                      have q154 : (ji8) < (l0.length : Int) := of_decide_eq_true (by first | (with_reducible assumption) | assumption)
                      obtain ⟨ad154, e154, hx154_0⟩ := Kd.at_int HR0.out (ji8) p154 q154
                      have hw154_0 := hx154_0
                      obtain rfl : ad148 = ad154 := (by injection e154)
                      replace hx154_0 := (HB.out.cell (World.block_lt_of_cell? w _ hx154_0)).trans hx154_0
                      replace p154 := eq_true p154
                      replace q154 := eq_true q154
                      refine start_ (n := 33) (S := fun w' => w'.cell? (ad148.add (x5_1).toNat) = some (.int .i64 (rd l0 x5_1)) ∧ w'.cell? (ad148.add ((ji8)).toNat) = some (.int .i64 (rd l0 (ji8))) ∧ w'.cell? (ad148.add ((ji8)).toNat) = some (.int .i64 (rd l0 (ji8))) ∧ w'.cell? (ad148.add ((ji8)).toNat) = some (.int .i64 (rd l0 (ji8)))) (ds := []) #[false, false, false, false, false, false, false, false, false, false, false, false, false, false, false, false, false, false, false, false, false, false, false, false, false, false, false, false, false, false, false, false, false] (by kernel_rfl) rfl rfl ⟨((HB.out.cell (World.block_lt_of_cell? w _ hw148_0)).trans hw148_0), ((HB.out.cell (World.block_lt_of_cell? w _ hw150_0)).trans hw150_0), ((HB.out.cell (World.block_lt_of_cell? w _ hw152_0)).trans hw152_0), ((HB.out.cell (World.block_lt_of_cell? w _ hw154_0)).trans hw154_0)⟩ (fun hHeld => ?_); refine with_tabW laws_refLines.tab6 laws_refLines.bits6 (fun HT_ HW_ => ?_)
                      generalize wc.drew = w15 at HO_3 HB hx148_0 hx150_0 hx152_0 hx154_0 hHeld ⊢
                      refine pure_ (i := 0) (N := some 18) (v := ?_) (a' := ?_) #[true, false, false, false, false, false, false, false, false, false, false, false, false, false, false, false, false, false, false, false, false, false, false, false, false, false, false, false, false, false, false, false, false] rfl rfl (any_of HT_.out (by kernel_rfl)) (fun _ _ _ h => h) (Or.inl ⟨by rfl, ?_⟩) ?_ ?_
                      rotate_left
                      · intro w'
                        go_simp
                        with_reducible rfl
                      rotate_left
                      · simp only [Act.put, List.setIfInBounds_toArray, List.set_cons_zero, List.set_cons_succ, i64_w, i32_w]
                        rfl
                      refine pure_ (i := 1) (N := some 19) (v := ?_) (a' := ?_) #[true, true, false, false, false, false, false, false, false, false, false, false, false, false, false, false, false, false, false, false, false, false, false, false, false, false, false, false, false, false, false, false, false] rfl rfl (any_of HT_.out (by kernel_rfl)) (fun _ _ _ h => h) (Or.inl ⟨by rfl, ?_⟩) ?_ ?_
                      rotate_left
                      · intro w'
                        go_simp
                        with_reducible rfl
                      rotate_left
                      · simp only [Act.put, List.setIfInBounds_toArray, List.set_cons_zero, List.set_cons_succ, i64_w, i32_w]
                        rfl
                      refine pure_ (i := 2) (N := some 20) (v := ?_) (a' := ?_) #[true, true, true, false, false, false, false, false, false, false, false, false, false, false, false, false, false, false, false, false, false, false, false, false, false, false, false, false, false, false, false, false, false] rfl rfl (any_of HT_.out (by kernel_rfl)) (fun _ _ _ h => h) (Or.inl ⟨by rfl, ?_⟩) ?_ ?_
                      rotate_left
                      · intro w'
                        go_simp
                        with_reducible rfl
                      rotate_left
                      · simp only [Act.put, List.setIfInBounds_toArray, List.set_cons_zero, List.set_cons_succ, i64_w, i32_w]
                        rfl
                      refine pure_ (i := 3) (N := some 21) (v := ?_) (a' := ?_) #[true, true, true, true, false, false, false, false, false, false, false, false, false, false, false, false, false, false, false, false, false, false, false, false, false, false, false, false, false, false, false, false, false] rfl rfl (any_of HT_.out (by kernel_rfl)) (fun _ _ _ h => h) (Or.inl ⟨by rfl, ?_⟩) ?_ ?_
                      rotate_left
                      · intro w'
                        go_simp
                        with_reducible rfl
                      rotate_left
                      · simp only [Act.put, List.setIfInBounds_toArray, List.set_cons_zero, List.set_cons_succ, i64_w, i32_w]
                        rfl
                      refine pure_ (i := 7) (N := some 25) (v := ?_) (a' := ?_) #[true, true, true, true, false, false, false, true, false, false, false, false, false, false, false, false, false, false, false, false, false, false, false, false, false, false, false, false, false, false, false, false, false] rfl rfl (any_of HT_.out (by kernel_rfl)) (fun _ _ _ h => h) (Or.inl ⟨by rfl, ?_⟩) ?_ ?_
                      rotate_left
                      · intro w'
                        go_simp
                        with_reducible rfl
                      rotate_left
                      · simp only [Act.put, List.setIfInBounds_toArray, List.set_cons_zero, List.set_cons_succ, i64_w, i32_w]
                        rfl
                      refine pure_ (i := 8) (N := some 26) (v := ?_) (a' := ?_) #[true, true, true, true, false, false, false, true, true, false, false, false, false, false, false, false, false, false, false, false, false, false, false, false, false, false, false, false, false, false, false, false, false] rfl rfl (any_of HT_.out (by kernel_rfl)) (fun _ _ _ h => h) (Or.inl ⟨by rfl, ?_⟩) ?_ ?_
                      rotate_left
                      · intro w'
                        go_simp
                        with_reducible rfl
                      rotate_left
                      · simp only [Act.put, List.setIfInBounds_toArray, List.set_cons_zero, List.set_cons_succ, i64_w, i32_w]
                        rfl
                      refine pure_ (i := 9) (N := some 27) (v := ?_) (a' := ?_) #[true, true, true, true, false, false, false, true, true, true, false, false, false, false, false, false, false, false, false, false, false, false, false, false, false, false, false, false, false, false, false, false, false] rfl rfl (any_of HT_.out (by kernel_rfl)) (fun _ _ _ h => h) (Or.inl ⟨by rfl, ?_⟩) ?_ ?_
                      rotate_left
                      · intro w'
                        go_simp
                        with_reducible rfl
                      rotate_left
                      · simp only [Act.put, List.setIfInBounds_toArray, List.set_cons_zero, List.set_cons_succ, i64_w, i32_w]
                        rfl
                      refine pure_ (i := 10) (N := some 28) (v := ?_) (a' := ?_) #[true, true, true, true, false, false, false, true, true, true, true, false, false, false, false, false, false, false, false, false, false, false, false, false, false, false, false, false, false, false, false, false, false] rfl rfl (any_of HT_.out (by kernel_rfl)) (fun _ _ _ h => h) (Or.inl ⟨by rfl, ?_⟩) ?_ ?_
                      rotate_left
                      · intro w'
                        go_simp
                        with_reducible rfl
                      rotate_left
                      · simp only [Act.put, List.setIfInBounds_toArray, List.set_cons_zero, List.set_cons_succ, i64_w, i32_w]
                        rfl
                      refine pure_ (i := 15) (N := some 33) (v := ?_) (a' := ?_) #[true, true, true, true, false, false, false, true, true, true, true, false, false, false, false, true, false, false, false, false, false, false, false, false, false, false, false, false, false, false, false, false, false] rfl rfl (any_of HT_.out (by kernel_rfl)) (fun _ _ _ h => h) (Or.inl ⟨by rfl, ?_⟩) ?_ ?_
                      rotate_left
                      · intro w'
                        go_simp
                        with_reducible rfl
                      rotate_left
                      · simp only [Act.put, List.setIfInBounds_toArray, List.set_cons_zero, List.set_cons_succ, i64_w, i32_w]
                        rfl
                      refine pure_ (i := 16) (N := some 34) (v := ?_) (a' := ?_) #[true, true, true, true, false, false, false, true, true, true, true, false, false, false, false, true, true, false, false, false, false, false, false, false, false, false, false, false, false, false, false, false, false] rfl rfl (any_of HT_.out (by kernel_rfl)) (fun _ _ _ h => h) (Or.inl ⟨by rfl, ?_⟩) ?_ ?_
                      rotate_left
                      · intro w'
                        go_simp
                        with_reducible rfl
                      rotate_left
                      · simp only [Act.put, List.setIfInBounds_toArray, List.set_cons_zero, List.set_cons_succ, i64_w, i32_w]
                        rfl
                      refine pure_ (i := 17) (N := some 35) (v := ?_) (a' := ?_) #[true, true, true, true, false, false, false, true, true, true, true, false, false, false, false, true, true, true, false, false, false, false, false, false, false, false, false, false, false, false, false, false, false] rfl rfl (any_of HT_.out (by kernel_rfl)) (fun _ _ _ h => h) (Or.inl ⟨by rfl, ?_⟩) ?_ ?_
                      rotate_left
                      · intro w'
                        go_simp
                        with_reducible rfl
                      rotate_left
                      · simp only [Act.put, List.setIfInBounds_toArray, List.set_cons_zero, List.set_cons_succ, i64_w, i32_w]
                        rfl
                      refine pure_ (i := 18) (N := some 36) (v := ?_) (a' := ?_) #[true, true, true, true, false, false, false, true, true, true, true, false, false, false, false, true, true, true, true, false, false, false, false, false, false, false, false, false, false, false, false, false, false] rfl rfl (any_of HT_.out (by kernel_rfl)) (fun _ _ _ h => h) (Or.inl ⟨by rfl, ?_⟩) ?_ ?_
                      rotate_left
                      · intro w'
                        go_simp
                        with_reducible rfl
                      rotate_left
                      · simp only [Act.put, List.setIfInBounds_toArray, List.set_cons_zero, List.set_cons_succ, i64_w, i32_w]
                        rfl
                      refine pure_ (i := 23) (N := some 41) (v := ?_) (a' := ?_) #[true, true, true, true, false, false, false, true, true, true, true, false, false, false, false, true, true, true, true, false, false, false, false, true, false, false, false, false, false, false, false, false, false] rfl rfl (any_of HT_.out (by kernel_rfl)) (fun _ _ _ h => h) (Or.inl ⟨by rfl, ?_⟩) ?_ ?_
                      rotate_left
                      · intro w'
                        go_simp
                        with_reducible rfl
                      rotate_left
                      · simp only [Act.put, List.setIfInBounds_toArray, List.set_cons_zero, List.set_cons_succ, i64_w, i32_w]
                        rfl
                      refine pure_ (i := 24) (N := some 42) (v := ?_) (a' := ?_) #[true, true, true, true, false, false, false, true, true, true, true, false, false, false, false, true, true, true, true, false, false, false, false, true, true, false, false, false, false, false, false, false, false] rfl rfl (any_of HT_.out (by kernel_rfl)) (fun _ _ _ h => h) (Or.inl ⟨by rfl, ?_⟩) ?_ ?_
                      rotate_left
                      · intro w'
                        go_simp
                        with_reducible rfl
                      rotate_left
                      · simp only [Act.put, List.setIfInBounds_toArray, List.set_cons_zero, List.set_cons_succ, i64_w, i32_w]
                        rfl
                      refine pure_ (i := 25) (N := some 43) (v := ?_) (a' := ?_) #[true, true, true, true, false, false, false, true, true, true, true, false, false, false, false, true, true, true, true, false, false, false, false, true, true, true, false, false, false, false, false, false, false] rfl rfl (any_of HT_.out (by kernel_rfl)) (fun _ _ _ h => h) (Or.inl ⟨by rfl, ?_⟩) ?_ ?_
                      rotate_left
                      · intro w'
                        go_simp
                        with_reducible rfl
                      rotate_left
                      · simp only [Act.put, List.setIfInBounds_toArray, List.set_cons_zero, List.set_cons_succ, i64_w, i32_w]
                        rfl
                      refine pure_ (i := 26) (N := some 44) (v := ?_) (a' := ?_) #[true, true, true, true, false, false, false, true, true, true, true, false, false, false, false, true, true, true, true, false, false, false, false, true, true, true, true, false, false, false, false, false, false] rfl rfl (any_of HT_.out (by kernel_rfl)) (fun _ _ _ h => h) (Or.inl ⟨by rfl, ?_⟩) ?_ ?_
                      rotate_left
                      · intro w'
                        go_simp
                        with_reducible rfl
                      rotate_left
                      · simp only [Act.put, List.setIfInBounds_toArray, List.set_cons_zero, List.set_cons_succ, i64_w, i32_w]
                        rfl
                      refine take_ (i := 4) (N := some 22) (v := ?_) (a' := ?_) #[true, true, true, true, true, false, false, true, true, true, true, false, false, false, false, true, true, true, true, false, false, false, false, true, true, true, true, false, false, false, false, false, false] rfl rfl (take_ofW HT_.out HW_.out (by kernel_rfl)) (fun _ _ _ h => h) (Or.inl ⟨by rfl, ?_⟩) hHeld ?_ ?_
                      rotate_left
                      · rintro w' ⟨s0, s1, s2, s3⟩
                        go_simp
                        with_reducible rfl
                      rotate_left
                      · simp only [Act.put, List.setIfInBounds_toArray, List.set_cons_zero, List.set_cons_succ, i64_w, i32_w]
                        rfl
                      refine take_ (i := 11) (N := some 29) (v := ?_) (a' := ?_) #[true, true, true, true, true, false, false, true, true, true, true, true, false, false, false, true, true, true, true, false, false, false, false, true, true, true, true, false, false, false, false, false, false] rfl rfl (take_ofW HT_.out HW_.out (by kernel_rfl)) (fun _ _ _ h => h) (Or.inl ⟨by rfl, ?_⟩) hHeld ?_ ?_
                      rotate_left
                      · rintro w' ⟨s0, s1, s2, s3⟩
                        go_simp
                        with_reducible rfl
                      rotate_left
                      · simp only [Act.put, List.setIfInBounds_toArray, List.set_cons_zero, List.set_cons_succ, i64_w, i32_w]
                        rfl
                      refine pure_ (i := 12) (N := some 30) (v := ?_) (a' := ?_) #[true, true, true, true, true, false, false, true, true, true, true, true, true, false, false, true, true, true, true, false, false, false, false, true, true, true, true, false, false, false, false, false, false] rfl rfl (any_of HT_.out (by kernel_rfl)) (fun _ _ _ h => h) (Or.inl ⟨by rfl, ?_⟩) ?_ ?_
                      rotate_left
                      · intro w'
                        go_simp
                        with_reducible rfl
                      rotate_left
                      · simp only [Act.put, List.setIfInBounds_toArray, List.set_cons_zero, List.set_cons_succ, i64_w, i32_w]
                        rfl
                      refine take_ (i := 19) (N := some 37) (v := ?_) (a' := ?_) #[true, true, true, true, true, false, false, true, true, true, true, true, true, false, false, true, true, true, true, true, false, false, false, true, true, true, true, false, false, false, false, false, false] rfl rfl (take_ofW HT_.out HW_.out (by kernel_rfl)) (fun _ _ _ h => h) (Or.inl ⟨by rfl, ?_⟩) hHeld ?_ ?_
                      rotate_left
                      · rintro w' ⟨s0, s1, s2, s3⟩
                        go_simp
                        with_reducible rfl
                      rotate_left
                      · simp only [Act.put, List.setIfInBounds_toArray, List.set_cons_zero, List.set_cons_succ, i64_w, i32_w]
                        rfl
                      refine pure_ (i := 20) (N := some 38) (v := ?_) (a' := ?_) #[true, true, true, true, true, false, false, true, true, true, true, true, true, false, false, true, true, true, true, true, true, false, false, true, true, true, true, false, false, false, false, false, false] rfl rfl (any_of HT_.out (by kernel_rfl)) (fun _ _ _ h => h) (Or.inl ⟨by rfl, ?_⟩) ?_ ?_
                      rotate_left
                      · intro w'
                        go_simp
                        with_reducible rfl
                      rotate_left
                      · simp only [Act.put, List.setIfInBounds_toArray, List.set_cons_zero, List.set_cons_succ, i64_w, i32_w]
                        rfl
                      refine take_ (i := 27) (N := some 45) (v := ?_) (a' := ?_) #[true, true, true, true, true, false, false, true, true, true, true, true, true, false, false, true, true, true, true, true, true, false, false, true, true, true, true, true, false, false, false, false, false] rfl rfl (take_ofW HT_.out HW_.out (by kernel_rfl)) (fun _ _ _ h => h) (Or.inl ⟨by rfl, ?_⟩) hHeld ?_ ?_
                      rotate_left
                      · rintro w' ⟨s0, s1, s2, s3⟩
                        go_simp
                        with_reducible rfl
                      rotate_left
                      · simp only [Act.put, List.setIfInBounds_toArray, List.set_cons_zero, List.set_cons_succ, i64_w, i32_w]
                        rfl
                      refine pure_ (i := 28) (N := some 46) (v := ?_) (a' := ?_) #[true, true, true, true, true, false, false, true, true, true, true, true, true, false, false, true, true, true, true, true, true, false, false, true, true, true, true, true, true, false, false, false, false] rfl rfl (any_of HT_.out (by kernel_rfl)) (fun _ _ _ h => h) (Or.inl ⟨by rfl, ?_⟩) ?_ ?_
                      rotate_left
                      · intro w'
                        go_simp
                        with_reducible rfl
                      rotate_left
                      · simp only [Act.put, List.setIfInBounds_toArray, List.set_cons_zero, List.set_cons_succ, i64_w, i32_w]
                        rfl
                      refine pure_ (i := 29) (N := some 47) (v := ?_) (a' := ?_) #[true, true, true, true, true, false, false, true, true, true, true, true, true, false, false, true, true, true, true, true, true, false, false, true, true, true, true, true, true, true, false, false, false] rfl rfl (any_of HT_.out (by kernel_rfl)) (fun _ _ _ h => h) (Or.inl ⟨by rfl, ?_⟩) ?_ ?_
                      rotate_left
                      · intro w'
                        go_simp
                        with_reducible rfl
                      rotate_left
                      · simp only [Act.put, List.setIfInBounds_toArray, List.set_cons_zero, List.set_cons_succ, i64_w, i32_w]
                        rfl
                      refine join_ (σ := Nat) 1 #[true, true, true, true, true, true, true, true, true, true, true, true, true, true, true, true, true, true, true, true, true, true, true, true, true, true, true, true, true, true, true, true, false] (fun s_ => [(23, .int .i64 t149), (31, .int .i64 t151), (39, .int .i64 t153), (6, .pointer (some ⟨s_, 0, none⟩)), (24, .int .i64 (wrap64 (x4_1 + t149))), (32, .int .i64 (wrap64 (t151 - 1))), (40, .int .i64 (wrap64 (t153 - 1))), (48, .agg #[.int .i64 (wrap64 (x4_1 + t149)), .int .i64 0, .int .i64 (wrap64 (t151 - 1)), .int .i64 (wrap64 (t153 - 1)), .float .f64 0, .bool ((Go.bits .and .i64 (rd l0 (ji8)) 1) == 1), .bool false])]) (fun s_ w' => (w'.cell? (ad148.add (x5_1).toNat) = some (.int .i64 (rd l0 x5_1)) ∧ w'.cell? (ad148.add ((ji8)).toNat) = some (.int .i64 (rd l0 (ji8))) ∧ w'.cell? (ad148.add ((ji8)).toNat) = some (.int .i64 (rd l0 (ji8))) ∧ w'.cell? (ad148.add ((ji8)).toNat) = some (.int .i64 (rd l0 (ji8)))) ∧ (Kd.R k34 34 w' w.heap.size (fun k_ => k_ ≠ s_) u3 x3_1) ∧ (w'.heap[s_]? = some (.cells #[.int .i64 0, .int .i64 0, .int .i64 0, .int .i64 0, .float .f64 0, .bool false, .bool false] 34 (0, 0))) ∧ (w.heap.size ≤ s_) ∧ (w.heap.size ≤ s_) ∧ (Below w.heap.size w w')) ?_ ?_
                      rotate_left
                      · intro hCont
                        refine two_ (i := 5) (j := 31) (Ni := some 23) (Nj := some 6) #[true, true, true, true, true, true, false, true, true, true, true, true, true, false, false, true, true, true, true, true, true, false, false, true, true, true, true, true, true, true, false, false, false] #[true, true, true, true, true, false, false, true, true, true, true, true, true, false, false, true, true, true, true, true, true, false, false, true, true, true, true, true, true, true, false, true, false] rfl rfl rfl rfl (two_of HT_.out (by kernel_rfl)) (by decide) (by decide) (fun K hK => ?_) (fun K hK => ?_)
                        · skip
                          refine goes_ Try.func11 (by kernel_rfl) rfl #[.int .i64 (rd l0 x5_1), .int .i64 4] (by rfl) rfl rfl (by (try simp only [List.map_toArray, List.map_cons, List.map_nil]); first | done | rfl | (simp only [List.length_drop, List.length_take]; rfl)) ?_
                          with_reducible refine (laws_gridNumber.calls (rd l0 x5_1) 4 t149 _ A7.out).mono ?_
                          rintro e w' ⟨rfl, ⟨nd, rfl⟩⟩
                          refine ⟨_, rfl, ?_⟩
                          refine hK.out _ _ ⟨((HB.out.cell (World.block_lt_of_cell? w _ hw148_0)).trans hw148_0), ((HB.out.cell (World.block_lt_of_cell? w _ hw150_0)).trans hw150_0), ((HB.out.cell (World.block_lt_of_cell? w _ hw152_0)).trans hw152_0), ((HB.out.cell (World.block_lt_of_cell? w _ hw154_0)).trans hw154_0)⟩ (fun hHeld => ?_)
                          clear hK K
                          refine norm_ (a' := ?_) ?_ ?_
                          rotate_left
                          · show Act.put _ (some 23) _ = _
                            simp only [Act.put, List.setIfInBounds_toArray, List.set_cons_zero, List.set_cons_succ, i64_w, i32_w]
                            rfl
                          refine pure_ (i := 6) (N := some 24) (v := ?_) (a' := ?_) #[true, true, true, true, true, true, true, true, true, true, true, true, true, false, false, true, true, true, true, true, true, false, false, true, true, true, true, true, true, true, false, false, false] rfl rfl (any_of HT_.out (by kernel_rfl)) (fun _ _ _ h => h) (Or.inl ⟨by rfl, ?_⟩) ?_ ?_
                          rotate_left
                          · intro w'
                            go_simp
                            with_reducible rfl
                          rotate_left
                          · simp only [Act.put, List.setIfInBounds_toArray, List.set_cons_zero, List.set_cons_succ, i64_w, i32_w]
                            rfl
                          refine two_ (i := 13) (j := 31) (Ni := some 31) (Nj := some 6) #[true, true, true, true, true, true, true, true, true, true, true, true, true, true, false, true, true, true, true, true, true, false, false, true, true, true, true, true, true, true, false, false, false] #[true, true, true, true, true, true, true, true, true, true, true, true, true, false, false, true, true, true, true, true, true, false, false, true, true, true, true, true, true, true, false, true, false] rfl rfl rfl rfl (two_of HT_.out (by kernel_rfl)) (by decide) (by decide) (fun K hK => ?_) (fun K hK => ?_)
                          · skip
                            refine goes_ Try.func11 (by kernel_rfl) rfl #[.int .i64 (wrap64 (Int.tdiv (rd l0 (ji8)) 5)), .int .i64 4] (by rfl) rfl rfl (by (try simp only [List.map_toArray, List.map_cons, List.map_nil]); first | done | (simp only [hji8]; rfl) | rfl | (simp only [List.length_drop, List.length_take]; rfl)) ?_
                            with_reducible refine (laws_gridNumber.calls (wrap64 (Int.tdiv (rd l0 (ji8)) 5)) 4 t151 _ A11.out).mono ?_
                            rintro e w' ⟨rfl, ⟨nd, rfl⟩⟩
                            refine ⟨_, rfl, ?_⟩
                            refine hK.out _ _ ⟨((HB.out.cell (World.block_lt_of_cell? w _ hw148_0)).trans hw148_0), ((HB.out.cell (World.block_lt_of_cell? w _ hw150_0)).trans hw150_0), ((HB.out.cell (World.block_lt_of_cell? w _ hw152_0)).trans hw152_0), ((HB.out.cell (World.block_lt_of_cell? w _ hw154_0)).trans hw154_0)⟩ (fun hHeld => ?_)
                            clear hK K
                            refine norm_ (a' := ?_) ?_ ?_
                            rotate_left
                            · show Act.put _ (some 31) _ = _
                              simp only [Act.put, List.setIfInBounds_toArray, List.set_cons_zero, List.set_cons_succ, i64_w, i32_w]
                              rfl
                            refine pure_ (i := 14) (N := some 32) (v := ?_) (a' := ?_) #[true, true, true, true, true, true, true, true, true, true, true, true, true, true, true, true, true, true, true, true, true, false, false, true, true, true, true, true, true, true, false, false, false] rfl rfl (any_of HT_.out (by kernel_rfl)) (fun _ _ _ h => h) (Or.inl ⟨by rfl, ?_⟩) ?_ ?_
                            rotate_left
                            · intro w'
                              go_simp
                              with_reducible rfl
                            rotate_left
                            · simp only [Act.put, List.setIfInBounds_toArray, List.set_cons_zero, List.set_cons_succ, i64_w, i32_w]
                              rfl
                            refine two_ (i := 21) (j := 31) (Ni := some 39) (Nj := some 6) #[true, true, true, true, true, true, true, true, true, true, true, true, true, true, true, true, true, true, true, true, true, true, false, true, true, true, true, true, true, true, false, false, false] #[true, true, true, true, true, true, true, true, true, true, true, true, true, true, true, true, true, true, true, true, true, false, false, true, true, true, true, true, true, true, false, true, false] rfl rfl rfl rfl (two_of HT_.out (by kernel_rfl)) (by decide) (by decide) (fun K hK => ?_) (fun K hK => ?_)
                            · skip
                              refine goes_ Try.func11 (by kernel_rfl) rfl #[.int .i64 (wrap64 (Int.tdiv (rd l0 (ji8)) 25)), .int .i64 3] (by rfl) rfl rfl (by (try simp only [List.map_toArray, List.map_cons, List.map_nil]); first | done | (simp only [hji8]; rfl) | rfl | (simp only [List.length_drop, List.length_take]; rfl)) ?_
                              with_reducible refine (laws_gridNumber.calls (wrap64 (Int.tdiv (rd l0 (ji8)) 25)) 3 t153 _ A12.out).mono ?_
                              rintro e w' ⟨rfl, ⟨nd, rfl⟩⟩
                              refine ⟨_, rfl, ?_⟩
                              refine hK.out _ _ ⟨((HB.out.cell (World.block_lt_of_cell? w _ hw148_0)).trans hw148_0), ((HB.out.cell (World.block_lt_of_cell? w _ hw150_0)).trans hw150_0), ((HB.out.cell (World.block_lt_of_cell? w _ hw152_0)).trans hw152_0), ((HB.out.cell (World.block_lt_of_cell? w _ hw154_0)).trans hw154_0)⟩ (fun hHeld => ?_)
                              clear hK K
                              refine norm_ (a' := ?_) ?_ ?_
                              rotate_left
                              · show Act.put _ (some 39) _ = _
                                simp only [Act.put, List.setIfInBounds_toArray, List.set_cons_zero, List.set_cons_succ, i64_w, i32_w]
                                rfl
                              refine pure_ (i := 22) (N := some 40) (v := ?_) (a' := ?_) #[true, true, true, true, true, true, true, true, true, true, true, true, true, true, true, true, true, true, true, true, true, true, true, true, true, true, true, true, true, true, false, false, false] rfl rfl (any_of HT_.out (by kernel_rfl)) (fun _ _ _ h => h) (Or.inl ⟨by rfl, ?_⟩) ?_ ?_
                              rotate_left
                              · intro w'
                                go_simp
                                with_reducible rfl
                              rotate_left
                              · simp only [Act.put, List.setIfInBounds_toArray, List.set_cons_zero, List.set_cons_succ, i64_w, i32_w]
                                rfl
                              refine pure_ (i := 30) (N := some 48) (v := ?_) (a' := ?_) #[true, true, true, true, true, true, true, true, true, true, true, true, true, true, true, true, true, true, true, true, true, true, true, true, true, true, true, true, true, true, true, false, false] rfl rfl (any_of HT_.out (by kernel_rfl)) (fun _ _ _ h => h) (Or.inl ⟨by rfl, ?_⟩) ?_ ?_
                              rotate_left
                              · intro w'
                                go_simp
                                with_reducible rfl
                              rotate_left
                              · simp only [Act.put, List.setIfInBounds_toArray, List.set_cons_zero, List.set_cons_succ, i64_w, i32_w]
                                rfl
                              refine one_ (i := 31) (N := some 6) #[true, true, true, true, true, true, true, true, true, true, true, true, true, true, true, true, true, true, true, true, true, true, true, true, true, true, true, true, true, true, true, true, false] rfl rfl (one_of HT_.out (by kernel_rfl)) (by decide) (fun K hK => ?_)
                              refine box_step ?hg (N := 6) ?hd (cs := #[.int .i64 0, .int .i64 0, .int .i64 0, .int .i64 0, .float .f64 0, .bool false, .bool false]) (t := 34) ?hr ?_; (case hd => rfl); (case hg => rfl); (case hr => first | (go_simp; done) | (go_simp; rfl))
                              intro gb155 hg w16 hbox hb
                              have n0_ := Aside0.mk (Kd.R_below (Kd.R_elderB (by (with_reducible repeat (first | apply Kd.R_alloc | apply Kd.R_drewN | apply Kd.R_drew)); exact HO_3.out) gb155 (Nat.le_of_eq hg.symm)) hb)
                              have n1_ := Aside0.mk (below_step (by repeat (first | (with_reducible first | exact HB.out | apply below_alloc | apply pw_below_drewN | apply below_drew1) | exact HB.out)) hb)
                              have n2_ := Aside0.mk (hbox)
                              have n3_ := Aside0.mk ((by rw [hg]; exact (below_size (by repeat (first | (with_reducible first | exact HB.out | apply below_alloc | apply pw_below_drewN | apply below_drew1) | exact HB.out))) : w.heap.size ≤ gb155))
                              have n4_ := Aside0.mk ((by rw [hg]; exact (below_size (by repeat (first | (with_reducible first | exact HB.out | apply below_alloc | apply pw_below_drewN | apply below_drew1) | exact HB.out))) : w.heap.size ≤ gb155))
                              clear HO_3
                              clear HB
                              have HO_3 := n0_
                              have HB := n1_
                              have BK155 := n2_
                              have GW155 := n3_
                              have GE155 := n4_
                              clear n0_ n1_ n2_ n3_ n4_
                              clear hb hbox hg
                              refine hK.out _ _ ⟨((HB.out.cell (World.block_lt_of_cell? w _ hw148_0)).trans hw148_0), ((HB.out.cell (World.block_lt_of_cell? w _ hw150_0)).trans hw150_0), ((HB.out.cell (World.block_lt_of_cell? w _ hw152_0)).trans hw152_0), ((HB.out.cell (World.block_lt_of_cell? w _ hw154_0)).trans hw154_0)⟩ (fun hHeld => ?_)
                              clear hK K
                              refine norm_ (a' := ?_) ?_ ?_
                              rotate_left
                              · show Act.put _ (some 6) _ = _
                                simp only [Act.put, List.setIfInBounds_toArray, List.set_cons_zero, List.set_cons_succ, i64_w, i32_w]
                                rfl
                              exact norm_ (by simp only [putAll, Act.put, List.setIfInBounds_toArray, List.set_cons_zero, List.set_cons_succ]) (hCont (gb155) _ ⟨hHeld, (by (with_reducible repeat (first | apply Kd.R_alloc | apply Kd.R_drewN | apply Kd.R_drew)); exact Kd.R_mono HO_3.out (fun _ hk => hk.2)), (by (with_reducible repeat (first | refine blk_drewN ?_ _ | refine blk_drew ?_ | refine blk_alloc ?_ _)); exact BK155.out), GW155.out, GE155.out, (by repeat (first | (with_reducible first | exact HB.out | apply below_alloc | apply pw_below_drewN | apply below_drew1 | refine below_set ?_ GE155.out) | exact HB.out))⟩)
                            · skip
                              refine box_step ?hg (N := 6) ?hd (cs := #[.int .i64 0, .int .i64 0, .int .i64 0, .int .i64 0, .float .f64 0, .bool false, .bool false]) (t := 34) ?hr ?_; (case hd => rfl); (case hg => rfl); (case hr => first | (go_simp; done) | (go_simp; rfl))
                              intro gb155 hg w16 hbox hb
                              have n0_ := Aside0.mk (Kd.R_below (Kd.R_elderB (by (with_reducible repeat (first | apply Kd.R_alloc | apply Kd.R_drewN | apply Kd.R_drew)); exact HO_3.out) gb155 (Nat.le_of_eq hg.symm)) hb)
                              have n1_ := Aside0.mk (below_step (by repeat (first | (with_reducible first | exact HB.out | apply below_alloc | apply pw_below_drewN | apply below_drew1) | exact HB.out)) hb)
                              have n2_ := Aside0.mk (hbox)
                              have n3_ := Aside0.mk ((by rw [hg]; exact (below_size (by repeat (first | (with_reducible first | exact HB.out | apply below_alloc | apply pw_below_drewN | apply below_drew1) | exact HB.out))) : w.heap.size ≤ gb155))
                              have n4_ := Aside0.mk ((by rw [hg]; exact (below_size (by repeat (first | (with_reducible first | exact HB.out | apply below_alloc | apply pw_below_drewN | apply below_drew1) | exact HB.out))) : w.heap.size ≤ gb155))
                              clear HO_3
                              clear HB
                              have HO_3 := n0_
                              have HB := n1_
                              have BK155 := n2_
                              have GW155 := n3_
                              have GE155 := n4_
                              clear n0_ n1_ n2_ n3_ n4_
                              clear hb hbox hg
                              refine hK.out _ _ ⟨((HB.out.cell (World.block_lt_of_cell? w _ hw148_0)).trans hw148_0), ((HB.out.cell (World.block_lt_of_cell? w _ hw150_0)).trans hw150_0), ((HB.out.cell (World.block_lt_of_cell? w _ hw152_0)).trans hw152_0), ((HB.out.cell (World.block_lt_of_cell? w _ hw154_0)).trans hw154_0)⟩ (fun hHeld => ?_)
                              clear hK K
                              refine norm_ (a' := ?_) ?_ ?_
                              rotate_left
                              · show Act.put _ (some 6) _ = _
                                simp only [Act.put, List.setIfInBounds_toArray, List.set_cons_zero, List.set_cons_succ, i64_w, i32_w]
                                rfl
                              refine one_ (i := 21) (N := some 39) #[true, true, true, true, true, true, true, true, true, true, true, true, true, true, true, true, true, true, true, true, true, true, false, true, true, true, true, true, true, true, false, true, false] rfl rfl (one_of HT_.out (by kernel_rfl)) (by decide) (fun K hK => ?_)
                              refine goes_ Try.func11 (by kernel_rfl) rfl #[.int .i64 (wrap64 (Int.tdiv (rd l0 (ji8)) 25)), .int .i64 3] (by rfl) rfl rfl (by (try simp only [List.map_toArray, List.map_cons, List.map_nil]); first | done | (simp only [hji8]; rfl) | rfl | (simp only [List.length_drop, List.length_take]; rfl)) ?_
                              with_reducible refine (laws_gridNumber.calls (wrap64 (Int.tdiv (rd l0 (ji8)) 25)) 3 t153 _ A12.out).mono ?_
                              rintro e w' ⟨rfl, ⟨nd, rfl⟩⟩
                              refine ⟨_, rfl, ?_⟩
                              refine hK.out _ _ ⟨((HB.out.cell (World.block_lt_of_cell? w _ hw148_0)).trans hw148_0), ((HB.out.cell (World.block_lt_of_cell? w _ hw150_0)).trans hw150_0), ((HB.out.cell (World.block_lt_of_cell? w _ hw152_0)).trans hw152_0), ((HB.out.cell (World.block_lt_of_cell? w _ hw154_0)).trans hw154_0)⟩ (fun hHeld => ?_)
                              clear hK K
                              refine norm_ (a' := ?_) ?_ ?_
                              rotate_left
                              · show Act.put _ (some 39) _ = _
                                simp only [Act.put, List.setIfInBounds_toArray, List.set_cons_zero, List.set_cons_succ, i64_w, i32_w]
                                rfl
                              refine pure_ (i := 22) (N := some 40) (v := ?_) (a' := ?_) #[true, true, true, true, true, true, true, true, true, true, true, true, true, true, true, true, true, true, true, true, true, true, true, true, true, true, true, true, true, true, false, true, false] rfl rfl (any_of HT_.out (by kernel_rfl)) (fun _ _ _ h => h) (Or.inl ⟨by rfl, ?_⟩) ?_ ?_
                              rotate_left
                              · intro w'
                                go_simp
                                with_reducible rfl
                              rotate_left
                              · simp only [Act.put, List.setIfInBounds_toArray, List.set_cons_zero, List.set_cons_succ, i64_w, i32_w]
                                rfl
                              refine pure_ (i := 30) (N := some 48) (v := ?_) (a' := ?_) #[true, true, true, true, true, true, true, true, true, true, true, true, true, true, true, true, true, true, true, true, true, true, true, true, true, true, true, true, true, true, true, true, false] rfl rfl (any_of HT_.out (by kernel_rfl)) (fun _ _ _ h => h) (Or.inl ⟨by rfl, ?_⟩) ?_ ?_
                              rotate_left
                              · intro w'
                                go_simp
                                with_reducible rfl
                              rotate_left
                              · simp only [Act.put, List.setIfInBounds_toArray, List.set_cons_zero, List.set_cons_succ, i64_w, i32_w]
                                rfl
                              exact norm_ (by simp only [putAll, Act.put, List.setIfInBounds_toArray, List.set_cons_zero, List.set_cons_succ]) (hCont (gb155) _ ⟨hHeld, (by (with_reducible repeat (first | apply Kd.R_alloc | apply Kd.R_drewN | apply Kd.R_drew)); exact Kd.R_mono HO_3.out (fun _ hk => hk.2)), (by (with_reducible repeat (first | refine blk_drewN ?_ _ | refine blk_drew ?_ | refine blk_alloc ?_ _)); exact BK155.out), GW155.out, GE155.out, (by repeat (first | (with_reducible first | exact HB.out | apply below_alloc | apply pw_below_drewN | apply below_drew1 | refine below_set ?_ GE155.out) | exact HB.out))⟩)
                          · skip
                            refine box_step ?hg (N := 6) ?hd (cs := #[.int .i64 0, .int .i64 0, .int .i64 0, .int .i64 0, .float .f64 0, .bool false, .bool false]) (t := 34) ?hr ?_; (case hd => rfl); (case hg => rfl); (case hr => first | (go_simp; done) | (go_simp; rfl))
                            intro gb155 hg w16 hbox hb
                            have n0_ := Aside0.mk (Kd.R_below (Kd.R_elderB (by (with_reducible repeat (first | apply Kd.R_alloc | apply Kd.R_drewN | apply Kd.R_drew)); exact HO_3.out) gb155 (Nat.le_of_eq hg.symm)) hb)
                            have n1_ := Aside0.mk (below_step (by repeat (first | (with_reducible first | exact HB.out | apply below_alloc | apply pw_below_drewN | apply below_drew1) | exact HB.out)) hb)
                            have n2_ := Aside0.mk (hbox)
                            have n3_ := Aside0.mk ((by rw [hg]; exact (below_size (by repeat (first | (with_reducible first | exact HB.out | apply below_alloc | apply pw_below_drewN | apply below_drew1) | exact HB.out))) : w.heap.size ≤ gb155))
                            have n4_ := Aside0.mk ((by rw [hg]; exact (below_size (by repeat (first | (with_reducible first | exact HB.out | apply below_alloc | apply pw_below_drewN | apply below_drew1) | exact HB.out))) : w.heap.size ≤ gb155))
                            clear HO_3
                            clear HB
                            have HO_3 := n0_
                            have HB := n1_
                            have BK155 := n2_
                            have GW155 := n3_
                            have GE155 := n4_
                            clear n0_ n1_ n2_ n3_ n4_
                            clear hb hbox hg
                            refine hK.out _ _ ⟨((HB.out.cell (World.block_lt_of_cell? w _ hw148_0)).trans hw148_0), ((HB.out.cell (World.block_lt_of_cell? w _ hw150_0)).trans hw150_0), ((HB.out.cell (World.block_lt_of_cell? w _ hw152_0)).trans hw152_0), ((HB.out.cell (World.block_lt_of_cell? w _ hw154_0)).trans hw154_0)⟩ (fun hHeld => ?_)
                            clear hK K
                            refine norm_ (a' := ?_) ?_ ?_
                            rotate_left
                            · show Act.put _ (some 6) _ = _
                              simp only [Act.put, List.setIfInBounds_toArray, List.set_cons_zero, List.set_cons_succ, i64_w, i32_w]
                              rfl
                            refine one_ (i := 13) (N := some 31) #[true, true, true, true, true, true, true, true, true, true, true, true, true, true, false, true, true, true, true, true, true, false, false, true, true, true, true, true, true, true, false, true, false] rfl rfl (one_of HT_.out (by kernel_rfl)) (by decide) (fun K hK => ?_)
                            refine goes_ Try.func11 (by kernel_rfl) rfl #[.int .i64 (wrap64 (Int.tdiv (rd l0 (ji8)) 5)), .int .i64 4] (by rfl) rfl rfl (by (try simp only [List.map_toArray, List.map_cons, List.map_nil]); first | done | (simp only [hji8]; rfl) | rfl | (simp only [List.length_drop, List.length_take]; rfl)) ?_
                            with_reducible refine (laws_gridNumber.calls (wrap64 (Int.tdiv (rd l0 (ji8)) 5)) 4 t151 _ A11.out).mono ?_
                            rintro e w' ⟨rfl, ⟨nd, rfl⟩⟩
                            refine ⟨_, rfl, ?_⟩
                            refine hK.out _ _ ⟨((HB.out.cell (World.block_lt_of_cell? w _ hw148_0)).trans hw148_0), ((HB.out.cell (World.block_lt_of_cell? w _ hw150_0)).trans hw150_0), ((HB.out.cell (World.block_lt_of_cell? w _ hw152_0)).trans hw152_0), ((HB.out.cell (World.block_lt_of_cell? w _ hw154_0)).trans hw154_0)⟩ (fun hHeld => ?_)
                            clear hK K
                            refine norm_ (a' := ?_) ?_ ?_
                            rotate_left
                            · show Act.put _ (some 31) _ = _
                              simp only [Act.put, List.setIfInBounds_toArray, List.set_cons_zero, List.set_cons_succ, i64_w, i32_w]
                              rfl
                            refine pure_ (i := 14) (N := some 32) (v := ?_) (a' := ?_) #[true, true, true, true, true, true, true, true, true, true, true, true, true, true, true, true, true, true, true, true, true, false, false, true, true, true, true, true, true, true, false, true, false] rfl rfl (any_of HT_.out (by kernel_rfl)) (fun _ _ _ h => h) (Or.inl ⟨by rfl, ?_⟩) ?_ ?_
                            rotate_left
                            · intro w'
                              go_simp
                              with_reducible rfl
                            rotate_left
                            · simp only [Act.put, List.setIfInBounds_toArray, List.set_cons_zero, List.set_cons_succ, i64_w, i32_w]
                              rfl
                            refine one_ (i := 21) (N := some 39) #[true, true, true, true, true, true, true, true, true, true, true, true, true, true, true, true, true, true, true, true, true, true, false, true, true, true, true, true, true, true, false, true, false] rfl rfl (one_of HT_.out (by kernel_rfl)) (by decide) (fun K hK => ?_)
                            refine goes_ Try.func11 (by kernel_rfl) rfl #[.int .i64 (wrap64 (Int.tdiv (rd l0 (ji8)) 25)), .int .i64 3] (by rfl) rfl rfl (by (try simp only [List.map_toArray, List.map_cons, List.map_nil]); first | done | (simp only [hji8]; rfl) | rfl | (simp only [List.length_drop, List.length_take]; rfl)) ?_
                            with_reducible refine (laws_gridNumber.calls (wrap64 (Int.tdiv (rd l0 (ji8)) 25)) 3 t153 _ A12.out).mono ?_
                            rintro e w' ⟨rfl, ⟨nd, rfl⟩⟩
                            refine ⟨_, rfl, ?_⟩
                            refine hK.out _ _ ⟨((HB.out.cell (World.block_lt_of_cell? w _ hw148_0)).trans hw148_0), ((HB.out.cell (World.block_lt_of_cell? w _ hw150_0)).trans hw150_0), ((HB.out.cell (World.block_lt_of_cell? w _ hw152_0)).trans hw152_0), ((HB.out.cell (World.block_lt_of_cell? w _ hw154_0)).trans hw154_0)⟩ (fun hHeld => ?_)
                            clear hK K
                            refine norm_ (a' := ?_) ?_ ?_
                            rotate_left
                            · show Act.put _ (some 39) _ = _
                              simp only [Act.put, List.setIfInBounds_toArray, List.set_cons_zero, List.set_cons_succ, i64_w, i32_w]
                              rfl
                            refine pure_ (i := 22) (N := some 40) (v := ?_) (a' := ?_) #[true, true, true, true, true, true, true, true, true, true, true, true, true, true, true, true, true, true, true, true, true, true, true, true, true, true, true, true, true, true, false, true, false] rfl rfl (any_of HT_.out (by kernel_rfl)) (fun _ _ _ h => h) (Or.inl ⟨by rfl, ?_⟩) ?_ ?_
                            rotate_left
                            · intro w'
                              go_simp
                              with_reducible rfl
                            rotate_left
                            · simp only [Act.put, List.setIfInBounds_toArray, List.set_cons_zero, List.set_cons_succ, i64_w, i32_w]
                              rfl
                            refine pure_ (i := 30) (N := some 48) (v := ?_) (a' := ?_) #[true, true, true, true, true, true, true, true, true, true, true, true, true, true, true, true, true, true, true, true, true, true, true, true, true, true, true, true, true, true, true, true, false] rfl rfl (any_of HT_.out (by kernel_rfl)) (fun _ _ _ h => h) (Or.inl ⟨by rfl, ?_⟩) ?_ ?_
                            rotate_left
                            · intro w'
                              go_simp
                              with_reducible rfl
                            rotate_left
                            · simp only [Act.put, List.setIfInBounds_toArray, List.set_cons_zero, List.set_cons_succ, i64_w, i32_w]
                              rfl
                            exact norm_ (by simp only [putAll, Act.put, List.setIfInBounds_toArray, List.set_cons_zero, List.set_cons_succ]) (hCont (gb155) _ ⟨hHeld, (by (with_reducible repeat (first | apply Kd.R_alloc | apply Kd.R_drewN | apply Kd.R_drew)); exact Kd.R_mono HO_3.out (fun _ hk => hk.2)), (by (with_reducible repeat (first | refine blk_drewN ?_ _ | refine blk_drew ?_ | refine blk_alloc ?_ _)); exact BK155.out), GW155.out, GE155.out, (by repeat (first | (with_reducible first | exact HB.out | apply below_alloc | apply pw_below_drewN | apply below_drew1 | refine below_set ?_ GE155.out) | exact HB.out))⟩)
                        · skip
                          refine box_step ?hg (N := 6) ?hd (cs := #[.int .i64 0, .int .i64 0, .int .i64 0, .int .i64 0, .float .f64 0, .bool false, .bool false]) (t := 34) ?hr ?_; (case hd => rfl); (case hg => rfl); (case hr => first | (go_simp; done) | (go_simp; rfl))
                          intro gb155 hg w16 hbox hb
                          have n0_ := Aside0.mk (Kd.R_below (Kd.R_elderB (by (with_reducible repeat (first | apply Kd.R_alloc | apply Kd.R_drewN | apply Kd.R_drew)); exact HO_3.out) gb155 (Nat.le_of_eq hg.symm)) hb)
                          have n1_ := Aside0.mk (below_step (by repeat (first | (with_reducible first | exact HB.out | apply below_alloc | apply pw_below_drewN | apply below_drew1) | exact HB.out)) hb)
                          have n2_ := Aside0.mk (hbox)
                          have n3_ := Aside0.mk ((by rw [hg]; exact (below_size (by repeat (first | (with_reducible first | exact HB.out | apply below_alloc | apply pw_below_drewN | apply below_drew1) | exact HB.out))) : w.heap.size ≤ gb155))
                          have n4_ := Aside0.mk ((by rw [hg]; exact (below_size (by repeat (first | (with_reducible first | exact HB.out | apply below_alloc | apply pw_below_drewN | apply below_drew1) | exact HB.out))) : w.heap.size ≤ gb155))
                          clear HO_3
                          clear HB
                          have HO_3 := n0_
                          have HB := n1_
                          have BK155 := n2_
                          have GW155 := n3_
                          have GE155 := n4_
                          clear n0_ n1_ n2_ n3_ n4_
                          clear hb hbox hg
                          refine hK.out _ _ ⟨((HB.out.cell (World.block_lt_of_cell? w _ hw148_0)).trans hw148_0), ((HB.out.cell (World.block_lt_of_cell? w _ hw150_0)).trans hw150_0), ((HB.out.cell (World.block_lt_of_cell? w _ hw152_0)).trans hw152_0), ((HB.out.cell (World.block_lt_of_cell? w _ hw154_0)).trans hw154_0)⟩ (fun hHeld => ?_)
                          clear hK K
                          refine norm_ (a' := ?_) ?_ ?_
                          rotate_left
                          · show Act.put _ (some 6) _ = _
                            simp only [Act.put, List.setIfInBounds_toArray, List.set_cons_zero, List.set_cons_succ, i64_w, i32_w]
                            rfl
                          refine one_ (i := 5) (N := some 23) #[true, true, true, true, true, true, false, true, true, true, true, true, true, false, false, true, true, true, true, true, true, false, false, true, true, true, true, true, true, true, false, true, false] rfl rfl (one_of HT_.out (by kernel_rfl)) (by decide) (fun K hK => ?_)
                          refine goes_ Try.func11 (by kernel_rfl) rfl #[.int .i64 (rd l0 x5_1), .int .i64 4] (by rfl) rfl rfl (by (try simp only [List.map_toArray, List.map_cons, List.map_nil]); first | done | rfl | (simp only [List.length_drop, List.length_take]; rfl)) ?_
                          with_reducible refine (laws_gridNumber.calls (rd l0 x5_1) 4 t149 _ A7.out).mono ?_
                          rintro e w' ⟨rfl, ⟨nd, rfl⟩⟩
                          refine ⟨_, rfl, ?_⟩
                          refine hK.out _ _ ⟨((HB.out.cell (World.block_lt_of_cell? w _ hw148_0)).trans hw148_0), ((HB.out.cell (World.block_lt_of_cell? w _ hw150_0)).trans hw150_0), ((HB.out.cell (World.block_lt_of_cell? w _ hw152_0)).trans hw152_0), ((HB.out.cell (World.block_lt_of_cell? w _ hw154_0)).trans hw154_0)⟩ (fun hHeld => ?_)
                          clear hK K
                          refine norm_ (a' := ?_) ?_ ?_
                          rotate_left
                          · show Act.put _ (some 23) _ = _
                            simp only [Act.put, List.setIfInBounds_toArray, List.set_cons_zero, List.set_cons_succ, i64_w, i32_w]
                            rfl
                          refine pure_ (i := 6) (N := some 24) (v := ?_) (a' := ?_) #[true, true, true, true, true, true, true, true, true, true, true, true, true, false, false, true, true, true, true, true, true, false, false, true, true, true, true, true, true, true, false, true, false] rfl rfl (any_of HT_.out (by kernel_rfl)) (fun _ _ _ h => h) (Or.inl ⟨by rfl, ?_⟩) ?_ ?_
                          rotate_left
                          · intro w'
                            go_simp
                            with_reducible rfl
                          rotate_left
                          · simp only [Act.put, List.setIfInBounds_toArray, List.set_cons_zero, List.set_cons_succ, i64_w, i32_w]
                            rfl
                          refine one_ (i := 13) (N := some 31) #[true, true, true, true, true, true, true, true, true, true, true, true, true, true, false, true, true, true, true, true, true, false, false, true, true, true, true, true, true, true, false, true, false] rfl rfl (one_of HT_.out (by kernel_rfl)) (by decide) (fun K hK => ?_)
                          refine goes_ Try.func11 (by kernel_rfl) rfl #[.int .i64 (wrap64 (Int.tdiv (rd l0 (ji8)) 5)), .int .i64 4] (by rfl) rfl rfl (by (try simp only [List.map_toArray, List.map_cons, List.map_nil]); first | done | (simp only [hji8]; rfl) | rfl | (simp only [List.length_drop, List.length_take]; rfl)) ?_
                          with_reducible refine (laws_gridNumber.calls (wrap64 (Int.tdiv (rd l0 (ji8)) 5)) 4 t151 _ A11.out).mono ?_
                          rintro e w' ⟨rfl, ⟨nd, rfl⟩⟩
                          refine ⟨_, rfl, ?_⟩
                          refine hK.out _ _ ⟨((HB.out.cell (World.block_lt_of_cell? w _ hw148_0)).trans hw148_0), ((HB.out.cell (World.block_lt_of_cell? w _ hw150_0)).trans hw150_0), ((HB.out.cell (World.block_lt_of_cell? w _ hw152_0)).trans hw152_0), ((HB.out.cell (World.block_lt_of_cell? w _ hw154_0)).trans hw154_0)⟩ (fun hHeld => ?_)
                          clear hK K
                          refine norm_ (a' := ?_) ?_ ?_
                          rotate_left
                          · show Act.put _ (some 31) _ = _
                            simp only [Act.put, List.setIfInBounds_toArray, List.set_cons_zero, List.set_cons_succ, i64_w, i32_w]
                            rfl
                          refine pure_ (i := 14) (N := some 32) (v := ?_) (a' := ?_) #[true, true, true, true, true, true, true, true, true, true, true, true, true, true, true, true, true, true, true, true, true, false, false, true, true, true, true, true, true, true, false, true, false] rfl rfl (any_of HT_.out (by kernel_rfl)) (fun _ _ _ h => h) (Or.inl ⟨by rfl, ?_⟩) ?_ ?_
                          rotate_left
                          · intro w'
                            go_simp
                            with_reducible rfl
                          rotate_left
                          · simp only [Act.put, List.setIfInBounds_toArray, List.set_cons_zero, List.set_cons_succ, i64_w, i32_w]
                            rfl
                          refine one_ (i := 21) (N := some 39) #[true, true, true, true, true, true, true, true, true, true, true, true, true, true, true, true, true, true, true, true, true, true, false, true, true, true, true, true, true, true, false, true, false] rfl rfl (one_of HT_.out (by kernel_rfl)) (by decide) (fun K hK => ?_)
                          refine goes_ Try.func11 (by kernel_rfl) rfl #[.int .i64 (wrap64 (Int.tdiv (rd l0 (ji8)) 25)), .int .i64 3] (by rfl) rfl rfl (by (try simp only [List.map_toArray, List.map_cons, List.map_nil]); first | done | (simp only [hji8]; rfl) | rfl | (simp only [List.length_drop, List.length_take]; rfl)) ?_
                          with_reducible refine (laws_gridNumber.calls (wrap64 (Int.tdiv (rd l0 (ji8)) 25)) 3 t153 _ A12.out).mono ?_
                          rintro e w' ⟨rfl, ⟨nd, rfl⟩⟩
                          refine ⟨_, rfl, ?_⟩
                          refine hK.out _ _ ⟨((HB.out.cell (World.block_lt_of_cell? w _ hw148_0)).trans hw148_0), ((HB.out.cell (World.block_lt_of_cell? w _ hw150_0)).trans hw150_0), ((HB.out.cell (World.block_lt_of_cell? w _ hw152_0)).trans hw152_0), ((HB.out.cell (World.block_lt_of_cell? w _ hw154_0)).trans hw154_0)⟩ (fun hHeld => ?_)
                          clear hK K
                          refine norm_ (a' := ?_) ?_ ?_
                          rotate_left
                          · show Act.put _ (some 39) _ = _
                            simp only [Act.put, List.setIfInBounds_toArray, List.set_cons_zero, List.set_cons_succ, i64_w, i32_w]
                            rfl
                          refine pure_ (i := 22) (N := some 40) (v := ?_) (a' := ?_) #[true, true, true, true, true, true, true, true, true, true, true, true, true, true, true, true, true, true, true, true, true, true, true, true, true, true, true, true, true, true, false, true, false] rfl rfl (any_of HT_.out (by kernel_rfl)) (fun _ _ _ h => h) (Or.inl ⟨by rfl, ?_⟩) ?_ ?_
                          rotate_left
                          · intro w'
                            go_simp
                            with_reducible rfl
                          rotate_left
                          · simp only [Act.put, List.setIfInBounds_toArray, List.set_cons_zero, List.set_cons_succ, i64_w, i32_w]
                            rfl
                          refine pure_ (i := 30) (N := some 48) (v := ?_) (a' := ?_) #[true, true, true, true, true, true, true, true, true, true, true, true, true, true, true, true, true, true, true, true, true, true, true, true, true, true, true, true, true, true, true, true, false] rfl rfl (any_of HT_.out (by kernel_rfl)) (fun _ _ _ h => h) (Or.inl ⟨by rfl, ?_⟩) ?_ ?_
                          rotate_left
                          · intro w'
                            go_simp
                            with_reducible rfl
                          rotate_left
                          · simp only [Act.put, List.setIfInBounds_toArray, List.set_cons_zero, List.set_cons_succ, i64_w, i32_w]
                            rfl
                          exact norm_ (by simp only [putAll, Act.put, List.setIfInBounds_toArray, List.set_cons_zero, List.set_cons_succ]) (hCont (gb155) _ ⟨hHeld, (by (with_reducible repeat (first | apply Kd.R_alloc | apply Kd.R_drewN | apply Kd.R_drew)); exact Kd.R_mono HO_3.out (fun _ hk => hk.2)), (by (with_reducible repeat (first | refine blk_drewN ?_ _ | refine blk_drew ?_ | refine blk_alloc ?_ _)); exact BK155.out), GW155.out, GE155.out, (by repeat (first | (with_reducible first | exact HB.out | apply below_alloc | apply pw_below_drewN | apply below_drew1 | refine below_set ?_ GE155.out) | exact HB.out))⟩)
                      rintro gb155 w17 ⟨hS_, h0_, h1_, h2_, h3_, h4_⟩
                      have n0_ : Aside0 (Kd.R k34 34 w17 w.heap.size (fun k_ => k_ ≠ gb155) u3 x3_1) := ⟨h0_⟩
                      have n1_ : Aside0 (w17.heap[gb155]? = some (.cells #[.int .i64 0, .int .i64 0, .int .i64 0, .int .i64 0, .float .f64 0, .bool false, .bool false] 34 (0, 0))) := ⟨h1_⟩
                      have n2_ : Aside0 (w.heap.size ≤ gb155) := ⟨h2_⟩
                      have n3_ : Aside0 (w.heap.size ≤ gb155) := ⟨h3_⟩
                      have n4_ : Aside0 (Below w.heap.size w w17) := ⟨h4_⟩
                      clear HO_3
                      clear HB
                      clear h0_ h1_ h2_ h3_ h4_
                      have HO_3 := n0_
                      have BK155 := n1_
                      have GW155 := n2_
                      have GE155 := n3_
                      have HB := n4_
                      clear n0_ n1_ n2_ n3_ n4_
                      have hHeld : w17.cell? (ad148.add (x5_1).toNat) = some (.int .i64 (rd l0 x5_1)) ∧ w17.cell? (ad148.add ((ji8)).toNat) = some (.int .i64 (rd l0 (ji8))) ∧ w17.cell? (ad148.add ((ji8)).toNat) = some (.int .i64 (rd l0 (ji8))) ∧ w17.cell? (ad148.add ((ji8)).toNat) = some (.int .i64 (rd l0 (ji8))) := hS_
                      refine norm_ (a' := ?_) ?_ ?_
                      rotate_left
                      · simp only [putAll, Act.put, List.setIfInBounds_toArray, List.set_cons_zero, List.set_cons_succ]
                        rfl
                      refine one_ (i := 32) (N := none) #[true, true, true, true, true, true, true, true, true, true, true, true, true, true, true, true, true, true, true, true, true, true, true, true, true, true, true, true, true, true, true, true, true] rfl rfl (one_of HT_.out (by kernel_rfl)) (by decide) (fun K hK => ?_)
                      have hs18 : w17.cell? ⟨gb155, 0, none⟩ = some (.int .i64 0) := (blk_cell BK155.out 0).trans rfl
                      have hfs18 := blk_frozen BK155.out 0
                      have hs19 : w17.cell? ⟨gb155, 1, none⟩ = some (.int .i64 0) := (blk_cell BK155.out 1).trans rfl
                      have hfs19 := blk_frozen BK155.out 1
                      have hs20 : w17.cell? ⟨gb155, 2, none⟩ = some (.int .i64 0) := (blk_cell BK155.out 2).trans rfl
                      have hfs20 := blk_frozen BK155.out 2
                      have hs21 : w17.cell? ⟨gb155, 3, none⟩ = some (.int .i64 0) := (blk_cell BK155.out 3).trans rfl
                      have hfs21 := blk_frozen BK155.out 3
                      have hs22 : w17.cell? ⟨gb155, 4, none⟩ = some (.float .f64 0) := (blk_cell BK155.out 4).trans rfl
                      have hfs22 := blk_frozen BK155.out 4
                      have hs23 : w17.cell? ⟨gb155, 5, none⟩ = some (.bool false) := (blk_cell BK155.out 5).trans rfl
                      have hfs23 := blk_frozen BK155.out 5
                      have hs24 : w17.cell? ⟨gb155, 6, none⟩ = some (.bool false) := (blk_cell BK155.out 6).trans rfl
                      have hfs24 := blk_frozen BK155.out 6
                      refine skip_ (w1 := ?_) (by rfl) rfl ?_ ?_
                      rotate_left
                      · go_simp
                        rfl
                      refine hK.out _ _ ⟨((cell_far (p := ⟨gb155, _, none⟩) (by first | exact Nat.ne_of_lt (Nat.lt_of_lt_of_le (by have := World.block_lt_of_cell? _ _ hw148_0; first | rwa [add_block] at this | exact this) GW155.out) | (rw [add_block]; exact Nat.ne_of_lt (Nat.lt_of_lt_of_le (by have := World.block_lt_of_cell? _ _ hw148_0; first | rwa [add_block] at this | exact this) GW155.out)) | (show (Addr.add _ _).block ≠ _; rw [add_block]; exact Nat.ne_of_lt (Nat.lt_of_lt_of_le (by have := World.block_lt_of_cell? _ _ hw148_0; first | rwa [add_block] at this | exact this) GW155.out)) | (dsimp only; exact Nat.ne_of_lt (Nat.lt_of_lt_of_le (by have := World.block_lt_of_cell? _ _ hw148_0; first | rwa [add_block] at this | exact this) GW155.out))) _).trans (((cell_far (p := ⟨gb155, _, none⟩) (by first | exact Nat.ne_of_lt (Nat.lt_of_lt_of_le (by have := World.block_lt_of_cell? _ _ hw148_0; first | rwa [add_block] at this | exact this) GW155.out) | (rw [add_block]; exact Nat.ne_of_lt (Nat.lt_of_lt_of_le (by have := World.block_lt_of_cell? _ _ hw148_0; first | rwa [add_block] at this | exact this) GW155.out)) | (show (Addr.add _ _).block ≠ _; rw [add_block]; exact Nat.ne_of_lt (Nat.lt_of_lt_of_le (by have := World.block_lt_of_cell? _ _ hw148_0; first | rwa [add_block] at this | exact this) GW155.out)) | (dsimp only; exact Nat.ne_of_lt (Nat.lt_of_lt_of_le (by have := World.block_lt_of_cell? _ _ hw148_0; first | rwa [add_block] at this | exact this) GW155.out))) _).trans (((cell_far (p := ⟨gb155, _, none⟩) (by first | exact Nat.ne_of_lt (Nat.lt_of_lt_of_le (by have := World.block_lt_of_cell? _ _ hw148_0; first | rwa [add_block] at this | exact this) GW155.out) | (rw [add_block]; exact Nat.ne_of_lt (Nat.lt_of_lt_of_le (by have := World.block_lt_of_cell? _ _ hw148_0; first | rwa [add_block] at this | exact this) GW155.out)) | (show (Addr.add _ _).block ≠ _; rw [add_block]; exact Nat.ne_of_lt (Nat.lt_of_lt_of_le (by have := World.block_lt_of_cell? _ _ hw148_0; first | rwa [add_block] at this | exact this) GW155.out)) | (dsimp only; exact Nat.ne_of_lt (Nat.lt_of_lt_of_le (by have := World.block_lt_of_cell? _ _ hw148_0; first | rwa [add_block] at this | exact this) GW155.out))) _).trans (((cell_far (p := ⟨gb155, _, none⟩) (by first | exact Nat.ne_of_lt (Nat.lt_of_lt_of_le (by have := World.block_lt_of_cell? _ _ hw148_0; first | rwa [add_block] at this | exact this) GW155.out) | (rw [add_block]; exact Nat.ne_of_lt (Nat.lt_of_lt_of_le (by have := World.block_lt_of_cell? _ _ hw148_0; first | rwa [add_block] at this | exact this) GW155.out)) | (show (Addr.add _ _).block ≠ _; rw [add_block]; exact Nat.ne_of_lt (Nat.lt_of_lt_of_le (by have := World.block_lt_of_cell? _ _ hw148_0; first | rwa [add_block] at this | exact this) GW155.out)) | (dsimp only; exact Nat.ne_of_lt (Nat.lt_of_lt_of_le (by have := World.block_lt_of_cell? _ _ hw148_0; first | rwa [add_block] at this | exact this) GW155.out))) _).trans (((cell_far (p := ⟨gb155, _, none⟩) (by first | exact Nat.ne_of_lt (Nat.lt_of_lt_of_le (by have := World.block_lt_of_cell? _ _ hw148_0; first | rwa [add_block] at this | exact this) GW155.out) | (rw [add_block]; exact Nat.ne_of_lt (Nat.lt_of_lt_of_le (by have := World.block_lt_of_cell? _ _ hw148_0; first | rwa [add_block] at this | exact this) GW155.out)) | (show (Addr.add _ _).block ≠ _; rw [add_block]; exact Nat.ne_of_lt (Nat.lt_of_lt_of_le (by have := World.block_lt_of_cell? _ _ hw148_0; first | rwa [add_block] at this | exact this) GW155.out)) | (dsimp only; exact Nat.ne_of_lt (Nat.lt_of_lt_of_le (by have := World.block_lt_of_cell? _ _ hw148_0; first | rwa [add_block] at this | exact this) GW155.out))) _).trans (((cell_far (p := ⟨gb155, _, none⟩) (by first | exact Nat.ne_of_lt (Nat.lt_of_lt_of_le (by have := World.block_lt_of_cell? _ _ hw148_0; first | rwa [add_block] at this | exact this) GW155.out) | (rw [add_block]; exact Nat.ne_of_lt (Nat.lt_of_lt_of_le (by have := World.block_lt_of_cell? _ _ hw148_0; first | rwa [add_block] at this | exact this) GW155.out)) | (show (Addr.add _ _).block ≠ _; rw [add_block]; exact Nat.ne_of_lt (Nat.lt_of_lt_of_le (by have := World.block_lt_of_cell? _ _ hw148_0; first | rwa [add_block] at this | exact this) GW155.out)) | (dsimp only; exact Nat.ne_of_lt (Nat.lt_of_lt_of_le (by have := World.block_lt_of_cell? _ _ hw148_0; first | rwa [add_block] at this | exact this) GW155.out))) _).trans (((cell_far (p := ⟨gb155, _, none⟩) (by first | exact Nat.ne_of_lt (Nat.lt_of_lt_of_le (by have := World.block_lt_of_cell? _ _ hw148_0; first | rwa [add_block] at this | exact this) GW155.out) | (rw [add_block]; exact Nat.ne_of_lt (Nat.lt_of_lt_of_le (by have := World.block_lt_of_cell? _ _ hw148_0; first | rwa [add_block] at this | exact this) GW155.out)) | (show (Addr.add _ _).block ≠ _; rw [add_block]; exact Nat.ne_of_lt (Nat.lt_of_lt_of_le (by have := World.block_lt_of_cell? _ _ hw148_0; first | rwa [add_block] at this | exact this) GW155.out)) | (dsimp only; exact Nat.ne_of_lt (Nat.lt_of_lt_of_le (by have := World.block_lt_of_cell? _ _ hw148_0; first | rwa [add_block] at this | exact this) GW155.out))) _).trans (hHeld.1)))))))))))))), ((cell_far (p := ⟨gb155, _, none⟩) (by first | exact Nat.ne_of_lt (Nat.lt_of_lt_of_le (by have := World.block_lt_of_cell? _ _ hw150_0; first | rwa [add_block] at this | exact this) GW155.out) | (rw [add_block]; exact Nat.ne_of_lt (Nat.lt_of_lt_of_le (by have := World.block_lt_of_cell? _ _ hw150_0; first | rwa [add_block] at this | exact this) GW155.out)) | (show (Addr.add _ _).block ≠ _; rw [add_block]; exact Nat.ne_of_lt (Nat.lt_of_lt_of_le (by have := World.block_lt_of_cell? _ _ hw150_0; first | rwa [add_block] at this | exact this) GW155.out)) | (dsimp only; exact Nat.ne_of_lt (Nat.lt_of_lt_of_le (by have := World.block_lt_of_cell? _ _ hw150_0; first | rwa [add_block] at this | exact this) GW155.out))) _).trans (((cell_far (p := ⟨gb155, _, none⟩) (by first | exact Nat.ne_of_lt (Nat.lt_of_lt_of_le (by have := World.block_lt_of_cell? _ _ hw150_0; first | rwa [add_block] at this | exact this) GW155.out) | (rw [add_block]; exact Nat.ne_of_lt (Nat.lt_of_lt_of_le (by have := World.block_lt_of_cell? _ _ hw150_0; first | rwa [add_block] at this | exact this) GW155.out)) | (show (Addr.add _ _).block ≠ _; rw [add_block]; exact Nat.ne_of_lt (Nat.lt_of_lt_of_le (by have := World.block_lt_of_cell? _ _ hw150_0; first | rwa [add_block] at this | exact this) GW155.out)) | (dsimp only; exact Nat.ne_of_lt (Nat.lt_of_lt_of_le (by have := World.block_lt_of_cell? _ _ hw150_0; first | rwa [add_block] at this | exact this) GW155.out))) _).trans (((cell_far (p := ⟨gb155, _, none⟩) (by first | exact Nat.ne_of_lt (Nat.lt_of_lt_of_le (by have := World.block_lt_of_cell? _ _ hw150_0; first | rwa [add_block] at this | exact this) GW155.out) | (rw [add_block]; exact Nat.ne_of_lt (Nat.lt_of_lt_of_le (by have := World.block_lt_of_cell? _ _ hw150_0; first | rwa [add_block] at this | exact this) GW155.out)) | (show (Addr.add _ _).block ≠ _; rw [add_block]; exact Nat.ne_of_lt (Nat.lt_of_lt_of_le (by have := World.block_lt_of_cell? _ _ hw150_0; first | rwa [add_block] at this | exact this) GW155.out)) | (dsimp only; exact Nat.ne_of_lt (Nat.lt_of_lt_of_le (by have := World.block_lt_of_cell? _ _ hw150_0; first | rwa [add_block] at this | exact this) GW155.out))) _).trans (((cell_far (p := ⟨gb155, _, none⟩) (by first | exact Nat.ne_of_lt (Nat.lt_of_lt_of_le (by have := World.block_lt_of_cell? _ _ hw150_0; first | rwa [add_block] at this | exact this) GW155.out) | (rw [add_block]; exact Nat.ne_of_lt (Nat.lt_of_lt_of_le (by have := World.block_lt_of_cell? _ _ hw150_0; first | rwa [add_block] at this | exact this) GW155.out)) | (show (Addr.add _ _).block ≠ _; rw [add_block]; exact Nat.ne_of_lt (Nat.lt_of_lt_of_le (by have := World.block_lt_of_cell? _ _ hw150_0; first | rwa [add_block] at this | exact this) GW155.out)) | (dsimp only; exact Nat.ne_of_lt (Nat.lt_of_lt_of_le (by have := World.block_lt_of_cell? _ _ hw150_0; first | rwa [add_block] at this | exact this) GW155.out))) _).trans (((cell_far (p := ⟨gb155, _, none⟩) (by first | exact Nat.ne_of_lt (Nat.lt_of_lt_of_le (by have := World.block_lt_of_cell? _ _ hw150_0; first | rwa [add_block] at this | exact this) GW155.out) | (rw [add_block]; exact Nat.ne_of_lt (Nat.lt_of_lt_of_le (by have := World.block_lt_of_cell? _ _ hw150_0; first | rwa [add_block] at this | exact this) GW155.out)) | (show (Addr.add _ _).block ≠ _; rw [add_block]; exact Nat.ne_of_lt (Nat.lt_of_lt_of_le (by have := World.block_lt_of_cell? _ _ hw150_0; first | rwa [add_block] at this | exact this) GW155.out)) | (dsimp only; exact Nat.ne_of_lt (Nat.lt_of_lt_of_le (by have := World.block_lt_of_cell? _ _ hw150_0; first | rwa [add_block] at this | exact this) GW155.out))) _).trans (((cell_far (p := ⟨gb155, _, none⟩) (by first | exact Nat.ne_of_lt (Nat.lt_of_lt_of_le (by have := World.block_lt_of_cell? _ _ hw150_0; first | rwa [add_block] at this | exact this) GW155.out) | (rw [add_block]; exact Nat.ne_of_lt (Nat.lt_of_lt_of_le (by have := World.block_lt_of_cell? _ _ hw150_0; first | rwa [add_block] at this | exact this) GW155.out)) | (show (Addr.add _ _).block ≠ _; rw [add_block]; exact Nat.ne_of_lt (Nat.lt_of_lt_of_le (by have := World.block_lt_of_cell? _ _ hw150_0; first | rwa [add_block] at this | exact this) GW155.out)) | (dsimp only; exact Nat.ne_of_lt (Nat.lt_of_lt_of_le (by have := World.block_lt_of_cell? _ _ hw150_0; first | rwa [add_block] at this | exact this) GW155.out))) _).trans (((cell_far (p := ⟨gb155, _, none⟩) (by first | exact Nat.ne_of_lt (Nat.lt_of_lt_of_le (by have := World.block_lt_of_cell? _ _ hw150_0; first | rwa [add_block] at this | exact this) GW155.out) | (rw [add_block]; exact Nat.ne_of_lt (Nat.lt_of_lt_of_le (by have := World.block_lt_of_cell? _ _ hw150_0; first | rwa [add_block] at this | exact this) GW155.out)) | (show (Addr.add _ _).block ≠ _; rw [add_block]; exact Nat.ne_of_lt (Nat.lt_of_lt_of_le (by have := World.block_lt_of_cell? _ _ hw150_0; first | rwa [add_block] at this | exact this) GW155.out)) | (dsimp only; exact Nat.ne_of_lt (Nat.lt_of_lt_of_le (by have := World.block_lt_of_cell? _ _ hw150_0; first | rwa [add_block] at this | exact this) GW155.out))) _).trans (hHeld.2.1)))))))))))))), ((cell_far (p := ⟨gb155, _, none⟩) (by first | exact Nat.ne_of_lt (Nat.lt_of_lt_of_le (by have := World.block_lt_of_cell? _ _ hw152_0; first | rwa [add_block] at this | exact this) GW155.out) | (rw [add_block]; exact Nat.ne_of_lt (Nat.lt_of_lt_of_le (by have := World.block_lt_of_cell? _ _ hw152_0; first | rwa [add_block] at this | exact this) GW155.out)) | (show (Addr.add _ _).block ≠ _; rw [add_block]; exact Nat.ne_of_lt (Nat.lt_of_lt_of_le (by have := World.block_lt_of_cell? _ _ hw152_0; first | rwa [add_block] at this | exact this) GW155.out)) | (dsimp only; exact Nat.ne_of_lt (Nat.lt_of_lt_of_le (by have := World.block_lt_of_cell? _ _ hw152_0; first | rwa [add_block] at this | exact this) GW155.out))) _).trans (((cell_far (p := ⟨gb155, _, none⟩) (by first | exact Nat.ne_of_lt (Nat.lt_of_lt_of_le (by have := World.block_lt_of_cell? _ _ hw152_0; first | rwa [add_block] at this | exact this) GW155.out) | (rw [add_block]; exact Nat.ne_of_lt (Nat.lt_of_lt_of_le (by have := World.block_lt_of_cell? _ _ hw152_0; first | rwa [add_block] at this | exact this) GW155.out)) | (show (Addr.add _ _).block ≠ _; rw [add_block]; exact Nat.ne_of_lt (Nat.lt_of_lt_of_le (by have := World.block_lt_of_cell? _ _ hw152_0; first | rwa [add_block] at this | exact this) GW155.out)) | (dsimp only; exact Nat.ne_of_lt (Nat.lt_of_lt_of_le (by have := World.block_lt_of_cell? _ _ hw152_0; first | rwa [add_block] at this | exact this) GW155.out))) _).trans (((cell_far (p := ⟨gb155, _, none⟩) (by first | exact Nat.ne_of_lt (Nat.lt_of_lt_of_le (by have := World.block_lt_of_cell? _ _ hw152_0; first | rwa [add_block] at this | exact this) GW155.out) | (rw [add_block]; exact Nat.ne_of_lt (Nat.lt_of_lt_of_le (by have := World.block_lt_of_cell? _ _ hw152_0; first | rwa [add_block] at this | exact this) GW155.out)) | (show (Addr.add _ _).block ≠ _; rw [add_block]; exact Nat.ne_of_lt (Nat.lt_of_lt_of_le (by have := World.block_lt_of_cell? _ _ hw152_0; first | rwa [add_block] at this | exact this) GW155.out)) | (dsimp only; exact Nat.ne_of_lt (Nat.lt_of_lt_of_le (by have := World.block_lt_of_cell? _ _ hw152_0; first | rwa [add_block] at this | exact this) GW155.out))) _).trans (((cell_far (p := ⟨gb155, _, none⟩) (by first | exact Nat.ne_of_lt (Nat.lt_of_lt_of_le (by have := World.block_lt_of_cell? _ _ hw152_0; first | rwa [add_block] at this | exact this) GW155.out) | (rw [add_block]; exact Nat.ne_of_lt (Nat.lt_of_lt_of_le (by have := World.block_lt_of_cell? _ _ hw152_0; first | rwa [add_block] at this | exact this) GW155.out)) | (show (Addr.add _ _).block ≠ _; rw [add_block]; exact Nat.ne_of_lt (Nat.lt_of_lt_of_le (by have := World.block_lt_of_cell? _ _ hw152_0; first | rwa [add_block] at this | exact this) GW155.out)) | (dsimp only; exact Nat.ne_of_lt (Nat.lt_of_lt_of_le (by have := World.block_lt_of_cell? _ _ hw152_0; first | rwa [add_block] at this | exact this) GW155.out))) _).trans (((cell_far (p := ⟨gb155, _, none⟩) (by first | exact Nat.ne_of_lt (Nat.lt_of_lt_of_le (by have := World.block_lt_of_cell? _ _ hw152_0; first | rwa [add_block] at this | exact this) GW155.out) | (rw [add_block]; exact Nat.ne_of_lt (Nat.lt_of_lt_of_le (by have := World.block_lt_of_cell? _ _ hw152_0; first | rwa [add_block] at this | exact this) GW155.out)) | (show (Addr.add _ _).block ≠ _; rw [add_block]; exact Nat.ne_of_lt (Nat.lt_of_lt_of_le (by have := World.block_lt_of_cell? _ _ hw152_0; first | rwa [add_block] at this | exact this) GW155.out)) | (dsimp only; exact Nat.ne_of_lt (Nat.lt_of_lt_of_le (by have := World.block_lt_of_cell? _ _ hw152_0; first | rwa [add_block] at this | exact this) GW155.out))) _).trans (((cell_far (p := ⟨gb155, _, none⟩) (by first | exact Nat.ne_of_lt (Nat.lt_of_lt_of_le (by have := World.block_lt_of_cell? _ _ hw152_0; first | rwa [add_block] at this | exact this) GW155.out) | (rw [add_block]; exact Nat.ne_of_lt (Nat.lt_of_lt_of_le (by have := World.block_lt_of_cell? _ _ hw152_0; first | rwa [add_block] at this | exact this) GW155.out)) | (show (Addr.add _ _).block ≠ _; rw [add_block]; exact Nat.ne_of_lt (Nat.lt_of_lt_of_le (by have := World.block_lt_of_cell? _ _ hw152_0; first | rwa [add_block] at this | exact this) GW155.out)) | (dsimp only; exact Nat.ne_of_lt (Nat.lt_of_lt_of_le (by have := World.block_lt_of_cell? _ _ hw152_0; first | rwa [add_block] at this | exact this) GW155.out))) _).trans (((cell_far (p := ⟨gb155, _, none⟩) (by first | exact Nat.ne_of_lt (Nat.lt_of_lt_of_le (by have := World.block_lt_of_cell? _ _ hw152_0; first | rwa [add_block] at this | exact this) GW155.out) | (rw [add_block]; exact Nat.ne_of_lt (Nat.lt_of_lt_of_le (by have := World.block_lt_of_cell? _ _ hw152_0; first | rwa [add_block] at this | exact this) GW155.out)) | (show (Addr.add _ _).block ≠ _; rw [add_block]; exact Nat.ne_of_lt (Nat.lt_of_lt_of_le (by have := World.block_lt_of_cell? _ _ hw152_0; first | rwa [add_block] at this | exact this) GW155.out)) | (dsimp only; exact Nat.ne_of_lt (Nat.lt_of_lt_of_le (by have := World.block_lt_of_cell? _ _ hw152_0; first | rwa [add_block] at this | exact this) GW155.out))) _).trans (hHeld.2.2.1)))))))))))))), ((cell_far (p := ⟨gb155, _, none⟩) (by first | exact Nat.ne_of_lt (Nat.lt_of_lt_of_le (by have := World.block_lt_of_cell? _ _ hw154_0; first | rwa [add_block] at this | exact this) GW155.out) | (rw [add_block]; exact Nat.ne_of_lt (Nat.lt_of_lt_of_le (by have := World.block_lt_of_cell? _ _ hw154_0; first | rwa [add_block] at this | exact this) GW155.out)) | (show (Addr.add _ _).block ≠ _; rw [add_block]; exact Nat.ne_of_lt (Nat.lt_of_lt_of_le (by have := World.block_lt_of_cell? _ _ hw154_0; first | rwa [add_block] at this | exact this) GW155.out)) | (dsimp only; exact Nat.ne_of_lt (Nat.lt_of_lt_of_le (by have := World.block_lt_of_cell? _ _ hw154_0; first | rwa [add_block] at this | exact this) GW155.out))) _).trans (((cell_far (p := ⟨gb155, _, none⟩) (by first | exact Nat.ne_of_lt (Nat.lt_of_lt_of_le (by have := World.block_lt_of_cell? _ _ hw154_0; first | rwa [add_block] at this | exact this) GW155.out) | (rw [add_block]; exact Nat.ne_of_lt (Nat.lt_of_lt_of_le (by have := World.block_lt_of_cell? _ _ hw154_0; first | rwa [add_block] at this | exact this) GW155.out)) | (show (Addr.add _ _).block ≠ _; rw [add_block]; exact Nat.ne_of_lt (Nat.lt_of_lt_of_le (by have := World.block_lt_of_cell? _ _ hw154_0; first | rwa [add_block] at this | exact this) GW155.out)) | (dsimp only; exact Nat.ne_of_lt (Nat.lt_of_lt_of_le (by have := World.block_lt_of_cell? _ _ hw154_0; first | rwa [add_block] at this | exact this) GW155.out))) _).trans (((cell_far (p := ⟨gb155, _, none⟩) (by first | exact Nat.ne_of_lt (Nat.lt_of_lt_of_le (by have := World.block_lt_of_cell? _ _ hw154_0; first | rwa [add_block] at this | exact this) GW155.out) | (rw [add_block]; exact Nat.ne_of_lt (Nat.lt_of_lt_of_le (by have := World.block_lt_of_cell? _ _ hw154_0; first | rwa [add_block] at this | exact this) GW155.out)) | (show (Addr.add _ _).block ≠ _; rw [add_block]; exact Nat.ne_of_lt (Nat.lt_of_lt_of_le (by have := World.block_lt_of_cell? _ _ hw154_0; first | rwa [add_block] at this | exact this) GW155.out)) | (dsimp only; exact Nat.ne_of_lt (Nat.lt_of_lt_of_le (by have := World.block_lt_of_cell? _ _ hw154_0; first | rwa [add_block] at this | exact this) GW155.out))) _).trans (((cell_far (p := ⟨gb155, _, none⟩) (by first | exact Nat.ne_of_lt (Nat.lt_of_lt_of_le (by have := World.block_lt_of_cell? _ _ hw154_0; first | rwa [add_block] at this | exact this) GW155.out) | (rw [add_block]; exact Nat.ne_of_lt (Nat.lt_of_lt_of_le (by have := World.block_lt_of_cell? _ _ hw154_0; first | rwa [add_block] at this | exact this) GW155.out)) | (show (Addr.add _ _).block ≠ _; rw [add_block]; exact Nat.ne_of_lt (Nat.lt_of_lt_of_le (by have := World.block_lt_of_cell? _ _ hw154_0; first | rwa [add_block] at this | exact this) GW155.out)) | (dsimp only; exact Nat.ne_of_lt (Nat.lt_of_lt_of_le (by have := World.block_lt_of_cell? _ _ hw154_0; first | rwa [add_block] at this | exact this) GW155.out))) _).trans (((cell_far (p := ⟨gb155, _, none⟩) (by first | exact Nat.ne_of_lt (Nat.lt_of_lt_of_le (by have := World.block_lt_of_cell? _ _ hw154_0; first | rwa [add_block] at this | exact this) GW155.out) | (rw [add_block]; exact Nat.ne_of_lt (Nat.lt_of_lt_of_le (by have := World.block_lt_of_cell? _ _ hw154_0; first | rwa [add_block] at this | exact this) GW155.out)) | (show (Addr.add _ _).block ≠ _; rw [add_block]; exact Nat.ne_of_lt (Nat.lt_of_lt_of_le (by have := World.block_lt_of_cell? _ _ hw154_0; first | rwa [add_block] at this | exact this) GW155.out)) | (dsimp only; exact Nat.ne_of_lt (Nat.lt_of_lt_of_le (by have := World.block_lt_of_cell? _ _ hw154_0; first | rwa [add_block] at this | exact this) GW155.out))) _).trans (((cell_far (p := ⟨gb155, _, none⟩) (by first | exact Nat.ne_of_lt (Nat.lt_of_lt_of_le (by have := World.block_lt_of_cell? _ _ hw154_0; first | rwa [add_block] at this | exact this) GW155.out) | (rw [add_block]; exact Nat.ne_of_lt (Nat.lt_of_lt_of_le (by have := World.block_lt_of_cell? _ _ hw154_0; first | rwa [add_block] at this | exact this) GW155.out)) | (show (Addr.add _ _).block ≠ _; rw [add_block]; exact Nat.ne_of_lt (Nat.lt_of_lt_of_le (by have := World.block_lt_of_cell? _ _ hw154_0; first | rwa [add_block] at this | exact this) GW155.out)) | (dsimp only; exact Nat.ne_of_lt (Nat.lt_of_lt_of_le (by have := World.block_lt_of_cell? _ _ hw154_0; first | rwa [add_block] at this | exact this) GW155.out))) _).trans (((cell_far (p := ⟨gb155, _, none⟩) (by first | exact Nat.ne_of_lt (Nat.lt_of_lt_of_le (by have := World.block_lt_of_cell? _ _ hw154_0; first | rwa [add_block] at this | exact this) GW155.out) | (rw [add_block]; exact Nat.ne_of_lt (Nat.lt_of_lt_of_le (by have := World.block_lt_of_cell? _ _ hw154_0; first | rwa [add_block] at this | exact this) GW155.out)) | (show (Addr.add _ _).block ≠ _; rw [add_block]; exact Nat.ne_of_lt (Nat.lt_of_lt_of_le (by have := World.block_lt_of_cell? _ _ hw154_0; first | rwa [add_block] at this | exact this) GW155.out)) | (dsimp only; exact Nat.ne_of_lt (Nat.lt_of_lt_of_le (by have := World.block_lt_of_cell? _ _ hw154_0; first | rwa [add_block] at this | exact this) GW155.out))) _).trans (hHeld.2.2.2))))))))))))))⟩ (fun hHeld => ?_)
                      clear hK K
                      refine done_ (done_of HT_.out (by kernel_rfl)) ?_
                      try go_wp2
                      have n0_ : Aside0 (Kd.R k34 34 (((((((w17.setCell ⟨gb155, 0, none⟩ (.int .i64 (wrap64 (x4_1 + t149)))).setCell ⟨gb155, 1, none⟩ (.int .i64 0)).setCell ⟨gb155, 2, none⟩ (.int .i64 (wrap64 (t151 - 1)))).setCell ⟨gb155, 3, none⟩ (.int .i64 (wrap64 (t153 - 1)))).setCell ⟨gb155, 4, none⟩ (.float .f64 0)).setCell ⟨gb155, 5, none⟩ (.bool ((Go.bits .and .i64 (rd l0 (ji8)) 1) == 1))).setCell ⟨gb155, 6, none⟩ (.bool false)) w.heap.size (fun k_ => k_ ≠ gb155) u3 x3_1) := ⟨by (with_reducible repeat (first | apply Kd.R_alloc | apply Kd.R_drewN | apply Kd.R_drew)); exact Kd.R_mono (Kd.R_far (p := ⟨gb155, 6, none⟩) (Kd.R_far (p := ⟨gb155, 5, none⟩) (Kd.R_far (p := ⟨gb155, 4, none⟩) (Kd.R_far (p := ⟨gb155, 3, none⟩) (Kd.R_far (p := ⟨gb155, 2, none⟩) (Kd.R_far (p := ⟨gb155, 1, none⟩) (Kd.R_far (p := ⟨gb155, 0, none⟩) (Kd.R_mono HO_3.out (fun k_ hk => (⟨hk, hk⟩ : _ ∧ k_ ≠ gb155))) (fun _ hk => hk.2) (.int .i64 (wrap64 (x4_1 + t149)))) (fun _ hk => hk.2) (.int .i64 0)) (fun _ hk => hk.2) (.int .i64 (wrap64 (t151 - 1)))) (fun _ hk => hk.2) (.int .i64 (wrap64 (t153 - 1)))) (fun _ hk => hk.2) (.float .f64 0)) (fun _ hk => hk.2) (.bool ((Go.bits .and .i64 (rd l0 (ji8)) 1) == 1))) (fun _ hk => hk.2) (.bool false)) (fun _ hk => hk.1)⟩
                      have n1_ : Aside0 ((((((((w17.setCell ⟨gb155, 0, none⟩ (.int .i64 (wrap64 (x4_1 + t149)))).setCell ⟨gb155, 1, none⟩ (.int .i64 0)).setCell ⟨gb155, 2, none⟩ (.int .i64 (wrap64 (t151 - 1)))).setCell ⟨gb155, 3, none⟩ (.int .i64 (wrap64 (t153 - 1)))).setCell ⟨gb155, 4, none⟩ (.float .f64 0)).setCell ⟨gb155, 5, none⟩ (.bool ((Go.bits .and .i64 (rd l0 (ji8)) 1) == 1))).setCell ⟨gb155, 6, none⟩ (.bool false)).heap[gb155]? = some (.cells #[.int .i64 (wrap64 (x4_1 + t149)), .int .i64 0, .int .i64 (wrap64 (t151 - 1)), .int .i64 (wrap64 (t153 - 1)), .float .f64 0, .bool ((Go.bits .and .i64 (rd l0 (ji8)) 1) == 1), .bool false] 34 (0, 0))) := ⟨by (with_reducible repeat (first | refine blk_drewN ?_ _ | refine blk_drew ?_ | refine blk_alloc ?_ _)); refine blk_put (cs := #[.int .i64 (wrap64 (x4_1 + t149)), .int .i64 0, .int .i64 (wrap64 (t151 - 1)), .int .i64 (wrap64 (t153 - 1)), .float .f64 0, .bool ((Go.bits .and .i64 (rd l0 (ji8)) 1) == 1), .bool false]) ?_ 6 _ rfl; (with_reducible repeat (first | refine blk_drewN ?_ _ | refine blk_drew ?_ | refine blk_alloc ?_ _)); refine blk_put (cs := #[.int .i64 (wrap64 (x4_1 + t149)), .int .i64 0, .int .i64 (wrap64 (t151 - 1)), .int .i64 (wrap64 (t153 - 1)), .float .f64 0, .bool false, .bool false]) ?_ 5 _ rfl; (with_reducible repeat (first | refine blk_drewN ?_ _ | refine blk_drew ?_ | refine blk_alloc ?_ _)); refine blk_put (cs := #[.int .i64 (wrap64 (x4_1 + t149)), .int .i64 0, .int .i64 (wrap64 (t151 - 1)), .int .i64 (wrap64 (t153 - 1)), .float .f64 0, .bool false, .bool false]) ?_ 4 _ rfl; (with_reducible repeat (first | refine blk_drewN ?_ _ | refine blk_drew ?_ | refine blk_alloc ?_ _)); refine blk_put (cs := #[.int .i64 (wrap64 (x4_1 + t149)), .int .i64 0, .int .i64 (wrap64 (t151 - 1)), .int .i64 0, .float .f64 0, .bool false, .bool false]) ?_ 3 _ rfl; (with_reducible repeat (first | refine blk_drewN ?_ _ | refine blk_drew ?_ | refine blk_alloc ?_ _)); refine blk_put (cs := #[.int .i64 (wrap64 (x4_1 + t149)), .int .i64 0, .int .i64 0, .int .i64 0, .float .f64 0, .bool false, .bool false]) ?_ 2 _ rfl; (with_reducible repeat (first | refine blk_drewN ?_ _ | refine blk_drew ?_ | refine blk_alloc ?_ _)); refine blk_put (cs := #[.int .i64 (wrap64 (x4_1 + t149)), .int .i64 0, .int .i64 0, .int .i64 0, .float .f64 0, .bool false, .bool false]) ?_ 1 _ rfl; (with_reducible repeat (first | refine blk_drewN ?_ _ | refine blk_drew ?_ | refine blk_alloc ?_ _)); refine blk_put (cs := #[.int .i64 0, .int .i64 0, .int .i64 0, .int .i64 0, .float .f64 0, .bool false, .bool false]) ?_ 0 _ rfl; (with_reducible repeat (first | refine blk_drewN ?_ _ | refine blk_drew ?_ | refine blk_alloc ?_ _)); exact BK155.out⟩
                      have n2_ : Aside0 (Below w.heap.size w (((((((w17.setCell ⟨gb155, 0, none⟩ (.int .i64 (wrap64 (x4_1 + t149)))).setCell ⟨gb155, 1, none⟩ (.int .i64 0)).setCell ⟨gb155, 2, none⟩ (.int .i64 (wrap64 (t151 - 1)))).setCell ⟨gb155, 3, none⟩ (.int .i64 (wrap64 (t153 - 1)))).setCell ⟨gb155, 4, none⟩ (.float .f64 0)).setCell ⟨gb155, 5, none⟩ (.bool ((Go.bits .and .i64 (rd l0 (ji8)) 1) == 1))).setCell ⟨gb155, 6, none⟩ (.bool false))) := ⟨by repeat (first | (with_reducible first | exact HB.out | apply below_alloc | apply pw_below_drewN | apply below_drew1 | refine below_set ?_ GE155.out) | exact HB.out)⟩
                      (try clear HO_3)
                      (try clear BK155)
                      (try clear HB)
                      generalize (((((((w17.setCell ⟨gb155, 0, none⟩ (.int .i64 (wrap64 (x4_1 + t149)))).setCell ⟨gb155, 1, none⟩ (.int .i64 0)).setCell ⟨gb155, 2, none⟩ (.int .i64 (wrap64 (t151 - 1)))).setCell ⟨gb155, 3, none⟩ (.int .i64 (wrap64 (t153 - 1)))).setCell ⟨gb155, 4, none⟩ (.float .f64 0)).setCell ⟨gb155, 5, none⟩ (.bool ((Go.bits .and .i64 (rd l0 (ji8)) 1) == 1))).setCell ⟨gb155, 6, none⟩ (.bool false)) = w25 at n0_ n1_ n2_ ⊢
                      have HO_3 := n0_
                      have BK155 := n1_
                      have HB := n2_
                      clear n0_ n1_ n2_
                      have n0_ := Aside0.mk (Kd.R_drew HO_3.out)
                      have n1_ := Aside0.mk (blk_drew BK155.out)
                      have n2_ := Aside0.mk (below_drew1 HB.out)
                      clear HO_3
                      clear BK155
                      clear HB
                      have HO_3 := n0_
                      have BK155 := n1_
                      have HB := n2_
                      clear n0_ n1_ n2_
                      have p156 : 0 ≤ ((ji8) : Int) := of_decide_eq_true (by first | (with_reducible assumption) | assumption)
                      have q156 : (ji8) < (l0.length : Int) := of_decide_eq_true (by first | (with_reducible assumption) | assumption)
                      obtain ⟨ad156, e156, hx156_0⟩ := Kd.at_int HR0.out (ji8) p156 q156
                      have hw156_0 := hx156_0
                      obtain rfl : ad148 = ad156 := (by injection e156)
                      replace hx156_0 := (HB.out.cell (World.block_lt_of_cell? w _ hx156_0)).trans hx156_0
                      replace p156 := eq_true p156
                      replace q156 := eq_true q156
                      refine start_ (n := 12) (S := fun w' => w'.cell? ⟨gb155, 0, none⟩ = some (.int .i64 (wrap64 (x4_1 + t149))) ∧ w'.cell? ⟨gb155, 1, none⟩ = some (.int .i64 0) ∧ w'.cell? ⟨gb155, 2, none⟩ = some (.int .i64 (wrap64 (t151 - 1))) ∧ w'.cell? ⟨gb155, 3, none⟩ = some (.int .i64 (wrap64 (t153 - 1))) ∧ w'.cell? ⟨gb155, 4, none⟩ = some (.float .f64 0) ∧ w'.cell? ⟨gb155, 5, none⟩ = some (.bool ((Go.bits .and .i64 (rd l0 (ji8)) 1) == 1)) ∧ w'.cell? ⟨gb155, 6, none⟩ = some (.bool false) ∧ w'.cell? (ad148.add ((ji8)).toNat) = some (.int .i64 (rd l0 (ji8)))) (ds := [11]) #[false, false, false, false, false, false, false, false, false, false, false, false] (by kernel_rfl) rfl rfl ⟨(blk_cell BK155.out 0).trans rfl, (blk_cell BK155.out 1).trans rfl, (blk_cell BK155.out 2).trans rfl, (blk_cell BK155.out 3).trans rfl, (blk_cell BK155.out 4).trans rfl, (blk_cell BK155.out 5).trans rfl, (blk_cell BK155.out 6).trans rfl, ((HB.out.cell (World.block_lt_of_cell? w _ hw156_0)).trans hw156_0)⟩ (fun hHeld => ?_); refine with_tabW laws_refLines.tab7 laws_refLines.bits7 (fun HT_ HW_ => ?_)
                      generalize w25.drew = w26 at HO_3 BK155 HB hx156_0 hHeld ⊢
                      refine pure_ (i := 0) (N := some 49) (v := ?_) (a' := ?_) #[true, false, false, false, false, false, false, false, false, false, false, false] rfl rfl (any_of HT_.out (by kernel_rfl)) (fun _ _ _ h => h) (Or.inl ⟨by rfl, ?_⟩) ?_ ?_
                      rotate_left
                      · intro w'
                        go_simp
                        with_reducible rfl
                      rotate_left
                      · simp only [Act.put, List.setIfInBounds_toArray, List.set_cons_zero, List.set_cons_succ, i64_w, i32_w]
                        rfl
                      refine pure_ (i := 2) (N := some 51) (v := ?_) (a' := ?_) #[true, false, true, false, false, false, false, false, false, false, false, false] rfl rfl (any_of HT_.out (by kernel_rfl)) (fun _ _ _ h => h) (Or.inl ⟨by rfl, ?_⟩) ?_ ?_
                      rotate_left
                      · intro w'
                        go_simp
                        with_reducible rfl
                      rotate_left
                      · simp only [Act.put, List.setIfInBounds_toArray, List.set_cons_zero, List.set_cons_succ, i64_w, i32_w]
                        rfl
                      refine pure_ (i := 3) (N := some 52) (v := ?_) (a' := ?_) #[true, false, true, true, false, false, false, false, false, false, false, false] rfl rfl (any_of HT_.out (by kernel_rfl)) (fun _ _ _ h => h) (Or.inl ⟨by rfl, ?_⟩) ?_ ?_
                      rotate_left
                      · intro w'
                        go_simp
                        with_reducible rfl
                      rotate_left
                      · simp only [Act.put, List.setIfInBounds_toArray, List.set_cons_zero, List.set_cons_succ, i64_w, i32_w]
                        rfl
                      refine pure_ (i := 4) (N := some 53) (v := ?_) (a' := ?_) #[true, false, true, true, true, false, false, false, false, false, false, false] rfl rfl (any_of HT_.out (by kernel_rfl)) (fun _ _ _ h => h) (Or.inl ⟨by rfl, ?_⟩) ?_ ?_
                      rotate_left
                      · intro w'
                        go_simp
                        with_reducible rfl
                      rotate_left
                      · simp only [Act.put, List.setIfInBounds_toArray, List.set_cons_zero, List.set_cons_succ, i64_w, i32_w]
                        rfl
                      refine pure_ (i := 5) (N := some 54) (v := ?_) (a' := ?_) #[true, false, true, true, true, true, false, false, false, false, false, false] rfl rfl (any_of HT_.out (by kernel_rfl)) (fun _ _ _ h => h) (Or.inl ⟨by rfl, ?_⟩) ?_ ?_
                      rotate_left
                      · intro w'
                        go_simp
                        with_reducible rfl
                      rotate_left
                      · simp only [Act.put, List.setIfInBounds_toArray, List.set_cons_zero, List.set_cons_succ, i64_w, i32_w]
                        rfl
                      refine take_ (i := 1) (N := some 50) (v := ?_) (a' := ?_) #[true, true, true, true, true, true, false, false, false, false, false, false] rfl rfl (take_ofW HT_.out HW_.out (by kernel_rfl)) (fun _ _ _ h => h) (Or.inl ⟨by rfl, ?_⟩) hHeld ?_ ?_
                      rotate_left
                      · rintro w' ⟨s0, s1, s2, s3, s4, s5, s6, s7⟩
                        go_simp
                        with_reducible rfl
                      rotate_left
                      · simp only [Act.put, List.setIfInBounds_toArray, List.set_cons_zero, List.set_cons_succ, i64_w, i32_w]
                        rfl
                      refine take_ (i := 6) (N := some 55) (v := ?_) (a' := ?_) #[true, true, true, true, true, true, true, false, false, false, false, false] rfl rfl (take_ofW HT_.out HW_.out (by kernel_rfl)) (fun _ _ _ h => h) (Or.inl ⟨by rfl, ?_⟩) hHeld ?_ ?_
                      rotate_left
                      · rintro w' ⟨s0, s1, s2, s3, s4, s5, s6, s7⟩
                        go_simp
                        with_reducible rfl
                      rotate_left
                      · simp only [Act.put, List.setIfInBounds_toArray, List.set_cons_zero, List.set_cons_succ, i64_w, i32_w]
                        rfl
                      refine one_ (i := 7) (N := some 56) #[true, true, true, true, true, true, true, true, false, false, false, false] rfl rfl (one_of HT_.out (by kernel_rfl)) (by decide) (fun K hK => ?_)
                      refine goes_ Try.func11 (by kernel_rfl) rfl #[.int .i64 (rd l0 (ji8)), .int .i64 4] (by rfl) rfl rfl (by (try simp only [List.map_toArray, List.map_cons, List.map_nil]); first | done | (simp only [hji8]; rfl) | rfl | (simp only [List.length_drop, List.length_take]; rfl)) ?_
                      with_reducible refine (laws_gridNumber.calls (rd l0 (ji8)) 4 t157 _ A13.out).mono ?_
                      rintro e w' ⟨rfl, ⟨nd, rfl⟩⟩
                      refine ⟨_, rfl, ?_⟩
                      refine hK.out _ _ ⟨(blk_cell BK155.out 0).trans rfl, (blk_cell BK155.out 1).trans rfl, (blk_cell BK155.out 2).trans rfl, (blk_cell BK155.out 3).trans rfl, (blk_cell BK155.out 4).trans rfl, (blk_cell BK155.out 5).trans rfl, (blk_cell BK155.out 6).trans rfl, ((HB.out.cell (World.block_lt_of_cell? w _ hw156_0)).trans hw156_0)⟩ (fun hHeld => ?_)
                      clear hK K
                      refine norm_ (a' := ?_) ?_ ?_
                      rotate_left
                      · show Act.put _ (some 56) _ = _
                        simp only [Act.put, List.setIfInBounds_toArray, List.set_cons_zero, List.set_cons_succ, i64_w, i32_w]
                        rfl
                      refine pure_ (i := 8) (N := some 57) (v := ?_) (a' := ?_) #[true, true, true, true, true, true, true, true, true, false, false, false] rfl rfl (any_of HT_.out (by kernel_rfl)) (fun _ _ _ h => h) (Or.inl ⟨by rfl, ?_⟩) ?_ ?_
                      rotate_left
                      · intro w'
                        go_simp
                        with_reducible rfl
                      rotate_left
                      · simp only [Act.put, List.setIfInBounds_toArray, List.set_cons_zero, List.set_cons_succ, i64_w, i32_w]
                        rfl
                      refine pure_ (i := 9) (N := some 58) (v := ?_) (a' := ?_) #[true, true, true, true, true, true, true, true, true, true, false, false] rfl rfl (any_of HT_.out (by kernel_rfl)) (fun _ _ _ h => h) (Or.inl ⟨by rfl, ?_⟩) ?_ ?_
                      rotate_left
                      · intro w'
                        go_simp
                        with_reducible rfl
                      rotate_left
                      · simp only [Act.put, List.setIfInBounds_toArray, List.set_cons_zero, List.set_cons_succ, i64_w, i32_w]
                        rfl
                      refine pure_ (i := 10) (N := some 59) (v := ?_) (a' := ?_) #[true, true, true, true, true, true, true, true, true, true, true, false] rfl rfl (any_of HT_.out (by kernel_rfl)) (fun _ _ _ h => h) (Or.inl ⟨by rfl, ?_⟩) ?_ ?_
                      rotate_left
                      · intro w'
                        go_simp
                        with_reducible rfl
                      rotate_left
                      · simp only [Act.put, List.setIfInBounds_toArray, List.set_cons_zero, List.set_cons_succ, i64_w, i32_w]
                        rfl
                      refine last_ (i := 11) (N := none) #[true, true, true, true, true, true, true, true, true, true, true, true] rfl rfl (one_of HT_.out (by kernel_rfl)) (by decide) (fun K hK => ?_)
                      have hs27 : w26.cell? ⟨gb155, 1, none⟩ = some (.int .i64 0) := (blk_cell BK155.out 1).trans rfl
                      have hfs27 := blk_frozen BK155.out 1
                      refine skip_ (w1 := ?_) (by rfl) rfl ?_ ?_
                      rotate_left
                      · go_simp
                        rfl
                      refine hK.out _ _ ?_
                      clear hK K
                      refine done_ (done_of HT_.out (by kernel_rfl)) ?_
                      have hcz28_0 : w26.cell? ⟨gb155, 0, none⟩ = some (.int .i64 (wrap64 (x4_1 + t149))) := (blk_cell BK155.out 0).trans rfl
                      have hcz28_1 : w26.cell? ⟨gb155, 1, none⟩ = some (.int .i64 0) := (blk_cell BK155.out 1).trans rfl
                      have hcz28_2 : w26.cell? ⟨gb155, 2, none⟩ = some (.int .i64 (wrap64 (t151 - 1))) := (blk_cell BK155.out 2).trans rfl
                      have hcz28_3 : w26.cell? ⟨gb155, 3, none⟩ = some (.int .i64 (wrap64 (t153 - 1))) := (blk_cell BK155.out 3).trans rfl
                      have hcz28_4 : w26.cell? ⟨gb155, 4, none⟩ = some (.float .f64 0) := (blk_cell BK155.out 4).trans rfl
                      have hcz28_5 : w26.cell? ⟨gb155, 5, none⟩ = some (.bool ((Go.bits .and .i64 (rd l0 (ji8)) 1) == 1)) := (blk_cell BK155.out 5).trans rfl
                      have hcz28_6 : w26.cell? ⟨gb155, 6, none⟩ = some (.bool false) := (blk_cell BK155.out 6).trans rfl
                      have hfz28_0 := blk_frozen BK155.out 0
                      have hfz28_1 := blk_frozen BK155.out 1
                      have hfz28_2 := blk_frozen BK155.out 2
                      have hfz28_3 := blk_frozen BK155.out 3
                      have hfz28_4 := blk_frozen BK155.out 4
                      have hfz28_5 := blk_frozen BK155.out 5
                      have hfz28_6 := blk_frozen BK155.out 6
                      try go_wp2_with (first | ((with_reducible refine gate_builtin (b := .append) (xs := #[.tmp 62, .tmp 64]) rfl ?_); at_builtin; refine Kd.R_append k34 (w0 := w) w.heap.size rfl (.tmp 62) (.tmp 64) 29 34 (.agg #[(.int .i64 0), (.int .i64 0), (.int .i64 0), (.int .i64 0), (.float .f64 0), (.bool false), (.bool false)]) 48 rfl Try.underlying29 info34 rfl (by decide) (by omega) u3 x3_1 (⟨wrap64 (x4_1 + t149), wrap64 ((wrap64 ((wrap64 (x4_1 + t149)) + t157)) - 1), wrap64 (t151 - 1), wrap64 (t153 - 1), 0, ((Go.bits .and .i64 (rd l0 (ji8)) 1) == 1), false⟩ : S34) [.int .i64 (wrap64 (x4_1 + t149)), .int .i64 (wrap64 ((wrap64 ((wrap64 (x4_1 + t149)) + t157)) - 1)), .int .i64 (wrap64 (t151 - 1)), .int .i64 (wrap64 (t153 - 1)), .float .f64 0, .bool ((Go.bits .and .i64 (rd l0 (ji8)) 1) == 1), .bool false] (fun k_ => k_ ≠ gb155) (fun _ => False) rfl (by first | (go_simp; done) | (go_simp; rfl)) ?aP (fun _ hk => hk.elim) ?aF ?aO ?aB ?aS ?aL ?_; (case aP => exact k34_mkM _ _ _ (⟨wrap64 (x4_1 + t149), wrap64 ((wrap64 ((wrap64 (x4_1 + t149)) + t157)) - 1), wrap64 (t151 - 1), wrap64 (t153 - 1), 0, ((Go.bits .and .i64 (rd l0 (ji8)) 1) == 1), false⟩ : S34)); (case aB => exact (by repeat (first | (with_reducible first | exact HB.out | apply below_alloc | apply pw_below_drewN | apply below_drew1 | refine below_set ?_ GE155.out) | exact HB.out))); (case aF => exact (fun k_ hk => Kd.freshB (g := gb155) (o := .cells #[.int .i64 (wrap64 (x4_1 + t149)), .int .i64 (wrap64 ((wrap64 ((wrap64 (x4_1 + t149)) + t157)) - 1)), .int .i64 (wrap64 (t151 - 1)), .int .i64 (wrap64 (t153 - 1)), .float .f64 0, .bool ((Go.bits .and .i64 (rd l0 (ji8)) 1) == 1), .bool false] 34 (0, 0)) (by (with_reducible repeat (first | refine blk_drewN ?_ _ | refine blk_drew ?_ | refine blk_alloc ?_ _)); refine blk_put (cs := #[.int .i64 (wrap64 (x4_1 + t149)), .int .i64 0, .int .i64 (wrap64 (t151 - 1)), .int .i64 (wrap64 (t153 - 1)), .float .f64 0, .bool ((Go.bits .and .i64 (rd l0 (ji8)) 1) == 1), .bool false]) ?_ 1 _ rfl; (with_reducible repeat (first | refine blk_drewN ?_ _ | refine blk_drew ?_ | refine blk_alloc ?_ _)); exact BK155.out) k_ hk)); (case aO => exact (by (with_reducible repeat (first | apply Kd.R_alloc | apply Kd.R_drewN | apply Kd.R_drew)); exact Kd.R_mono (Kd.R_far (p := ⟨gb155, 1, none⟩) (Kd.R_mono HO_3.out (fun k_ hk => (⟨hk, hk⟩ : _ ∧ k_ ≠ gb155))) (fun _ hk => hk.2) (.int .i64 (wrap64 ((wrap64 ((wrap64 (x4_1 + t149)) + t157)) - 1)))) (fun _ hk => hk.1))); (case aS => exact (below_size (by repeat (first | (with_reducible first | exact HB.out | apply below_alloc | apply pw_below_drewN | apply below_drew1 | refine below_set ?_ GE155.out) | exact HB.out)))); (case aL => have := LMc14.out; omega); intro v159 w29 ho hb hg hat; rw [← Ny158.out] at ho; have n0_ := Aside0.mk (blk_grown (g := gb155) (o := .cells #[.int .i64 (wrap64 (x4_1 + t149)), .int .i64 (wrap64 ((wrap64 ((wrap64 (x4_1 + t149)) + t157)) - 1)), .int .i64 (wrap64 (t151 - 1)), .int .i64 (wrap64 (t153 - 1)), .float .f64 0, .bool ((Go.bits .and .i64 (rd l0 (ji8)) 1) == 1), .bool false] 34 (0, 0)) (by (with_reducible repeat (first | refine blk_drewN ?_ _ | refine blk_drew ?_ | refine blk_alloc ?_ _)); refine blk_put (cs := #[.int .i64 (wrap64 (x4_1 + t149)), .int .i64 0, .int .i64 (wrap64 (t151 - 1)), .int .i64 (wrap64 (t153 - 1)), .float .f64 0, .bool ((Go.bits .and .i64 (rd l0 (ji8)) 1) == 1), .bool false]) ?_ 1 _ rfl; (with_reducible repeat (first | refine blk_drewN ?_ _ | refine blk_drew ?_ | refine blk_alloc ?_ _)); exact BK155.out) hg (Kd.R_away HO_3.out (fun _ hk => hk))); have n1_ := Aside0.mk (hb); have n2_ := Aside0.mk (ho); clear BK155; clear HB; clear HO_3; have BK155 := n0_; have HB := n1_; have HO160 := n2_; clear n0_ n1_ n2_; clear ho hb hg hat))
                      go_roundg kj1
                      case measure => have := HK1.out; have := HJ1.out; omega
                      case rel => exact ⟨(y158), (wrap64 ((wrap64 ((wrap64 (x4_1 + t149)) + t157)) - 1)), (wrap64 (x5_1 + 2)), (by first | rfl | (simp; done) | (simp [*]; done)), (by first | rfl | (simp; done) | (simp [*]; done)), H', ⟨by have := HK1.out; have := HJ1.out; omega⟩, ⟨by (with_reducible repeat (first | apply Kd.R_alloc | apply Kd.R_drewN | apply Kd.R_drew)); exact Kd.R_mono HO160.out (fun _ hk => trivial)⟩, ⟨by repeat (first | (with_reducible first | exact HB.out | apply below_alloc | apply pw_below_drewN | apply below_drew1 | refine below_set ?_ GE155.out) | exact HB.out)⟩⟩
                    · rw [if_neg c14] at H
                      exact absurd H (by simp)
                  · rw [if_neg c10] at H
                    exact absurd H (by simp)
                · rw [if_neg c9] at H
                  exact absurd H (by simp)
              · rw [if_neg c6] at H
                exact absurd H (by simp)
            · rw [if_neg c5] at H
              exact absurd H (by simp)
          · replace c4 := Bool.eq_false_iff.mpr c4
            subst c4
            have H1 : (some x3_1) = some r := by rw [if_neg (show ¬ (false = true) by decide)] at H; exact H
            clear H
            have H := H1
            clear H1
            obtain rfl := Option.some.inj H
            go_wp2
            go_ret
            exact ⟨_, by first | rfl | (simp [errW_none, errW_some] <;> rfl) | (simp [*, errW_none, errW_some] <;> rfl), by (with_reducible repeat (first | apply Kd.R_alloc | apply Kd.R_drewN | apply Kd.R_drew)); exact HO_3.out, by repeat (first | (with_reducible first | exact HB.out | apply below_alloc | apply pw_below_drewN | apply below_drew1) | exact HB.out)⟩

end Go.Proofs.Ytjefbpfpobgmaaa.PLv
