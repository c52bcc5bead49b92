/- Contracts of functions that the text "Fq" uses: the call ends in what the plain Lean function says, where that says something. Written by a program of this session. No conditions. -/
import Derived.Test.YtjefbpfpobgmaaaPFqx0
namespace Go.Proofs.Ytjefbpfpobgmaaa.PFq
open Go.RowKit Go.Proofs.YtjefbpfpobgmaaaW.PrintWords Go.Proofs.YtjefbpfpobgmaaaW.PrintLast Go.Proofs.YtjefbpfpobgmaaaW.PrintMore
attribute [local go_sem] max2_int min2_int max_two min_two max_three min_three max_four min_four   -- for this text's walks alone
set_option linter.unusedVariables false
set_option linter.unusedSimpArgs false

/-! ### spec_SumsFrequency: function 20 -/
mutual
def spec_SumsFrequency.l0 : Nat → List Int → List Int → List Int → Int → Option (List Int)
  | 0, _, _, _, _ => none
  | k + 1, x0, x1, x5, x6 => if x6 < (x0.length : Int) then (spec_SumsFrequency.l1 k x0 x1 x5 x6 0) else (some x5)
def spec_SumsFrequency.l1 : Nat → List Int → List Int → List Int → Int → Int → Option (List Int)
  | 0, _, _, _, _, _ => none
  | k + 1, x0, x1, x5, x6, x7 => if x7 < (x1.length : Int) then (if 0 ≤ x6 then (if x6 < (x0.length : Int) then (if 0 ≤ x7 then (if (rd x0 x6) > (rd x1 x7) then (spec_SumsFrequency.l1 k x0 x1 x5 x6 (wrap64 (x7 + 1))) else (if x7 < (x5.length : Int) then (spec_SumsFrequency.l0 k x0 x1 (x5.set (x7 : Int).toNat (wrap64 ((rd x5 x7) + 1))) (wrap64 (x6 + 1))) else (none))) else (none)) else (none)) else (none)) else (if 0 ≤ x7 then (if x7 < (x5.length : Int) then (spec_SumsFrequency.l0 k x0 x1 (x5.set (x7 : Int).toNat (wrap64 ((rd x5 x7) + 1))) (wrap64 (x6 + 1))) else (none)) else (none))
end
def spec_SumsFrequency.f (k : Nat) (l0 : List Int) (l1 : List Int) : Option (List Int) := if 0 ≤ (wrap64 ((l1.length : Int) + 1)) then (if (wrap64 ((l1.length : Int) + 1) : Int).toNat ≤ 35184372088832 then (spec_SumsFrequency.l0 k l0 l1 (List.replicate (wrap64 ((l1.length : Int) + 1) : Int).toNat 0) 0) else (none)) else (none)
theorem spec_SumsFrequency.mono_l : ∀ k, (∀ y0 y1 y2 y3, LeO (spec_SumsFrequency.l0 k y0 y1 y2 y3) (spec_SumsFrequency.l0 (k + 1) y0 y1 y2 y3)) ∧ (∀ y0 y1 y2 y3 y4, LeO (spec_SumsFrequency.l1 k y0 y1 y2 y3 y4) (spec_SumsFrequency.l1 (k + 1) y0 y1 y2 y3 y4))
  | 0 => ⟨fun _ _ _ _ r h => by simp [spec_SumsFrequency.l0] at h, fun _ _ _ _ _ r h => by simp [spec_SumsFrequency.l1] at h⟩
  | k + 1 => by
    obtain ⟨ih0, ih1⟩ := spec_SumsFrequency.mono_l k
    refine ⟨?_, ?_⟩
    · intro y0 y1 y2 y3
      unfold spec_SumsFrequency.l0
      repeat' first
      | (with_reducible exact ih0 _ _ _ _)
      | (with_reducible exact ih1 _ _ _ _ _)
      | (with_reducible exact LeO.refl _)
      | (with_reducible exact LeO.none _)
      | (with_reducible refine LeO.ite ?_ ?_)
      | (with_reducible refine LeO.bind ?_ (fun _ => ?_))
      | exact ih0 _ _ _ _
      | exact ih1 _ _ _ _ _
      | exact LeO.none _
      | refine LeO.ite ?_ ?_
      | refine LeO.bind ?_ (fun _ => ?_)
    · intro y0 y1 y2 y3 y4
      unfold spec_SumsFrequency.l1
      repeat' first
      | (with_reducible exact ih0 _ _ _ _)
      | (with_reducible exact ih1 _ _ _ _ _)
      | (with_reducible exact LeO.refl _)
      | (with_reducible exact LeO.none _)
      | (with_reducible refine LeO.ite ?_ ?_)
      | (with_reducible refine LeO.bind ?_ (fun _ => ?_))
      | exact ih0 _ _ _ _
      | exact ih1 _ _ _ _ _
      | exact LeO.none _
      | refine LeO.ite ?_ ?_
      | refine LeO.bind ?_ (fun _ => ?_)
theorem spec_SumsFrequency.mono : ∀ a0 a1 k, LeO (spec_SumsFrequency.f k a0 a1) (spec_SumsFrequency.f (k + 1) a0 a1) := by
  intro a0 a1 k
  obtain ⟨ih0, ih1⟩ := spec_SumsFrequency.mono_l k
  unfold spec_SumsFrequency.f
  repeat' first
      | (with_reducible exact ih0 _ _ _ _)
      | (with_reducible exact ih1 _ _ _ _ _)
      | (with_reducible exact LeO.refl _)
      | (with_reducible exact LeO.none _)
      | (with_reducible refine LeO.ite ?_ ?_)
      | (with_reducible refine LeO.bind ?_ (fun _ => ?_))
      | exact ih0 _ _ _ _
      | exact ih1 _ _ _ _ _
      | exact LeO.none _
      | refine LeO.ite ?_ ?_
      | refine LeO.bind ?_ (fun _ => ?_)
set_option maxHeartbeats 8000000 in
set_option maxRecDepth 100000 in
theorem spec_SumsFrequency.calls (k : Nat) (A0 : Option Addr) (c0 : Nat) (l0 : List Int) (A1 : Option Addr) (c1 : Nat) (l1 : List Int) (r : List Int) (w : World) (hr0 : Kd.C (Kd.int .i64) w A0 l0.length l0) (hc0 : l0.length ≤ c0) (hr1 : Kd.C (Kd.int .i64) w A1 l1.length l1) (hc1 : l1.length ≤ c1) (h : spec_SumsFrequency.f k l0 l1 = some r) :
    Calls Try.prog 20 #[.slice A0 l0.length c0, .slice A1 l1.length c1] w fun e w' => ∃ v0_ : Value, e = .returned (v0_) ∧ Kd.R (Kd.int .i64) 3 w' w.heap.size (fun _ => True) v0_ r ∧ Below w.heap.size w w' := by
  have HR0 := Aside0.mk hr0
  have HC0 := Aside0.mk hc0
  clear hr0 hc0
  have HR1 := Aside0.mk hr1
  have HC1 := Aside0.mk hc1
  clear hr1 hc1
  have HB := Aside0.mk (Below.refl w.heap.size w)
  have H : (if 0 ≤ (wrap64 ((l1.length : Int) + 1)) then (if (wrap64 ((l1.length : Int) + 1) : Int).toNat ≤ 35184372088832 then (spec_SumsFrequency.l0 k l0 l1 (List.replicate (wrap64 ((l1.length : Int) + 1) : Int).toNat 0) 0) else (none)) else (none)) = some r := h
  clear h
  obtain ⟨ji3, hji3⟩ : ∃ j_ : Int, (wrap64 ((l1.length : Int) + 1)) = j_ := ⟨_, rfl⟩
  replace H : (if 0 ≤ (ji3) then (if (ji3 : Int).toNat ≤ 35184372088832 then (spec_SumsFrequency.l0 k l0 l1 (List.replicate (ji3 : Int).toNat 0) 0) else (none)) else (none)) = some r := by first | (rw [hji3] at H; exact H) | (simp only [hji3] at H ⊢; exact H)
  have hji3w : (IntKind.i64.wrap ((l1.length : Int) + 1)) = ji3 := (i64_w _).trans hji3
  by_cases c4 : 0 ≤ (ji3)
  · rw [if_pos c4] at H
    have c4b0 := eq_true c4
    have c4b1 : decide (0 ≤ (ji3)) = true := decide_eq_true c4
    clear c4
    by_cases c5 : (ji3 : Int).toNat ≤ 35184372088832
    · rw [if_pos c5] at H
      have c5b0 := eq_true c5
      have c5b1 : decide ((ji3 : Int).toNat ≤ 35184372088832) = true := decide_eq_true c5
      clear c5
      obtain ⟨y101, hy101⟩ : ∃ y_ : List Int, y_ = (List.replicate (ji3 : Int).toNat 0) := ⟨_, rfl⟩
      replace H : (spec_SumsFrequency.l0 k l0 l1 y101 0) = some r := by first | (rw [hy101]; with_reducible exact H) | (have H2_ := (Option.bind_some _ _).symm.trans H; rw [hy101]; with_reducible exact H2_) | (have H2_ := (Option.bind_some _ _).symm.trans H; with_reducible exact H2_) | with_reducible exact H | (rw [hy101]; exact H) | exact H
      have Ny101 := Aside0.mk hy101
      clear hy101
      have H' := Aside0.mk H
      clear H
      go_enter Try.func20, Try.ntmps20
      go_wp2_with (first | ((with_reducible refine gate_dst (N := 11) rfl ?_); refine Kd.R_make (Kd.int .i64) _ 3 rfl (N := 11) rfl 28 _ _ rfl ji3 rfl rfl Try.underlying28 (.int .i64 0) 8 info3 rfl (by decide) (by omega) 0 (ok := fun _ => True) (okp := fun _ => True) rfl (fun _ hk => hk) trivial (of_decide_eq_true (by first | (with_reducible assumption) | assumption)) (Nat.le_trans (Nat.mul_le_mul_right _ (of_decide_eq_true (by first | (with_reducible assumption) | assumption) : ji3.toNat ≤ 35184372088832)) (by omega)) (Below.refl _ _) (Nat.le_refl _) ?_; intro v102 w6 ho7 hb hg_ hnew_; clear hg_ hnew_; (first | rw [← Ny101.out] at ho7 | (simp only [Int.reduceToNat] at ho7; rw [← Ny101.out] at ho7)); have n0_ := Aside0.mk (Kd.R_lower ho7 (below_size (by repeat (first | (with_reducible first | exact HB.out | apply below_alloc | apply pw_below_drewN | apply below_drew1) | exact HB.out)))); have n1_ := Aside0.mk (below_step (by repeat (first | (with_reducible first | exact HB.out | apply below_alloc | apply pw_below_drewN | apply below_drew1) | exact HB.out)) hb); clear HB; have HO103 := n0_; have HB := n1_; clear n0_ n1_; clear hb ho7))
      repeat (go_quiet (first | ((with_reducible refine gate_dst (N := 11) rfl ?_); refine Kd.R_make (Kd.int .i64) _ 3 rfl (N := 11) rfl 28 _ _ rfl ji3 rfl rfl Try.underlying28 (.int .i64 0) 8 info3 rfl (by decide) (by omega) 0 (ok := fun _ => True) (okp := fun _ => True) rfl (fun _ hk => hk) trivial (of_decide_eq_true (by first | (with_reducible assumption) | assumption)) (Nat.le_trans (Nat.mul_le_mul_right _ (of_decide_eq_true (by first | (with_reducible assumption) | assumption) : ji3.toNat ≤ 35184372088832)) (by omega)) (Below.refl _ _) (Nat.le_refl _) ?_; intro v102 w6 ho7 hb hg_ hnew_; clear hg_ hnew_; (first | rw [← Ny101.out] at ho7 | (simp only [Int.reduceToNat] at ho7; rw [← Ny101.out] at ho7)); have n0_ := Aside0.mk (Kd.R_lower ho7 (below_size (by repeat (first | (with_reducible first | exact HB.out | apply below_alloc | apply pw_below_drewN | apply below_drew1) | exact HB.out)))); have n1_ := Aside0.mk (below_step (by repeat (first | (with_reducible first | exact HB.out | apply below_alloc | apply pw_below_drewN | apply below_drew1) | exact HB.out)) hb); clear HB; have HO103 := n0_; have HB := n1_; clear n0_ n1_; clear hb ho7)); try go_wp2_with (first | ((with_reducible refine gate_dst (N := 11) rfl ?_); refine Kd.R_make (Kd.int .i64) _ 3 rfl (N := 11) rfl 28 _ _ rfl ji3 rfl rfl Try.underlying28 (.int .i64 0) 8 info3 rfl (by decide) (by omega) 0 (ok := fun _ => True) (okp := fun _ => True) rfl (fun _ hk => hk) trivial (of_decide_eq_true (by first | (with_reducible assumption) | assumption)) (Nat.le_trans (Nat.mul_le_mul_right _ (of_decide_eq_true (by first | (with_reducible assumption) | assumption) : ji3.toNat ≤ 35184372088832)) (by omega)) (Below.refl _ _) (Nat.le_refl _) ?_; intro v102 w6 ho7 hb hg_ hnew_; clear hg_ hnew_; (first | rw [← Ny101.out] at ho7 | (simp only [Int.reduceToNat] at ho7; rw [← Ny101.out] at ho7)); have n0_ := Aside0.mk (Kd.R_lower ho7 (below_size (by repeat (first | (with_reducible first | exact HB.out | apply below_alloc | apply pw_below_drewN | apply below_drew1) | exact HB.out)))); have n1_ := Aside0.mk (below_step (by repeat (first | (with_reducible first | exact HB.out | apply below_alloc | apply pw_below_drewN | apply below_drew1) | exact HB.out)) hb); clear HB; have HO103 := n0_; have HB := n1_; clear n0_ n1_; clear hb ho7)))
      go_loopg [6] k (fun kq v6 w' => ∃ (x5_1 : List Int) (x6_1 : Int), v6 = .int .i64 x6_1 ∧ Aside0 (spec_SumsFrequency.l0 kq l0 l1 x5_1 x6_1 = some r) ∧ Aside0 (kq ≤ k) ∧ Aside0 (Kd.R (Kd.int .i64) 3 w' w.heap.size (fun _ => True) v102 x5_1) ∧ Aside0 (Below w.heap.size w w'))
      case atStart => exact ⟨(y101), (0), (by first | rfl | (simp; done) | (simp [*]; done)), H', ⟨Nat.le_refl _⟩, ⟨by (with_reducible repeat (first | apply Kd.R_alloc | apply Kd.R_drewN | apply Kd.R_drew)); exact HO103.out⟩, ⟨by repeat (first | (with_reducible first | exact HB.out | apply below_alloc | apply pw_below_drewN | apply below_drew1) | exact HB.out)⟩⟩
      case round =>
        clear H'
        try clear c1
        try clear c2
        try clear p2
        try clear c4
        try clear c4b0
        try clear c4b1
        try clear c5
        try clear c5b0
        try clear c5b1
        try clear p6
        obtain ⟨x5_1, x6_1, rfl, HA, HK1, HO_5, HB⟩ := hrel
        cases gk with
        | zero => exact absurd HA.out (by simp [spec_SumsFrequency.l0])
        | succ k1 =>
          have H := HA.out
          clear HA
          simp only [spec_SumsFrequency.l0] at H
          by_cases c8 : x6_1 < (l0.length : Int)
          · rw [if_pos c8] at H
            have c8b0 : decide (x6_1 < (l0.length : Int)) = true := decide_eq_true c8
            clear c8
            have H' := Aside0.mk H
            clear H
            go_wp2
            repeat (go_quiet (fail); try go_wp2)
            go_loopg [7] k1 (fun kq v7 w' => ∃ (x7_2 : Int), v7 = .int .i64 x7_2 ∧ Aside0 (spec_SumsFrequency.l1 kq l0 l1 x5_1 x6_1 x7_2 = some r) ∧ Aside0 (kq ≤ k1) ∧ Aside0 (Kd.R (Kd.int .i64) 3 w' w.heap.size (fun _ => True) v102 x5_1) ∧ Aside0 (Below w.heap.size w w'))
            case atStart => exact ⟨(0), (by first | rfl | (simp; done) | (simp [*]; done)), H', ⟨Nat.le_refl _⟩, ⟨by (with_reducible repeat (first | apply Kd.R_alloc | apply Kd.R_drewN | apply Kd.R_drew)); exact HO_5.out⟩, ⟨by repeat (first | (with_reducible first | exact HB.out | apply below_alloc | apply pw_below_drewN | apply below_drew1) | exact HB.out)⟩⟩
            case round =>
              clear H'
              try clear c1
              try clear c2
              try clear p2
              try clear c4
              try clear c4b0
              try clear c4b1
              try clear c5
              try clear c5b0
              try clear c5b1
              try clear p6
              try clear c8
              try clear c8b0
              try clear p2
              try clear p6
              obtain ⟨x7_2, rfl, HA, HK2, HO_5, HB⟩ := hrel
              cases gk with
              | zero => exact absurd HA.out (by simp [spec_SumsFrequency.l1])
              | succ k2 =>
                have H := HA.out
                clear HA
                simp only [spec_SumsFrequency.l1] at H
                by_cases c9 : x7_2 < (l1.length : Int)
                · rw [if_pos c9] at H
                  have c9b0 : decide (x7_2 < (l1.length : Int)) = true := decide_eq_true c9
                  clear c9
                  by_cases c10 : 0 ≤ x6_1
                  · rw [if_pos c10] at H
                    have c10b0 : decide (0 ≤ x6_1) = true := decide_eq_true c10
                    clear c10
                    by_cases c11 : x6_1 < (l0.length : Int)
                    · rw [if_pos c11] at H
                      have c11b0 : decide (x6_1 < (l0.length : Int)) = true := decide_eq_true c11
                      clear c11
                      by_cases c12 : 0 ≤ x7_2
                      · rw [if_pos c12] at H
                        have c12b0 : decide (0 ≤ x7_2) = true := decide_eq_true c12
                        clear c12
                        by_cases c13 : (rd l0 x6_1) > (rd l1 x7_2)
                        · rw [if_pos c13] at H
                          have c13b0 : decide ((rd l1 x7_2) < (rd l0 x6_1)) = true := decide_eq_true c13
                          clear c13
                          have H' := Aside0.mk H
                          clear H
                          have p104 : 0 ≤ (x6_1 : Int) := of_decide_eq_true (by first | (with_reducible assumption) | assumption)
                          have q104 : x6_1 < (l0.length : Int) := of_decide_eq_true (by first | (with_reducible assumption) | assumption)
                          obtain ⟨ad104, e104, hx104_0⟩ := Kd.at_int HR0.out x6_1 p104 q104
                          cases e104
                          replace hx104_0 := (HB.out.cell (World.block_lt_of_cell? w _ hx104_0)).trans hx104_0
                          replace p104 := eq_true p104
                          replace q104 := eq_true q104
                          have p105 : 0 ≤ (x7_2 : Int) := of_decide_eq_true (by first | (with_reducible assumption) | assumption)
                          have q105 : x7_2 < (l1.length : Int) := of_decide_eq_true (by first | (with_reducible assumption) | assumption)
                          obtain ⟨ad105, e105, hx105_0⟩ := Kd.at_int HR1.out x7_2 p105 q105
                          cases e105
                          replace hx105_0 := (HB.out.cell (World.block_lt_of_cell? w _ hx105_0)).trans hx105_0
                          replace p105 := eq_true p105
                          replace q105 := eq_true q105
                          go_wp2
                          repeat (go_quiet (fail); try go_wp2)
                          go_roundg k2
                          case measure => have := HK1.out; have := HK2.out; omega
                          case rel => exact ⟨(wrap64 (x7_2 + 1)), (by first | rfl | (simp; done) | (simp [*]; done)), H', ⟨by have := HK1.out; have := HK2.out; omega⟩, ⟨by (with_reducible repeat (first | apply Kd.R_alloc | apply Kd.R_drewN | apply Kd.R_drew)); exact HO_5.out⟩, ⟨by repeat (first | (with_reducible first | exact HB.out | apply below_alloc | apply pw_below_drewN | apply below_drew1) | exact HB.out)⟩⟩
                        · rw [if_neg c13] at H
                          have c13b0 : decide ((rd l1 x7_2) < (rd l0 x6_1)) = false := decide_eq_false c13
                          clear c13
                          by_cases c14 : x7_2 < (x5_1.length : Int)
                          · rw [if_pos c14] at H
                            have c14b0 : decide (x7_2 < (x5_1.length : Int)) = true := decide_eq_true c14
                            clear c14
                            obtain ⟨y107, hy107⟩ : ∃ y_ : List Int, y_ = (x5_1.set (x7_2 : Int).toNat (wrap64 ((rd x5_1 x7_2) + 1))) := ⟨_, rfl⟩
                            replace H : (spec_SumsFrequency.l0 k2 l0 l1 y107 (wrap64 (x6_1 + 1))) = some r := by first | (rw [hy107]; with_reducible exact H) | (have H2_ := (Option.bind_some _ _).symm.trans H; rw [hy107]; with_reducible exact H2_) | (have H2_ := (Option.bind_some _ _).symm.trans H; with_reducible exact H2_) | with_reducible exact H | (rw [hy107]; exact H) | exact H
                            have Ny107 := Aside0.mk hy107
                            clear hy107
                            have H' := Aside0.mk H
                            clear H
                            have p104 : 0 ≤ (x6_1 : Int) := of_decide_eq_true (by first | (with_reducible assumption) | assumption)
                            have q104 : x6_1 < (l0.length : Int) := of_decide_eq_true (by first | (with_reducible assumption) | assumption)
                            obtain ⟨ad104, e104, hx104_0⟩ := Kd.at_int HR0.out x6_1 p104 q104
                            cases e104
                            replace hx104_0 := (HB.out.cell (World.block_lt_of_cell? w _ hx104_0)).trans hx104_0
                            replace p104 := eq_true p104
                            replace q104 := eq_true q104
                            have p105 : 0 ≤ (x7_2 : Int) := of_decide_eq_true (by first | (with_reducible assumption) | assumption)
                            have q105 : x7_2 < (l1.length : Int) := of_decide_eq_true (by first | (with_reducible assumption) | assumption)
                            obtain ⟨ad105, e105, hx105_0⟩ := Kd.at_int HR1.out x7_2 p105 q105
                            cases e105
                            replace hx105_0 := (HB.out.cell (World.block_lt_of_cell? w _ hx105_0)).trans hx105_0
                            replace p105 := eq_true p105
                            replace q105 := eq_true q105
                            obtain ⟨Ao16, co16, eo16⟩ := Kd.R_slice HO_5.out
                            subst eo16
                            have p106 : 0 ≤ (x7_2 : Int) := of_decide_eq_true (by first | (with_reducible assumption) | assumption)
                            have q106 : x7_2 < (x5_1.length : Int) := of_decide_eq_true (by first | (with_reducible assumption) | assumption)
                            obtain ⟨ad106, e106, hx106_0⟩ := Kd.at_int (Kd.R_reads' HO_5.out).2.2 x7_2 p106 q106
                            cases e106
                            replace p106 := eq_true p106
                            replace q106 := eq_true q106
                            have p15 : 0 ≤ (x7_2 : Int) := of_decide_eq_true (by first | (with_reducible assumption) | assumption)
                            have q15 : (x7_2 : Int) < ((x5_1.length : Int) : Int) := of_decide_eq_true (by first | (with_reducible assumption) | assumption)
                            obtain ⟨go15, co15, eo15, gb15, gl15, cl15, HG15⟩ := Kd.R_form HO_5.out (by omega)
                            (first | cases eo15 | (injection eo15 with ea_ en_ ec_; (first | subst ea_ | (injection ea_ with ea_; subst ea_)); subst ec_; clear en_))
                            have GB15 := Aside0.mk gb15
                            have GG15 := Aside0.mk HG15
                            clear gb15 gl15 HG15
                            (first | simp only [add_plain] at hx106_0 | skip)
                            obtain ⟨hx15_0, hf15_0⟩ := Kd.R_celln 0 HO_5.out (x7_2 : Int) p15 q15
                            replace p15 := eq_true p15
                            replace q15 := eq_true q15
                            have HP17 := Kd.R_putg HO_5.out (x7_2 : Int) (wrap64 ((rd x5_1 x7_2) + 1))
                            go_wp2_with (first | ((with_reducible refine gate_store (t := 3) (p := 40) rfl ?_); (try (rw [drewN_self wr]; generalize hq_ : World.drewN wr _ = wr; have n0_ := Aside0.mk (Kd.R_at hq_ HO_5.out); have n1_ := Aside0.mk (below_at hq_ HB.out); clear hq_ HO_5 HB; have HO_5 := n0_; have HB := n1_; clear n0_ n1_; (try (have HP17 := Kd.R_putg HO_5.out (x7_2 : Int) (wrap64 ((rd x5_1 x7_2) + 1)))))); refine store_event (t := 3) (p := 40) (v := ?vo_w18) (w1 := (wr.setCell ⟨go15, (x7_2 : Int).toNat, none⟩ (.int .i64 (wrap64 ((rd x5_1 x7_2) + 1))))) ?hg ?ho ?hn ?hr ?_; (case ho => rfl); (case hg => rfl); (case hn => rfl); (case hr => first | (go_simp; done) | (go_simp; rfl)); intro w18 hw; have hg : wr.grownBy w18 (some go15) := (by rw [hw]; exact HP17.2); have hp_ : Kd.R (Kd.int .i64) 3 w18 w.heap.size (fun _ => True) (.slice (some ⟨go15, 0, none⟩) x5_1.length co16) y107 := (by rw [hw, Ny107.out]; exact HP17.1); clear HP17; have n0_ := Aside0.mk (hp_); have n1_ := Aside0.mk ((by rw [hw]; exact below_set (HB.out) GB15.out : Below w.heap.size w w18)); clear HO_5; clear HB; have HO_5 := n0_; have HB := n1_; clear n0_ n1_; clear hg hw hp_))
                            repeat (go_quiet (first | ((with_reducible refine gate_store (t := 3) (p := 40) rfl ?_); (try (rw [drewN_self wr]; generalize hq_ : World.drewN wr _ = wr; have n0_ := Aside0.mk (Kd.R_at hq_ HO_5.out); have n1_ := Aside0.mk (below_at hq_ HB.out); clear hq_ HO_5 HB; have HO_5 := n0_; have HB := n1_; clear n0_ n1_; (try (have HP17 := Kd.R_putg HO_5.out (x7_2 : Int) (wrap64 ((rd x5_1 x7_2) + 1)))))); refine store_event (t := 3) (p := 40) (v := ?vo_w18) (w1 := (wr.setCell ⟨go15, (x7_2 : Int).toNat, none⟩ (.int .i64 (wrap64 ((rd x5_1 x7_2) + 1))))) ?hg ?ho ?hn ?hr ?_; (case ho => rfl); (case hg => rfl); (case hn => rfl); (case hr => first | (go_simp; done) | (go_simp; rfl)); intro w18 hw; have hg : wr.grownBy w18 (some go15) := (by rw [hw]; exact HP17.2); have hp_ : Kd.R (Kd.int .i64) 3 w18 w.heap.size (fun _ => True) (.slice (some ⟨go15, 0, none⟩) x5_1.length co16) y107 := (by rw [hw, Ny107.out]; exact HP17.1); clear HP17; have n0_ := Aside0.mk (hp_); have n1_ := Aside0.mk ((by rw [hw]; exact below_set (HB.out) GB15.out : Below w.heap.size w w18)); clear HO_5; clear HB; have HO_5 := n0_; have HB := n1_; clear n0_ n1_; clear hg hw hp_)); try go_wp2_with (first | ((with_reducible refine gate_store (t := 3) (p := 40) rfl ?_); (try (rw [drewN_self wr]; generalize hq_ : World.drewN wr _ = wr; have n0_ := Aside0.mk (Kd.R_at hq_ HO_5.out); have n1_ := Aside0.mk (below_at hq_ HB.out); clear hq_ HO_5 HB; have HO_5 := n0_; have HB := n1_; clear n0_ n1_; (try (have HP17 := Kd.R_putg HO_5.out (x7_2 : Int) (wrap64 ((rd x5_1 x7_2) + 1)))))); refine store_event (t := 3) (p := 40) (v := ?vo_w18) (w1 := (wr.setCell ⟨go15, (x7_2 : Int).toNat, none⟩ (.int .i64 (wrap64 ((rd x5_1 x7_2) + 1))))) ?hg ?ho ?hn ?hr ?_; (case ho => rfl); (case hg => rfl); (case hn => rfl); (case hr => first | (go_simp; done) | (go_simp; rfl)); intro w18 hw; have hg : wr.grownBy w18 (some go15) := (by rw [hw]; exact HP17.2); have hp_ : Kd.R (Kd.int .i64) 3 w18 w.heap.size (fun _ => True) (.slice (some ⟨go15, 0, none⟩) x5_1.length co16) y107 := (by rw [hw, Ny107.out]; exact HP17.1); clear HP17; have n0_ := Aside0.mk (hp_); have n1_ := Aside0.mk ((by rw [hw]; exact below_set (HB.out) GB15.out : Below w.heap.size w w18)); clear HO_5; clear HB; have HO_5 := n0_; have HB := n1_; clear n0_ n1_; clear hg hw hp_)))
                            go_roundg k2
                            case measure => have := HK1.out; have := HK2.out; omega
                            case rel => exact ⟨(y107), (wrap64 (x6_1 + 1)), (by first | rfl | (simp; done) | (simp [*]; done)), H', ⟨by have := HK1.out; have := HK2.out; omega⟩, ⟨by first | (rw [Ny107.out]; exact Kd.R_putn (Kd.R_drewN HO_5.out _) (x7_2 : Int) _) | ((with_reducible repeat (first | apply Kd.R_alloc | apply Kd.R_drewN | apply Kd.R_drew)); exact HO_5.out)⟩, ⟨by first | exact below_set (pw_below_drewN HB.out _) GB15.out | (repeat (first | (with_reducible first | exact HB.out | apply below_alloc | apply pw_below_drewN | apply below_drew1) | exact HB.out))⟩⟩
                          · rw [if_neg c14] at H
                            exact absurd H (by simp)
                      · rw [if_neg c12] at H
                        exact absurd H (by simp)
                    · rw [if_neg c11] at H
                      exact absurd H (by simp)
                  · rw [if_neg c10] at H
                    exact absurd H (by simp)
                · rw [if_neg c9] at H
                  have c9b0 : decide (x7_2 < (l1.length : Int)) = false := decide_eq_false c9
                  clear c9
                  by_cases c19 : 0 ≤ x7_2
                  · rw [if_pos c19] at H
                    have c19b0 : decide (0 ≤ x7_2) = true := decide_eq_true c19
                    clear c19
                    by_cases c20 : x7_2 < (x5_1.length : Int)
                    · rw [if_pos c20] at H
                      have c20b0 : decide (x7_2 < (x5_1.length : Int)) = true := decide_eq_true c20
                      clear c20
                      obtain ⟨y109, hy109⟩ : ∃ y_ : List Int, y_ = (x5_1.set (x7_2 : Int).toNat (wrap64 ((rd x5_1 x7_2) + 1))) := ⟨_, rfl⟩
                      replace H : (spec_SumsFrequency.l0 k2 l0 l1 y109 (wrap64 (x6_1 + 1))) = some r := by first | (rw [hy109]; with_reducible exact H) | (have H2_ := (Option.bind_some _ _).symm.trans H; rw [hy109]; with_reducible exact H2_) | (have H2_ := (Option.bind_some _ _).symm.trans H; with_reducible exact H2_) | with_reducible exact H | (rw [hy109]; exact H) | exact H
                      have Ny109 := Aside0.mk hy109
                      clear hy109
                      have H' := Aside0.mk H
                      clear H
                      obtain ⟨Ao22, co22, eo22⟩ := Kd.R_slice HO_5.out
                      subst eo22
                      have p108 : 0 ≤ (x7_2 : Int) := of_decide_eq_true (by first | (with_reducible assumption) | assumption)
                      have q108 : x7_2 < (x5_1.length : Int) := of_decide_eq_true (by first | (with_reducible assumption) | assumption)
                      obtain ⟨ad108, e108, hx108_0⟩ := Kd.at_int (Kd.R_reads' HO_5.out).2.2 x7_2 p108 q108
                      cases e108
                      replace p108 := eq_true p108
                      replace q108 := eq_true q108
                      have p21 : 0 ≤ (x7_2 : Int) := of_decide_eq_true (by first | (with_reducible assumption) | assumption)
                      have q21 : (x7_2 : Int) < ((x5_1.length : Int) : Int) := of_decide_eq_true (by first | (with_reducible assumption) | assumption)
                      obtain ⟨go21, co21, eo21, gb21, gl21, cl21, HG21⟩ := Kd.R_form HO_5.out (by omega)
                      (first | cases eo21 | (injection eo21 with ea_ en_ ec_; (first | subst ea_ | (injection ea_ with ea_; subst ea_)); subst ec_; clear en_))
                      have GB21 := Aside0.mk gb21
                      have GG21 := Aside0.mk HG21
                      clear gb21 gl21 HG21
                      (first | simp only [add_plain] at hx108_0 | skip)
                      obtain ⟨hx21_0, hf21_0⟩ := Kd.R_celln 0 HO_5.out (x7_2 : Int) p21 q21
                      replace p21 := eq_true p21
                      replace q21 := eq_true q21
                      have HP23 := Kd.R_putg HO_5.out (x7_2 : Int) (wrap64 ((rd x5_1 x7_2) + 1))
                      go_wp2_with (first | ((with_reducible refine gate_store (t := 3) (p := 40) rfl ?_); (try (rw [drewN_self wr]; generalize hq_ : World.drewN wr _ = wr; have n0_ := Aside0.mk (Kd.R_at hq_ HO_5.out); have n1_ := Aside0.mk (below_at hq_ HB.out); clear hq_ HO_5 HB; have HO_5 := n0_; have HB := n1_; clear n0_ n1_; (try (have HP23 := Kd.R_putg HO_5.out (x7_2 : Int) (wrap64 ((rd x5_1 x7_2) + 1)))))); refine store_event (t := 3) (p := 40) (v := ?vo_w24) (w1 := (wr.setCell ⟨go21, (x7_2 : Int).toNat, none⟩ (.int .i64 (wrap64 ((rd x5_1 x7_2) + 1))))) ?hg ?ho ?hn ?hr ?_; (case ho => rfl); (case hg => rfl); (case hn => rfl); (case hr => first | (go_simp; done) | (go_simp; rfl)); intro w24 hw; have hg : wr.grownBy w24 (some go21) := (by rw [hw]; exact HP23.2); have hp_ : Kd.R (Kd.int .i64) 3 w24 w.heap.size (fun _ => True) (.slice (some ⟨go21, 0, none⟩) x5_1.length co22) y109 := (by rw [hw, Ny109.out]; exact HP23.1); clear HP23; have n0_ := Aside0.mk (hp_); have n1_ := Aside0.mk ((by rw [hw]; exact below_set (HB.out) GB21.out : Below w.heap.size w w24)); clear HO_5; clear HB; have HO_5 := n0_; have HB := n1_; clear n0_ n1_; clear hg hw hp_))
                      repeat (go_quiet (first | ((with_reducible refine gate_store (t := 3) (p := 40) rfl ?_); (try (rw [drewN_self wr]; generalize hq_ : World.drewN wr _ = wr; have n0_ := Aside0.mk (Kd.R_at hq_ HO_5.out); have n1_ := Aside0.mk (below_at hq_ HB.out); clear hq_ HO_5 HB; have HO_5 := n0_; have HB := n1_; clear n0_ n1_; (try (have HP23 := Kd.R_putg HO_5.out (x7_2 : Int) (wrap64 ((rd x5_1 x7_2) + 1)))))); refine store_event (t := 3) (p := 40) (v := ?vo_w24) (w1 := (wr.setCell ⟨go21, (x7_2 : Int).toNat, none⟩ (.int .i64 (wrap64 ((rd x5_1 x7_2) + 1))))) ?hg ?ho ?hn ?hr ?_; (case ho => rfl); (case hg => rfl); (case hn => rfl); (case hr => first | (go_simp; done) | (go_simp; rfl)); intro w24 hw; have hg : wr.grownBy w24 (some go21) := (by rw [hw]; exact HP23.2); have hp_ : Kd.R (Kd.int .i64) 3 w24 w.heap.size (fun _ => True) (.slice (some ⟨go21, 0, none⟩) x5_1.length co22) y109 := (by rw [hw, Ny109.out]; exact HP23.1); clear HP23; have n0_ := Aside0.mk (hp_); have n1_ := Aside0.mk ((by rw [hw]; exact below_set (HB.out) GB21.out : Below w.heap.size w w24)); clear HO_5; clear HB; have HO_5 := n0_; have HB := n1_; clear n0_ n1_; clear hg hw hp_)); try go_wp2_with (first | ((with_reducible refine gate_store (t := 3) (p := 40) rfl ?_); (try (rw [drewN_self wr]; generalize hq_ : World.drewN wr _ = wr; have n0_ := Aside0.mk (Kd.R_at hq_ HO_5.out); have n1_ := Aside0.mk (below_at hq_ HB.out); clear hq_ HO_5 HB; have HO_5 := n0_; have HB := n1_; clear n0_ n1_; (try (have HP23 := Kd.R_putg HO_5.out (x7_2 : Int) (wrap64 ((rd x5_1 x7_2) + 1)))))); refine store_event (t := 3) (p := 40) (v := ?vo_w24) (w1 := (wr.setCell ⟨go21, (x7_2 : Int).toNat, none⟩ (.int .i64 (wrap64 ((rd x5_1 x7_2) + 1))))) ?hg ?ho ?hn ?hr ?_; (case ho => rfl); (case hg => rfl); (case hn => rfl); (case hr => first | (go_simp; done) | (go_simp; rfl)); intro w24 hw; have hg : wr.grownBy w24 (some go21) := (by rw [hw]; exact HP23.2); have hp_ : Kd.R (Kd.int .i64) 3 w24 w.heap.size (fun _ => True) (.slice (some ⟨go21, 0, none⟩) x5_1.length co22) y109 := (by rw [hw, Ny109.out]; exact HP23.1); clear HP23; have n0_ := Aside0.mk (hp_); have n1_ := Aside0.mk ((by rw [hw]; exact below_set (HB.out) GB21.out : Below w.heap.size w w24)); clear HO_5; clear HB; have HO_5 := n0_; have HB := n1_; clear n0_ n1_; clear hg hw hp_)))
                      go_roundg k2
                      case measure => have := HK1.out; have := HK2.out; omega
                      case rel => exact ⟨(y109), (wrap64 (x6_1 + 1)), (by first | rfl | (simp; done) | (simp [*]; done)), H', ⟨by have := HK1.out; have := HK2.out; omega⟩, ⟨by first | (rw [Ny109.out]; exact Kd.R_putn (Kd.R_drewN HO_5.out _) (x7_2 : Int) _) | ((with_reducible repeat (first | apply Kd.R_alloc | apply Kd.R_drewN | apply Kd.R_drew)); exact HO_5.out)⟩, ⟨by first | exact below_set (pw_below_drewN HB.out _) GB21.out | (repeat (first | (with_reducible first | exact HB.out | apply below_alloc | apply pw_below_drewN | apply below_drew1) | exact HB.out))⟩⟩
                    · rw [if_neg c20] at H
                      exact absurd H (by simp)
                  · rw [if_neg c19] at H
                    exact absurd H (by simp)
          · rw [if_neg c8] at H
            have c8b0 : decide (x6_1 < (l0.length : Int)) = false := decide_eq_false c8
            clear c8
            obtain rfl := Option.some.inj H
            go_wp2
            repeat (go_quiet (fail); try go_wp2)
            go_ret
            exact ⟨_, by first | rfl | (simp [errW_none, errW_some] <;> rfl) | (simp only [← hji3]; first | rfl | (simp [errW_none, errW_some] <;> rfl)) | (simp [*, errW_none, errW_some] <;> rfl), by (with_reducible repeat (first | apply Kd.R_alloc | apply Kd.R_drewN | apply Kd.R_drew)); exact HO_5.out, by repeat (first | (with_reducible first | exact HB.out | apply below_alloc | apply pw_below_drewN | apply below_drew1) | exact HB.out)⟩
    · rw [if_neg c5] at H
      exact absurd H (by simp)
  · rw [if_neg c4] at H
    exact absurd H (by simp)

end Go.Proofs.Ytjefbpfpobgmaaa.PFq
