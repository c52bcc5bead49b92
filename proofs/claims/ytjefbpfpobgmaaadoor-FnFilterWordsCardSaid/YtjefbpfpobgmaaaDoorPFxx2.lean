/- Contracts of functions that the text "Fx" uses: the call ends in what the plain Lean function says, where that says something. Written by a program of this session. No conditions. -/
import Derived.Test.YtjefbpfpobgmaaaDoorPFxx0
import Derived.Test.YtjefbpfpobgmaaaDoorPFxx1
namespace Go.Proofs.YtjefbpfpobgmaaaDoor.PFx
open Go.RowKit Go.Proofs.YtjefbpfpobgmaaaDoorW.PrintWords Go.Proofs.YtjefbpfpobgmaaaDoorW.PrintLast Go.Proofs.YtjefbpfpobgmaaaDoorW.PrintMore
attribute [local go_sem] max2_int min2_int max_two min_two max_three min_three max_four min_four   -- for this text's walks alone
set_option linter.unusedVariables false
set_option linter.unusedSimpArgs false

/-! ### laws_refLetters: function 8 -/
mutual
def laws_refLetters.l0 : Nat → ByteArray → List Int → Int → Option (ByteArray)
  | 0, _, _, _ => none
  | k + 1, x0, x3, x4 => if x4 < (x0.size : Int) then (laws_refLetters.j1 k x0 x3 x4 (decide ((x3.length : Int) < 20))) else (laws_refLetters.j1 k x0 x3 x4 false)
def laws_refLetters.j1 : Nat → ByteArray → List Int → Int → Bool → Option (ByteArray)
  | 0, _, _, _, _ => none
  | k + 1, x0, x3, x4, x13 => if x13 = true then (if 0 ≤ x4 then (if x4 ≤ (wrap64 (x4 + 1)) then (if (wrap64 (x4 + 1)) ≤ (x0.size : Int) then ((laws_refPlain.f k (x0.extract (x4 : Int).toNat ((wrap64 (x4 + 1)) : Int).toNat)).bind fun t101 => (if t101 = true then (if x4 < (x0.size : Int) then (if x3.length < 140737488355328 then (laws_refLetters.l0 k x0 (x3 ++ [bt x0 x4]) (wrap64 (x4 + 1))) else (none)) else (none)) else (laws_refLetters.l0 k x0 x3 (wrap64 (x4 + 1))))) else (none)) else (none)) else (none)) else (if (x3.length : Int) = 0 then (some (⟨#[120]⟩ : ByteArray)) else (some (strOfNums x3)))
end
def laws_refLetters.f (k : Nat) (a0 : ByteArray) : Option (ByteArray) := laws_refLetters.l0 k a0 ([] : List Int) 0
theorem laws_refLetters.mono_l : ∀ k, (∀ y0 y1 y2, LeO (laws_refLetters.l0 k y0 y1 y2) (laws_refLetters.l0 (k + 1) y0 y1 y2)) ∧ (∀ y0 y1 y2 y3, LeO (laws_refLetters.j1 k y0 y1 y2 y3) (laws_refLetters.j1 (k + 1) y0 y1 y2 y3))
  | 0 => ⟨fun _ _ _ r h => by simp [laws_refLetters.l0] at h, fun _ _ _ _ r h => by simp [laws_refLetters.j1] at h⟩
  | k + 1 => by
    obtain ⟨ih0, ih1⟩ := laws_refLetters.mono_l k
    refine ⟨?_, ?_⟩
    · intro y0 y1 y2
      unfold laws_refLetters.l0
      repeat' first
      | (with_reducible exact ih0 _ _ _)
      | (with_reducible exact ih1 _ _ _ _)
      | (with_reducible exact laws_refPlain.mono _ _)
      | (with_reducible exact LeO.refl _)
      | (with_reducible exact LeO.none _)
      | (with_reducible refine LeO.ite ?_ ?_)
      | (with_reducible refine LeO.bind ?_ (fun _ => ?_))
      | exact ih0 _ _ _
      | exact ih1 _ _ _ _
      | exact laws_refPlain.mono _ _
      | exact LeO.none _
      | refine LeO.ite ?_ ?_
      | refine LeO.bind ?_ (fun _ => ?_)
    · intro y0 y1 y2 y3
      unfold laws_refLetters.j1
      repeat' first
      | (with_reducible exact ih0 _ _ _)
      | (with_reducible exact ih1 _ _ _ _)
      | (with_reducible exact laws_refPlain.mono _ _)
      | (with_reducible exact LeO.refl _)
      | (with_reducible exact LeO.none _)
      | (with_reducible refine LeO.ite ?_ ?_)
      | (with_reducible refine LeO.bind ?_ (fun _ => ?_))
      | exact ih0 _ _ _
      | exact ih1 _ _ _ _
      | exact laws_refPlain.mono _ _
      | exact LeO.none _
      | refine LeO.ite ?_ ?_
      | refine LeO.bind ?_ (fun _ => ?_)
theorem laws_refLetters.mono : ∀ a0 k, LeO (laws_refLetters.f k a0) (laws_refLetters.f (k + 1) a0) := by
  intro a0 k
  obtain ⟨ih0, ih1⟩ := laws_refLetters.mono_l k
  unfold laws_refLetters.f
  repeat' first
      | (with_reducible exact ih0 _ _ _)
      | (with_reducible exact ih1 _ _ _ _)
      | (with_reducible exact laws_refPlain.mono _ _)
      | (with_reducible exact LeO.refl _)
      | (with_reducible exact LeO.none _)
      | (with_reducible refine LeO.ite ?_ ?_)
      | (with_reducible refine LeO.bind ?_ (fun _ => ?_))
      | exact ih0 _ _ _
      | exact ih1 _ _ _ _
      | exact laws_refPlain.mono _ _
      | exact LeO.none _
      | refine LeO.ite ?_ ?_
      | refine LeO.bind ?_ (fun _ => ?_)
set_option maxHeartbeats 8000000 in
set_option maxRecDepth 100000 in
theorem laws_refLetters.calls (k : Nat) (a0 : ByteArray) (r : ByteArray) (w : World) (h : laws_refLetters.f k a0 = some r) :
    Calls Tryd.prog 8 #[.string a0] w fun e w' => e = .returned (.string r) ∧ Below w.heap.size w w' := by
  have HB := Aside0.mk (Below.refl w.heap.size w)
  have H : (laws_refLetters.l0 k a0 ([] : List Int) 0) = some r := h
  clear h
  have H' := Aside0.mk H
  clear H
  go_enter Tryd.func8, Tryd.ntmps8
  go_wp2
  go_loopg [3, 4] k (fun kq v3 v4 w' => ∃ (x3_1 : List Int) (x4_1 : Int), v4 = .int .i64 x4_1 ∧ Aside0 (laws_refLetters.l0 kq a0 x3_1 x4_1 = some r) ∧ Aside0 (kq ≤ k) ∧ Aside0 (Kd.R (Kd.int .u8) 5 w' w.heap.size (fun _ => True) v3 x3_1) ∧ Aside0 (Below w.heap.size w w'))
  case atStart => exact ⟨(([] : List Int)), (0), (by first | rfl | (simp; done) | (simp [*]; done)), H', ⟨Nat.le_refl _⟩, ⟨by first | exact Kd.R_nil _ _ _ _ _ | exact Kd.N_nil _ _ _ _ _ | exact Kd.V_nil _ _ _ _ _ | exact Kd.Q_nil _ _ _ _ _ | exact Kd.S_nil _ _ _ _ _⟩, ⟨by repeat (first | (with_reducible first | exact HB.out | apply below_alloc | apply pw_below_drewN | apply below_drew1) | exact HB.out)⟩⟩
  case round =>
    clear H'
    obtain ⟨x3_1, x4_1, rfl, HA, HK1, HO_3, HB⟩ := hrel
    cases gk with
    | zero => exact absurd HA.out (by simp [laws_refLetters.l0])
    | succ k1 =>
      have H := HA.out
      clear HA
      simp only [laws_refLetters.l0] at H
      have HC2 := Aside0.mk H
      clear H
      go_upto_region 3 with (fail)
      go_cut [13] (fun v13 wc => ∃ (kq : Nat) (x13_1 : Bool), v13 = .bool x13_1 ∧ Aside0 (laws_refLetters.j1 kq a0 x3_1 x4_1 x13_1 = some r) ∧ Aside0 (kq ≤ k1) ∧ Aside0 (Kd.R (Kd.int .u8) 5 wc w.heap.size (fun _ => True) u3 x3_1) ∧ Aside0 (Below w.heap.size w wc))
      case first =>
        have H := HC2.out
        clear HC2
        by_cases c3 : x4_1 < (a0.size : Int)
        · rw [if_pos c3] at H
          have c3b0 : decide (x4_1 < (a0.size : Int)) = true := decide_eq_true c3
          clear c3
          (first | rw [c3b0] | (simp only [i64_w, i32_w]; rw [c3b0]) | skip)
          have H' := Aside0.mk H
          clear H
          obtain ⟨Ao4, co4, eo4⟩ := Kd.R_slice HO_3.out
          subst eo4
          go_wp2
          go_meet
          case rel => exact ⟨_, (decide ((x3_1.length : Int) < 20)), (by first | rfl | (simp; done) | (simp [*]; done)), H', ⟨by have := HK1.out; first | omega | exact Nat.le_refl _⟩, ⟨by (with_reducible repeat (first | apply Kd.R_alloc | apply Kd.R_drewN | apply Kd.R_drew)); exact HO_3.out⟩, ⟨by repeat (first | (with_reducible first | exact HB.out | apply below_alloc | apply pw_below_drewN | apply below_drew1) | exact HB.out)⟩⟩
        · rw [if_neg c3] at H
          have c3b0 : decide (x4_1 < (a0.size : Int)) = false := decide_eq_false c3
          clear c3
          (first | rw [c3b0] | (simp only [i64_w, i32_w]; rw [c3b0]) | skip)
          have H' := Aside0.mk H
          clear H
          go_wp2
          go_meet
          case rel => exact ⟨_, (false), (by first | rfl | (simp; done) | (simp [*]; done)), H', ⟨by have := HK1.out; first | omega | exact Nat.le_refl _⟩, ⟨by (with_reducible repeat (first | apply Kd.R_alloc | apply Kd.R_drewN | apply Kd.R_drew)); exact HO_3.out⟩, ⟨by repeat (first | (with_reducible first | exact HB.out | apply below_alloc | apply pw_below_drewN | apply below_drew1) | exact HB.out)⟩⟩
      case rest =>
        clear HC2
        try clear p2
        try clear c3
        try clear c3b0
        obtain ⟨kq, x13_1, rfl, HA, HJ1, HO_3, HB⟩ := hcut
        cases kq with
        | zero => exact absurd HA.out (by simp [laws_refLetters.j1])
        | succ kj1 =>
          have H := HA.out
          clear HA
          simp only [laws_refLetters.j1] at H
          by_cases c5 : x13_1 = true
          · subst c5
            have H1 : (if 0 ≤ x4_1 then (if x4_1 ≤ (wrap64 (x4_1 + 1)) then (if (wrap64 (x4_1 + 1)) ≤ (a0.size : Int) then ((laws_refPlain.f kj1 (a0.extract (x4_1 : Int).toNat ((wrap64 (x4_1 + 1)) : Int).toNat)).bind fun t101 => (if t101 = true then (if x4_1 < (a0.size : Int) then (if x3_1.length < 140737488355328 then (laws_refLetters.l0 kj1 a0 (x3_1 ++ [bt a0 x4_1]) (wrap64 (x4_1 + 1))) else (none)) else (none)) else (laws_refLetters.l0 kj1 a0 x3_1 (wrap64 (x4_1 + 1))))) else (none)) else (none)) else (none)) = some r := by rw [if_pos rfl] at H; exact H
            clear H
            have H := H1
            clear H1
            by_cases c6 : 0 ≤ x4_1
            · rw [if_pos c6] at H
              have c6b0 := eq_true c6
              have c6b1 : decide (0 ≤ x4_1) = true := decide_eq_true c6
              clear c6
              by_cases c7 : x4_1 ≤ (wrap64 (x4_1 + 1))
              · rw [if_pos c7] at H
                have c7b0 := eq_true c7
                have c7b1 : decide (x4_1 ≤ (wrap64 (x4_1 + 1))) = true := decide_eq_true c7
                by_cases c8 : (wrap64 (x4_1 + 1)) ≤ (a0.size : Int)
                · rw [if_pos c8] at H
                  have c8b0 := eq_true c8
                  have c8b1 : decide ((wrap64 (x4_1 + 1)) ≤ (a0.size : Int)) = true := decide_eq_true c8
                  replace H := Option.bind_eq_some_iff.mp H
                  obtain ⟨t101, A90, H⟩ := H
                  replace H : (if t101 = true then (if x4_1 < (a0.size : Int) then (if x3_1.length < 140737488355328 then (laws_refLetters.l0 kj1 a0 (x3_1 ++ [bt a0 x4_1]) (wrap64 (x4_1 + 1))) else (none)) else (none)) else (laws_refLetters.l0 kj1 a0 x3_1 (wrap64 (x4_1 + 1)))) = some r := H
                  have A9 := Aside0.mk A90
                  clear A90
                  by_cases c10 : t101 = true
                  · subst c10
                    have H1 : (if x4_1 < (a0.size : Int) then (if x3_1.length < 140737488355328 then (laws_refLetters.l0 kj1 a0 (x3_1 ++ [bt a0 x4_1]) (wrap64 (x4_1 + 1))) else (none)) else (none)) = some r := by rw [if_pos rfl] at H; exact H
                    clear H
                    have H := H1
                    clear H1
                    by_cases c11 : x4_1 < (a0.size : Int)
                    · rw [if_pos c11] at H
                      have c11b0 : decide (x4_1 < (a0.size : Int)) = true := decide_eq_true c11
                      clear c11
                      by_cases c13 : x3_1.length < 140737488355328
                      · rw [if_pos c13] at H
                        have LMc13 := Aside0.mk c13
                        clear c13
                        obtain ⟨y102, hy102⟩ : ∃ y_ : List Int, y_ = (x3_1 ++ [bt a0 x4_1]) := ⟨_, rfl⟩
                        replace H : (laws_refLetters.l0 kj1 a0 y102 (wrap64 (x4_1 + 1))) = some r := by first | (rw [hy102]; with_reducible exact H) | (have H2_ := (Option.bind_some _ _).symm.trans H; rw [hy102]; with_reducible exact H2_) | (have H2_ := (Option.bind_some _ _).symm.trans H; with_reducible exact H2_) | with_reducible exact H | (rw [hy102]; exact H) | exact H
                        have Ny102 := Aside0.mk hy102
                        clear hy102
                        have H' := Aside0.mk H
                        clear H
                        go_wp2_with (first | ((with_reducible refine gate_callee (f := 15) rfl ?_); refine goesL_ (some 21) rfl rfl Tryd.func15 (by kernel_rfl) rfl #[.string (a0.extract (x4_1 : Int).toNat ((wrap64 (x4_1 + 1)) : Int).toNat)] rfl (by (try simp only [List.map_toArray, List.map_cons, List.map_nil]); first | done | rfl | (simp only [List.length_drop, List.length_take]; rfl)) ?_; (with_reducible refine (laws_refPlain.calls kj1 (a0.extract (x4_1 : Int).toNat ((wrap64 (x4_1 + 1)) : Int).toNat) true _ A9.out).mono ?_); rintro e w' ⟨rfl, ⟨nd, rfl⟩⟩; refine ⟨_, rfl, ?_⟩; have p12 : 0 ≤ (x4_1 : Int) := of_decide_eq_true (by first | (with_reducible assumption) | assumption); have q12 : x4_1 < (a0.size : Int) := of_decide_eq_true (by first | (with_reducible assumption) | assumption); have hx12 := bt_at a0 x4_1; replace p12 := eq_true p12; replace q12 := eq_true q12) | ((with_reducible refine gate_builtin (b := .append) (xs := #[.tmp 22, .tmp 26]) rfl ?_); (try (refine gate_guard (by rfl) ?_; dsimp only)); at_builtin; refine Kd.R_append (Kd.int .u8) (w0 := w) w.heap.size rfl (.tmp 22) (.tmp 26) 32 5 (.int .u8 0) 1 rfl Tryd.underlying32 info5 rfl (by decide) (by omega) u3 x3_1 (bt a0 x4_1) [.int .u8 (bt a0 x4_1)] (fun _ => True) (fun _ => False) rfl rfl ?aP (fun _ hk => hk.elim) ?aF ?aO ?aB ?aS ?aL ?_; (case aP => exact rfl); (case aB => exact (by repeat (first | (with_reducible first | exact HB.out | apply below_alloc | apply pw_below_drewN | apply below_drew1) | exact HB.out))); (case aF => exact (fun _ _ => trivial)); (case aO => exact (by (with_reducible repeat (first | apply Kd.R_alloc | apply Kd.R_drewN | apply Kd.R_drew)); exact HO_3.out)); (case aS => exact (below_size (by repeat (first | (with_reducible first | exact HB.out | apply below_alloc | apply pw_below_drewN | apply below_drew1) | exact HB.out)))); (case aL => have := LMc13.out; omega); intro v103 w14 ho hb hg hat; rw [← Ny102.out] at ho; have n0_ := Aside0.mk (hb); have n1_ := Aside0.mk (ho); clear HB; clear HO_3; have HB := n0_; have HO104 := n1_; clear n0_ n1_; clear ho hb hg hat))
                        go_roundg kj1
                        case measure => have := HK1.out; have := HJ1.out; omega
                        case rel => exact ⟨(y102), (wrap64 (x4_1 + 1)), (by first | rfl | (simp; done) | (simp [*]; done)), H', ⟨by have := HK1.out; have := HJ1.out; omega⟩, ⟨by (with_reducible repeat (first | apply Kd.R_alloc | apply Kd.R_drewN | apply Kd.R_drew)); exact HO104.out⟩, ⟨by repeat (first | (with_reducible first | exact HB.out | apply below_alloc | apply pw_below_drewN | apply below_drew1) | exact HB.out)⟩⟩
                      · rw [if_neg c13] at H
                        exact absurd H (by simp)
                    · rw [if_neg c11] at H
                      exact absurd H (by simp)
                  · replace c10 := Bool.eq_false_iff.mpr c10
                    subst c10
                    have H1 : (laws_refLetters.l0 kj1 a0 x3_1 (wrap64 (x4_1 + 1))) = some r := by rw [if_neg (show ¬ (false = true) by decide)] at H; exact H
                    clear H
                    have H := H1
                    clear H1
                    have H' := Aside0.mk H
                    clear H
                    go_wp2_with (first | ((with_reducible refine gate_callee (f := 15) rfl ?_); refine goesL_ (some 21) rfl rfl Tryd.func15 (by kernel_rfl) rfl #[.string (a0.extract (x4_1 : Int).toNat ((wrap64 (x4_1 + 1)) : Int).toNat)] rfl (by (try simp only [List.map_toArray, List.map_cons, List.map_nil]); first | done | rfl | (simp only [List.length_drop, List.length_take]; rfl)) ?_; (with_reducible refine (laws_refPlain.calls kj1 (a0.extract (x4_1 : Int).toNat ((wrap64 (x4_1 + 1)) : Int).toNat) false _ A9.out).mono ?_); rintro e w' ⟨rfl, ⟨nd, rfl⟩⟩; refine ⟨_, rfl, ?_⟩))
                    go_roundg kj1
                    case measure => have := HK1.out; have := HJ1.out; omega
                    case rel => exact ⟨(x3_1), (wrap64 (x4_1 + 1)), (by first | rfl | (simp; done) | (simp [*]; done)), H', ⟨by have := HK1.out; have := HJ1.out; omega⟩, ⟨by (with_reducible repeat (first | apply Kd.R_alloc | apply Kd.R_drewN | apply Kd.R_drew)); exact HO_3.out⟩, ⟨by repeat (first | (with_reducible first | exact HB.out | apply below_alloc | apply pw_below_drewN | apply below_drew1) | exact HB.out)⟩⟩
                · rw [if_neg c8] at H
                  exact absurd H (by simp)
              · rw [if_neg c7] at H
                exact absurd H (by simp)
            · rw [if_neg c6] at H
              exact absurd H (by simp)
          · replace c5 := Bool.eq_false_iff.mpr c5
            subst c5
            have H1 : (if (x3_1.length : Int) = 0 then (some (⟨#[120]⟩ : ByteArray)) else (some (strOfNums x3_1))) = some r := by rw [if_neg (show ¬ (false = true) by decide)] at H; exact H
            clear H
            have H := H1
            clear H1
            by_cases c15 : (x3_1.length : Int) = 0
            · rw [if_pos c15] at H
              have c15b0 : ((x3_1.length : Int) == 0) = true := beq_iff_eq.mpr c15
              have c15b1 : ((x3_1.length : Int) != 0) = false := bne_eq_false_iff_eq.mpr c15
              clear c15
              obtain rfl := Option.some.inj H
              obtain ⟨Ao16, co16, eo16⟩ := Kd.R_slice HO_3.out
              subst eo16
              go_wp2
              go_ret
              exact ⟨by first | rfl | (simp [errW_none, errW_some] <;> rfl) | (simp [*, errW_none, errW_some] <;> rfl), by repeat (first | (with_reducible first | exact HB.out | apply below_alloc | apply pw_below_drewN | apply below_drew1) | exact HB.out)⟩
            · rw [if_neg c15] at H
              have c15b0 : ((x3_1.length : Int) == 0) = false := beq_eq_false_iff_ne.mpr c15
              have c15b1 : ((x3_1.length : Int) != 0) = true := bne_iff_ne.mpr c15
              have c15b2 : ¬ (x3_1 = []) := fun h_ => c15 (by rw [h_]; rfl)
              obtain rfl := Option.some.inj H
              obtain ⟨Ao17, co17, eo17⟩ := Kd.R_slice HO_3.out
              subst eo17
              have hcv18 := own_string (P := Tryd.prog) Tryd.underlying32 Tryd.underlying5 Tryd.underlying9 (Kd.own_of_R HO_3.out)
              go_wp2
              go_ret
              exact ⟨by first | rfl | (simp [errW_none, errW_some] <;> rfl) | (simp [*, errW_none, errW_some] <;> rfl), by repeat (first | (with_reducible first | exact HB.out | apply below_alloc | apply pw_below_drewN | apply below_drew1) | exact HB.out)⟩

end Go.Proofs.YtjefbpfpobgmaaaDoor.PFx
