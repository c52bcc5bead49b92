/- Contracts of functions that the text "Fx" uses: the call ends in what the plain Lean function says, where that says something. Written by a program of this session. No conditions. -/
import Derived.Test.YtjefbpfpobgmaaaDoorPFxx0
namespace Go.Proofs.YtjefbpfpobgmaaaDoor.PFx
open Go.RowKit Go.Proofs.YtjefbpfpobgmaaaDoorW.PrintWords Go.Proofs.YtjefbpfpobgmaaaDoorW.PrintLast Go.Proofs.YtjefbpfpobgmaaaDoorW.PrintMore
attribute [local go_sem] max2_int min2_int max_two min_two max_three min_three max_four min_four   -- for this text's walks alone
set_option linter.unusedVariables false
set_option linter.unusedSimpArgs false

/-! ### impl_Filter: function 17 -/
def impl_Filter.f (k : Nat) (l0 : List ByteArray) : Option (List Int × List ByteArray × Bool) := if (l0.length : Int) = 3 then ((Go.Proofs.YtjefbpfpobgmaaaDoor.FwDoor.excelize_DoorFilter.f k l0).bind fun bt105 => (some (bt105.1, bt105.2.1, bt105.2.2))) else (if (l0.length : Int) = 7 then ((Go.Proofs.YtjefbpfpobgmaaaDoor.FwDoor.excelize_DoorFilter.f k l0).bind fun bt112 => (some (bt112.1, bt112.2.1, bt112.2.2))) else (some (([] : List Int), ([] : List ByteArray), false)))
theorem impl_Filter.mono : ∀ a0 k, LeO (impl_Filter.f k a0) (impl_Filter.f (k + 1) a0) := by
  intro a0 k
  unfold impl_Filter.f
  repeat' first
      | (with_reducible exact Go.Proofs.YtjefbpfpobgmaaaDoor.FwDoor.excelize_DoorFilter.mono _ _)
      | (with_reducible exact LeO.refl _)
      | (with_reducible exact LeO.none _)
      | (with_reducible refine LeO.ite ?_ ?_)
      | (with_reducible refine LeO.bind ?_ (fun _ => ?_))
      | exact Go.Proofs.YtjefbpfpobgmaaaDoor.FwDoor.excelize_DoorFilter.mono _ _
      | exact LeO.none _
      | refine LeO.ite ?_ ?_
      | refine LeO.bind ?_ (fun _ => ?_)
set_option maxHeartbeats 8000000 in
set_option maxRecDepth 100000 in
theorem impl_Filter.calls (k : Nat) (A0 : Option Addr) (c0 : Nat) (l0 : List ByteArray) (r1 : List Int) (r2 : List ByteArray) (r3 : Bool) (w : World) (hr0 : Kd.C Kd.string w A0 l0.length l0) (hc0 : l0.length ≤ c0) (h : impl_Filter.f k l0 = some (r1, r2, r3)) :
    Calls Tryd.prog 17 #[.slice A0 l0.length c0] w fun e w' => ∃ v0_ v1_ : Value, e = .returned (.tuple #[v0_, v1_, .bool r3]) ∧ Kd.R (Kd.int .i64) 3 w' w.heap.size (fun _ => True) v0_ r1 ∧ Kd.R Kd.string 9 w' w.heap.size (fun _ => True) v1_ r2 ∧ Below w.heap.size w w' := by
  have HR0 := Aside0.mk hr0
  have HC0 := Aside0.mk hc0
  clear hr0 hc0
  have HB := Aside0.mk (Below.refl w.heap.size w)
  have H : (if (l0.length : Int) = 3 then ((Go.Proofs.YtjefbpfpobgmaaaDoor.FwDoor.excelize_DoorFilter.f k l0).bind fun bt105 => (some (bt105.1, bt105.2.1, bt105.2.2))) else (if (l0.length : Int) = 7 then ((Go.Proofs.YtjefbpfpobgmaaaDoor.FwDoor.excelize_DoorFilter.f k l0).bind fun bt112 => (some (bt112.1, bt112.2.1, bt112.2.2))) else (some (([] : List Int), ([] : List ByteArray), false)))) = some (r1, r2, r3) := h
  clear h
  by_cases c2 : (l0.length : Int) = 3
  · rw [if_pos c2] at H
    have c2b0 : ((l0.length : Int) == 3) = true := beq_iff_eq.mpr c2
    have c2b1 : ((l0.length : Int) != 3) = false := bne_eq_false_iff_eq.mpr c2
    clear c2
    replace H := Option.bind_eq_some_iff.mp H
    obtain ⟨⟨t105, t106, t107⟩, A30, H⟩ := H
    replace H : (some (t105, t106, t107)) = some (r1, r2, r3) := H
    have A3 := Aside0.mk A30
    clear A30
    simp only [Option.some.injEq, Prod.mk.injEq] at H
    obtain ⟨rfl, rfl, rfl⟩ := H
    go_enter Tryd.func17, Tryd.ntmps17
    go_wp2_with (first | ((with_reducible refine gate_callee (f := 21) rfl ?_); refine goesL_ (some 14) rfl rfl Tryd.func21 (by kernel_rfl) rfl #[.slice A0 l0.length c0] rfl (by (try simp only [List.map_toArray, List.map_cons, List.map_nil]); first | done | rfl | (simp only [List.length_drop, List.length_take]; rfl)) ?_; (with_reducible refine (Go.Proofs.YtjefbpfpobgmaaaDoor.FwDoor.excelize_DoorFilter.calls k _ _ l0 t105 t106 t107 _ ?side1 ?side2 A3.out).mono ?_); (case side1 => repeat (first | exact HR0.out | (with_reducible refine Kd.C_alloc ?_ _) | (with_reducible refine Kd.C_drewN ?_ _) | (with_reducible refine Kd.C_drew ?_))); (case side2 => exact HC0.out); rintro e w4 ⟨v108, v110, rfl, ho0, ho1, hb⟩; refine ⟨_, rfl, ?_⟩; have n0_ := Aside0.mk (Kd.R_lower ho0 (below_size (by repeat (first | (with_reducible first | exact HB.out | apply below_alloc | apply pw_below_drewN | apply below_drew1) | exact HB.out)))); have n1_ := Aside0.mk (Kd.R_lower ho1 (below_size (by repeat (first | (with_reducible first | exact HB.out | apply below_alloc | apply pw_below_drewN | apply below_drew1) | exact HB.out)))); have n2_ := Aside0.mk (below_step (by repeat (first | (with_reducible first | exact HB.out | apply below_alloc | apply pw_below_drewN | apply below_drew1) | exact HB.out)) hb); clear HB; have HO109 := n0_; have HO111 := n1_; have HB := n2_; clear n0_ n1_ n2_; (try clear hb); (try clear hb2); (try clear hk); (try clear hi); (try clear ho0); (try clear ho1)))
    go_ret3
    exact ⟨_, _, by first | rfl | (simp [errW_none, errW_some] <;> rfl) | (simp [*, errW_none, errW_some] <;> rfl), by (with_reducible repeat (first | apply Kd.R_alloc | apply Kd.R_drewN | apply Kd.R_drew)); exact HO109.out, by (with_reducible repeat (first | apply Kd.R_alloc | apply Kd.R_drewN | apply Kd.R_drew)); exact HO111.out, by repeat (first | (with_reducible first | exact HB.out | apply below_alloc | apply pw_below_drewN | apply below_drew1) | exact HB.out)⟩
  · rw [if_neg c2] at H
    have c2b0 : ((l0.length : Int) == 3) = false := beq_eq_false_iff_ne.mpr c2
    have c2b1 : ((l0.length : Int) != 3) = true := bne_iff_ne.mpr c2
    by_cases c5 : (l0.length : Int) = 7
    · rw [if_pos c5] at H
      have c5b0 : ((l0.length : Int) == 7) = true := beq_iff_eq.mpr c5
      have c5b1 : ((l0.length : Int) != 7) = false := bne_eq_false_iff_eq.mpr c5
      clear c5
      replace H := Option.bind_eq_some_iff.mp H
      obtain ⟨⟨t112, t113, t114⟩, A60, H⟩ := H
      replace H : (some (t112, t113, t114)) = some (r1, r2, r3) := H
      have A6 := Aside0.mk A60
      clear A60
      simp only [Option.some.injEq, Prod.mk.injEq] at H
      obtain ⟨rfl, rfl, rfl⟩ := H
      go_enter Tryd.func17, Tryd.ntmps17
      go_wp2_with (first | ((with_reducible refine gate_callee (f := 21) rfl ?_); refine goesL_ (some 14) rfl rfl Tryd.func21 (by kernel_rfl) rfl #[.slice A0 l0.length c0] rfl (by (try simp only [List.map_toArray, List.map_cons, List.map_nil]); first | done | rfl | (simp only [List.length_drop, List.length_take]; rfl)) ?_; (with_reducible refine (Go.Proofs.YtjefbpfpobgmaaaDoor.FwDoor.excelize_DoorFilter.calls k _ _ l0 t112 t113 t114 _ ?side1 ?side2 A6.out).mono ?_); (case side1 => repeat (first | exact HR0.out | (with_reducible refine Kd.C_alloc ?_ _) | (with_reducible refine Kd.C_drewN ?_ _) | (with_reducible refine Kd.C_drew ?_))); (case side2 => exact HC0.out); rintro e w7 ⟨v115, v117, rfl, ho0, ho1, hb⟩; refine ⟨_, rfl, ?_⟩; have n0_ := Aside0.mk (Kd.R_lower ho0 (below_size (by repeat (first | (with_reducible first | exact HB.out | apply below_alloc | apply pw_below_drewN | apply below_drew1) | exact HB.out)))); have n1_ := Aside0.mk (Kd.R_lower ho1 (below_size (by repeat (first | (with_reducible first | exact HB.out | apply below_alloc | apply pw_below_drewN | apply below_drew1) | exact HB.out)))); have n2_ := Aside0.mk (below_step (by repeat (first | (with_reducible first | exact HB.out | apply below_alloc | apply pw_below_drewN | apply below_drew1) | exact HB.out)) hb); clear HB; have HO116 := n0_; have HO118 := n1_; have HB := n2_; clear n0_ n1_ n2_; (try clear hb); (try clear hb2); (try clear hk); (try clear hi); (try clear ho0); (try clear ho1)))
      go_ret3
      exact ⟨_, _, by first | rfl | (simp [errW_none, errW_some] <;> rfl) | (simp [*, errW_none, errW_some] <;> rfl), by (with_reducible repeat (first | apply Kd.R_alloc | apply Kd.R_drewN | apply Kd.R_drew)); exact HO116.out, by (with_reducible repeat (first | apply Kd.R_alloc | apply Kd.R_drewN | apply Kd.R_drew)); exact HO118.out, by repeat (first | (with_reducible first | exact HB.out | apply below_alloc | apply pw_below_drewN | apply below_drew1) | exact HB.out)⟩
    · rw [if_neg c5] at H
      have c5b0 : ((l0.length : Int) == 7) = false := beq_eq_false_iff_ne.mpr c5
      have c5b1 : ((l0.length : Int) != 7) = true := bne_iff_ne.mpr c5
      simp only [Option.some.injEq, Prod.mk.injEq] at H
      obtain ⟨rfl, rfl, rfl⟩ := H
      go_enter Tryd.func17, Tryd.ntmps17
      go_wp2
      go_ret3
      exact ⟨_, _, by first | rfl | (simp [errW_none, errW_some] <;> rfl) | (simp [*, errW_none, errW_some] <;> rfl), by first | exact Kd.R_nil _ _ _ _ _ | exact Kd.N_nil _ _ _ _ _ | exact Kd.V_nil _ _ _ _ _ | exact Kd.Q_nil _ _ _ _ _ | exact Kd.S_nil _ _ _ _ _, by first | exact Kd.R_nil _ _ _ _ _ | exact Kd.N_nil _ _ _ _ _ | exact Kd.V_nil _ _ _ _ _ | exact Kd.Q_nil _ _ _ _ _ | exact Kd.S_nil _ _ _ _ _, by repeat (first | (with_reducible first | exact HB.out | apply below_alloc | apply pw_below_drewN | apply below_drew1) | exact HB.out)⟩

end Go.Proofs.YtjefbpfpobgmaaaDoor.PFx
