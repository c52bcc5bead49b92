/- Contracts of functions that the text "Sq" uses: the call ends in what the plain Lean function says, where that says something. Written by a program of this session. No conditions. -/
import Derived.Test.YtfbenlenihlpbaaDoorPSqx0
import Derived.Test.YtfbenlenihlpbaaDoorPSqx1
import Derived.Test.YtfbenlenihlpbaaDoorPSqx4
namespace Go.Proofs.YtfbenlenihlpbaaDoor.PSq
open Go.RowKit Go.Proofs.YtfbenlenihlpbaaDoorW.PrintWords Go.Proofs.YtfbenlenihlpbaaDoorW.PrintLast Go.Proofs.YtfbenlenihlpbaaDoorW.PrintMore
attribute [local go_sem] max2_int min2_int max_two min_two max_three min_three max_four min_four   -- for this text's walks alone
set_option linter.unusedVariables false
set_option linter.unusedSimpArgs false

/-! ### laws_FnSquash: function 6 -/
mutual
def laws_FnSquash.l0 : Nat → Int → List Int → List ByteArray → Int → Int → Int → Option (Bool)
  | 0, _, _, _, _, _, _ => none
  | k + 1, x5, x6, x7, x8, x9, x10 => if x10 < (x7.length : Int) then (if 0 ≤ x10 then ((spec_GridRead.f k (rdOf ByteArray.empty x7 x10)).bind fun bt216 => (if bt216.2 = true then (if (bt216.1.length : Int) = 1 then (if 0 < (bt216.1.length : Int) then (if ((rd_T22 bt216.1 0).f0) = x5 then (if ((rd_T22 bt216.1 0).f2) = x5 then (if ((rd_T22 bt216.1 0).f1) ≤ (wrap64 (x9 + 1)) then (laws_FnSquash.j1 k x5 x6 x7 x8 x10 bt216.1 (decide (x10 > 0))) else (laws_FnSquash.j1 k x5 x6 x7 x8 x10 bt216.1 false)) else (laws_FnSquash.j1 k x5 x6 x7 x8 x10 bt216.1 true)) else (laws_FnSquash.j1 k x5 x6 x7 x8 x10 bt216.1 true)) else (none)) else (laws_FnSquash.j1 k x5 x6 x7 x8 x10 bt216.1 true)) else (laws_FnSquash.j1 k x5 x6 x7 x8 x10 bt216.1 true))) else (none)) else (if x8 = (x6.length : Int) then ((Go.Proofs.YtfbenlenihlpbaaDoor.Given.laws_refLives.f).bind fun t214 => (some t214)) else (some false))
def laws_FnSquash.j1 : Nat → Int → List Int → List ByteArray → Int → Int → List (S22) → Bool → Option (Bool)
  | 0, _, _, _, _, _, _, _ => none
  | k + 1, x5, x6, x7, x8, x10, x11, x73 => if x73 = true then (some false) else (if 0 < (x11.length : Int) then (laws_FnSquash.l1 k x5 x6 x7 x8 x10 x11 ((rd_T22 x11 0).f1)) else (none))
def laws_FnSquash.l1 : Nat → Int → List Int → List ByteArray → Int → Int → List (S22) → Int → Option (Bool)
  | 0, _, _, _, _, _, _, _ => none
  | k + 1, x5, x6, x7, x8, x10, x11, x13 => if 0 < (x11.length : Int) then (if x13 ≤ ((rd_T22 x11 0).f3) then (if x8 ≥ (x6.length : Int) then (some false) else (if 0 ≤ x8 then (if x8 < (x6.length : Int) then (if (rd x6 x8) = x13 then (laws_FnSquash.l1 k x5 x6 x7 (wrap64 (x8 + 1)) x10 x11 (wrap64 (x13 + 1))) else (some false)) else (none)) else (none))) else (laws_FnSquash.l0 k x5 x6 x7 x8 ((rd_T22 x11 0).f3) (wrap64 (x10 + 1)))) else (none)
end
def laws_FnSquash.f (k : Nat) (a0 : Int) (l1 : List Int) : Option (Bool) := if (l1.length : Int) > 2147483647 then (some true) else ((Go.Proofs.YtfbenlenihlpbaaDoor.PgridNumber.laws_gridNumber.f a0 30).bind fun t207 => ((laws_refRows.f k l1).bind fun t208 => ((impl_Squash.f k t207 t208).bind fun t211 => (laws_FnSquash.l0 k t207 t208 t211 0 (-1) 0))))
theorem laws_FnSquash.mono_l : ∀ k, (∀ y0 y1 y2 y3 y4 y5, LeO (laws_FnSquash.l0 k y0 y1 y2 y3 y4 y5) (laws_FnSquash.l0 (k + 1) y0 y1 y2 y3 y4 y5)) ∧ (∀ y0 y1 y2 y3 y4 y5 y6, LeO (laws_FnSquash.j1 k y0 y1 y2 y3 y4 y5 y6) (laws_FnSquash.j1 (k + 1) y0 y1 y2 y3 y4 y5 y6)) ∧ (∀ y0 y1 y2 y3 y4 y5 y6, LeO (laws_FnSquash.l1 k y0 y1 y2 y3 y4 y5 y6) (laws_FnSquash.l1 (k + 1) y0 y1 y2 y3 y4 y5 y6))
  | 0 => ⟨fun _ _ _ _ _ _ r h => by simp [laws_FnSquash.l0] at h, fun _ _ _ _ _ _ _ r h => by simp [laws_FnSquash.j1] at h, fun _ _ _ _ _ _ _ r h => by simp [laws_FnSquash.l1] at h⟩
  | k + 1 => by
    obtain ⟨ih0, ih1, ih2⟩ := laws_FnSquash.mono_l k
    refine ⟨?_, ?_, ?_⟩
    · intro y0 y1 y2 y3 y4 y5
      unfold laws_FnSquash.l0
      repeat' first
      | (with_reducible exact ih0 _ _ _ _ _ _)
      | (with_reducible exact ih1 _ _ _ _ _ _ _)
      | (with_reducible exact ih2 _ _ _ _ _ _ _)
      | (with_reducible exact impl_Squash.mono _ _ _)
      | (with_reducible exact laws_refRows.mono _ _)
      | (with_reducible exact spec_GridRead.mono _ _)
      | (with_reducible exact LeO.refl _)
      | (with_reducible exact LeO.none _)
      | (with_reducible refine LeO.ite ?_ ?_)
      | (with_reducible refine LeO.bind ?_ (fun _ => ?_))
      | exact ih0 _ _ _ _ _ _
      | exact ih1 _ _ _ _ _ _ _
      | exact ih2 _ _ _ _ _ _ _
      | exact impl_Squash.mono _ _ _
      | exact laws_refRows.mono _ _
      | exact spec_GridRead.mono _ _
      | exact LeO.none _
      | refine LeO.ite ?_ ?_
      | refine LeO.bind ?_ (fun _ => ?_)
    · intro y0 y1 y2 y3 y4 y5 y6
      unfold laws_FnSquash.j1
      repeat' first
      | (with_reducible exact ih0 _ _ _ _ _ _)
      | (with_reducible exact ih1 _ _ _ _ _ _ _)
      | (with_reducible exact ih2 _ _ _ _ _ _ _)
      | (with_reducible exact impl_Squash.mono _ _ _)
      | (with_reducible exact laws_refRows.mono _ _)
      | (with_reducible exact spec_GridRead.mono _ _)
      | (with_reducible exact LeO.refl _)
      | (with_reducible exact LeO.none _)
      | (with_reducible refine LeO.ite ?_ ?_)
      | (with_reducible refine LeO.bind ?_ (fun _ => ?_))
      | exact ih0 _ _ _ _ _ _
      | exact ih1 _ _ _ _ _ _ _
      | exact ih2 _ _ _ _ _ _ _
      | exact impl_Squash.mono _ _ _
      | exact laws_refRows.mono _ _
      | exact spec_GridRead.mono _ _
      | exact LeO.none _
      | refine LeO.ite ?_ ?_
      | refine LeO.bind ?_ (fun _ => ?_)
    · intro y0 y1 y2 y3 y4 y5 y6
      unfold laws_FnSquash.l1
      repeat' first
      | (with_reducible exact ih0 _ _ _ _ _ _)
      | (with_reducible exact ih1 _ _ _ _ _ _ _)
      | (with_reducible exact ih2 _ _ _ _ _ _ _)
      | (with_reducible exact impl_Squash.mono _ _ _)
      | (with_reducible exact laws_refRows.mono _ _)
      | (with_reducible exact spec_GridRead.mono _ _)
      | (with_reducible exact LeO.refl _)
      | (with_reducible exact LeO.none _)
      | (with_reducible refine LeO.ite ?_ ?_)
      | (with_reducible refine LeO.bind ?_ (fun _ => ?_))
      | exact ih0 _ _ _ _ _ _
      | exact ih1 _ _ _ _ _ _ _
      | exact ih2 _ _ _ _ _ _ _
      | exact impl_Squash.mono _ _ _
      | exact laws_refRows.mono _ _
      | exact spec_GridRead.mono _ _
      | exact LeO.none _
      | refine LeO.ite ?_ ?_
      | refine LeO.bind ?_ (fun _ => ?_)
theorem laws_FnSquash.mono : ∀ a0 a1 k, LeO (laws_FnSquash.f k a0 a1) (laws_FnSquash.f (k + 1) a0 a1) := by
  intro a0 a1 k
  obtain ⟨ih0, ih1, ih2⟩ := laws_FnSquash.mono_l k
  unfold laws_FnSquash.f
  repeat' first
      | (with_reducible exact ih0 _ _ _ _ _ _)
      | (with_reducible exact ih1 _ _ _ _ _ _ _)
      | (with_reducible exact ih2 _ _ _ _ _ _ _)
      | (with_reducible exact impl_Squash.mono _ _ _)
      | (with_reducible exact laws_refRows.mono _ _)
      | (with_reducible exact spec_GridRead.mono _ _)
      | (with_reducible exact LeO.refl _)
      | (with_reducible exact LeO.none _)
      | (with_reducible refine LeO.ite ?_ ?_)
      | (with_reducible refine LeO.bind ?_ (fun _ => ?_))
      | exact ih0 _ _ _ _ _ _
      | exact ih1 _ _ _ _ _ _ _
      | exact ih2 _ _ _ _ _ _ _
      | exact impl_Squash.mono _ _ _
      | exact laws_refRows.mono _ _
      | exact spec_GridRead.mono _ _
      | exact LeO.none _
      | refine LeO.ite ?_ ?_
      | refine LeO.bind ?_ (fun _ => ?_)
set_option maxHeartbeats 8000000 in
set_option maxRecDepth 100000 in
theorem laws_FnSquash.calls (k : Nat) (a0 : Int) (A1 : Option Addr) (c1 : Nat) (l1 : List Int) (r : Bool) (w : World) (hr1 : Kd.C (Kd.int .i64) w A1 l1.length l1) (hc1 : l1.length ≤ c1) (h : laws_FnSquash.f k a0 l1 = some r) :
    Calls Tryd.prog 6 #[.int .i64 a0, .slice A1 l1.length c1] w fun e w' => e = .returned (.bool r) ∧ Below w.heap.size w w' := by
  have HR1 := Aside0.mk hr1
  have HC1 := Aside0.mk hc1
  clear hr1 hc1
  have HB := Aside0.mk (Below.refl w.heap.size w)
  have H : (if (l1.length : Int) > 2147483647 then (some true) else ((Go.Proofs.YtfbenlenihlpbaaDoor.PgridNumber.laws_gridNumber.f a0 30).bind fun t207 => ((laws_refRows.f k l1).bind fun t208 => ((impl_Squash.f k t207 t208).bind fun t211 => (laws_FnSquash.l0 k t207 t208 t211 0 (-1) 0))))) = some r := h
  clear h
  by_cases c3 : (l1.length : Int) > 2147483647
  · rw [if_pos c3] at H
    have c3b0 : decide (2147483647 < (l1.length : Int)) = true := decide_eq_true c3
    have c3b1 : decide (2147483647 < l1.length) = true := decide_eq_true (by omega)
    clear c3
    obtain rfl := Option.some.inj H
    go_enter Tryd.func6, Tryd.ntmps6
    go_wp2
    go_ret
    exact ⟨by first | rfl | (simp [errW_none, errW_some] <;> rfl) | (simp [*, errW_none, errW_some] <;> rfl), by repeat (first | (with_reducible first | exact HB.out | apply below_alloc | apply pw_below_drewN | apply below_drew1) | exact HB.out)⟩
  · rw [if_neg c3] at H
    have c3b0 : decide (2147483647 < (l1.length : Int)) = false := decide_eq_false c3
    have c3b1 : decide (2147483647 < l1.length) = false := decide_eq_false (by omega)
    clear c3
    replace H := Option.bind_eq_some_iff.mp H
    obtain ⟨t207, A40, H⟩ := H
    replace H : ((laws_refRows.f k l1).bind fun t208 => ((impl_Squash.f k t207 t208).bind fun t211 => (laws_FnSquash.l0 k t207 t208 t211 0 (-1) 0))) = some r := H
    have A4 := Aside0.mk A40
    clear A40
    replace H := Option.bind_eq_some_iff.mp H
    obtain ⟨t208, A50, H⟩ := H
    replace H : ((impl_Squash.f k t207 t208).bind fun t211 => (laws_FnSquash.l0 k t207 t208 t211 0 (-1) 0)) = some r := H
    have A5 := Aside0.mk A50
    clear A50
    replace H := Option.bind_eq_some_iff.mp H
    obtain ⟨t211, A60, H⟩ := H
    replace H : (laws_FnSquash.l0 k t207 t208 t211 0 (-1) 0) = some r := H
    have A6 := Aside0.mk A60
    clear A60
    have H' := Aside0.mk H
    clear H
    go_enter Tryd.func6, Tryd.ntmps6
    go_wp2_with (first | ((with_reducible refine gate_callee (f := 19) rfl ?_); refine goesL_ (some 18) rfl rfl Tryd.func19 (by kernel_rfl) rfl #[.int .i64 a0, .int .i64 30] rfl (by (try simp only [List.map_toArray, List.map_cons, List.map_nil]); first | done | rfl | (simp only [List.length_drop, List.length_take]; rfl)) ?_; (with_reducible refine (Go.Proofs.YtfbenlenihlpbaaDoor.PgridNumber.laws_gridNumber.calls a0 30 t207 _ A4.out).mono ?_); rintro e w' ⟨rfl, ⟨nd, rfl⟩⟩; refine ⟨_, rfl, ?_⟩) | ((with_reducible refine gate_callee (f := 22) rfl ?_); refine goesL_ (some 20) rfl rfl Tryd.func22 (by kernel_rfl) rfl #[.slice A1 l1.length c1] rfl (by (try simp only [List.map_toArray, List.map_cons, List.map_nil]); first | done | rfl | (simp only [List.length_drop, List.length_take]; rfl)) ?_; (with_reducible refine (laws_refRows.calls k _ _ l1 t208 _ ?side1 ?side2 A5.out).mono ?_); (case side1 => repeat (first | exact HR1.out | (with_reducible refine Kd.C_alloc ?_ _) | (with_reducible refine Kd.C_drewN ?_ _) | (with_reducible refine Kd.C_drew ?_))); (case side2 => exact HC1.out); rintro e w7 ⟨v209, rfl, ho0, hb⟩; refine ⟨_, rfl, ?_⟩; have n0_ := Aside0.mk (Kd.R_lower ho0 (below_size (by repeat (first | (with_reducible first | exact HB.out | apply below_alloc | apply pw_below_drewN | apply below_drew1) | exact HB.out)))); have n1_ := Aside0.mk (below_step (by repeat (first | (with_reducible first | exact HB.out | apply below_alloc | apply pw_below_drewN | apply below_drew1) | exact HB.out)) hb); clear HB; have HO210 := n0_; have HB := n1_; clear n0_ n1_; (try clear hb); (try clear hb2); (try clear hk); (try clear hi); (try clear ho0); obtain ⟨Ao8, co8, eo8⟩ := Kd.R_slice HO210.out; subst eo8) | ((with_reducible refine gate_callee (f := 23) rfl ?_); refine goesL_ (some 23) rfl rfl Tryd.func23 (by kernel_rfl) rfl #[.int .i64 t207, .slice Ao8 t208.length co8] rfl (by (try simp only [List.map_toArray, List.map_cons, List.map_nil]); first | done | rfl | (simp only [List.length_drop, List.length_take]; rfl)) ?_; (with_reducible refine (impl_Squash.calls k t207 _ _ t208 t211 _ ?side1 ?side2 A6.out).mono ?_); (case side1 => repeat (first | exact (Kd.R_reads' HO210.out).2.2 | (with_reducible refine Kd.C_alloc ?_ _) | (with_reducible refine Kd.C_drewN ?_ _) | (with_reducible refine Kd.C_drew ?_))); (case side2 => exact (Kd.R_reads' HO210.out).2.1); rintro e w9 ⟨v212, rfl, ho0, hb⟩; refine ⟨_, rfl, ?_⟩; have n0_ := Aside0.mk (Kd.R_below (by (with_reducible repeat (first | apply Kd.R_alloc | apply Kd.R_drewN | apply Kd.R_drew)); exact HO210.out) hb); have n1_ := Aside0.mk (Kd.R_lower ho0 (below_size (by repeat (first | (with_reducible first | exact HB.out | apply below_alloc | apply pw_below_drewN | apply below_drew1) | exact HB.out)))); have n2_ := Aside0.mk (below_step (by repeat (first | (with_reducible first | exact HB.out | apply below_alloc | apply pw_below_drewN | apply below_drew1) | exact HB.out)) hb); clear HO210; clear HB; have HO210 := n0_; have HO213 := n1_; have HB := n2_; clear n0_ n1_ n2_; (try clear hb); (try clear hb2); (try clear hk); (try clear hi); (try clear ho0)))
    go_loopg [8, 9, 10] k (fun kq v8 v9 v10 w' => ∃ (x8_1 : Int) (x9_1 : Int) (x10_1 : Int), v8 = .int .i64 x8_1 ∧ v9 = .int .i64 x9_1 ∧ v10 = .int .i64 x10_1 ∧ Aside0 (laws_FnSquash.l0 kq t207 t208 t211 x8_1 x9_1 x10_1 = some r) ∧ Aside0 (kq ≤ k) ∧ Aside0 (Kd.R (Kd.int .i64) 3 w' w.heap.size (fun _ => True) (.slice Ao8 t208.length co8) t208) ∧ Aside0 (Kd.R Kd.string 9 w' w.heap.size (fun _ => True) v212 t211) ∧ Aside0 (Below w.heap.size w w'))
    case atStart => exact ⟨(0), ((-1)), (0), (by first | rfl | (simp; done) | (simp [*]; done)), (by first | rfl | (simp; done) | (simp [*]; done)), (by first | rfl | (simp; done) | (simp [*]; done)), H', ⟨Nat.le_refl _⟩, ⟨by (with_reducible repeat (first | apply Kd.R_alloc | apply Kd.R_drewN | apply Kd.R_drew)); exact HO210.out⟩, ⟨by (with_reducible repeat (first | apply Kd.R_alloc | apply Kd.R_drewN | apply Kd.R_drew)); exact HO213.out⟩, ⟨by repeat (first | (with_reducible first | exact HB.out | apply below_alloc | apply pw_below_drewN | apply below_drew1) | exact HB.out)⟩⟩
    case round =>
      clear H'
      try clear c1
      try clear c2
      try clear p2
      try clear c3
      try clear c3b0
      try clear c3b1
      try clear c6
      obtain ⟨x8_1, x9_1, x10_1, rfl, rfl, rfl, HA, HK1, HO_6, HO_7, HB⟩ := hrel
      cases gk with
      | zero => exact absurd HA.out (by simp [laws_FnSquash.l0])
      | succ k1 =>
        have H := HA.out
        clear HA
        simp only [laws_FnSquash.l0] at H
        by_cases c10 : x10_1 < (t211.length : Int)
        · rw [if_pos c10] at H
          have c10b0 : decide (x10_1 < (t211.length : Int)) = true := decide_eq_true c10
          clear c10
          by_cases c11 : 0 ≤ x10_1
          · rw [if_pos c11] at H
            have c11b0 : decide (0 ≤ x10_1) = true := decide_eq_true c11
            clear c11
            replace H := Option.bind_eq_some_iff.mp H
            obtain ⟨⟨t216, t217⟩, A120, H⟩ := H
            replace H : (if t217 = true then (if (t216.length : Int) = 1 then (if 0 < (t216.length : Int) then (if ((rd_T22 t216 0).f0) = t207 then (if ((rd_T22 t216 0).f2) = t207 then (if ((rd_T22 t216 0).f1) ≤ (wrap64 (x9_1 + 1)) then (laws_FnSquash.j1 k1 t207 t208 t211 x8_1 x10_1 t216 (decide (x10_1 > 0))) else (laws_FnSquash.j1 k1 t207 t208 t211 x8_1 x10_1 t216 false)) else (laws_FnSquash.j1 k1 t207 t208 t211 x8_1 x10_1 t216 true)) else (laws_FnSquash.j1 k1 t207 t208 t211 x8_1 x10_1 t216 true)) else (none)) else (laws_FnSquash.j1 k1 t207 t208 t211 x8_1 x10_1 t216 true)) else (laws_FnSquash.j1 k1 t207 t208 t211 x8_1 x10_1 t216 true)) = some r := H
            have A12 := Aside0.mk A120
            clear A120
            have HC13 := Aside0.mk H
            clear H
            obtain ⟨Ao14, co14, eo14⟩ := Kd.R_slice HO_7.out
            subst eo14
            have p215 : 0 ≤ (x10_1 : Int) := of_decide_eq_true (by first | (with_reducible assumption) | assumption)
            have q215 : x10_1 < (t211.length : Int) := of_decide_eq_true (by first | (with_reducible assumption) | assumption)
            obtain ⟨ad215, e215, hx215_0⟩ := Kd.at_string (Kd.R_reads' HO_7.out).2.2 x10_1 p215 q215
            cases e215
            replace p215 := eq_true p215
            replace q215 := eq_true q215
            go_upto_region 11 with (first | ((with_reducible refine gate_callee (f := 24) rfl ?_); refine goesL_ (some 35) rfl rfl Tryd.func24 (by kernel_rfl) rfl #[.string (rdOf ByteArray.empty t211 x10_1)] rfl (by (try simp only [List.map_toArray, List.map_cons, List.map_nil]); first | done | rfl | (simp only [List.length_drop, List.length_take]; rfl)) ?_; (with_reducible refine (spec_GridRead.calls k1 (rdOf ByteArray.empty t211 x10_1) t216 t217 _ A12.out).mono ?_); rintro e w15 ⟨v218, rfl, ho0, hb⟩; refine ⟨_, rfl, ?_⟩; have n0_ := Aside0.mk (Kd.R_below (by (with_reducible repeat (first | apply Kd.R_alloc | apply Kd.R_drewN | apply Kd.R_drew)); exact HO_6.out) hb); have n1_ := Aside0.mk (Kd.R_below (by (with_reducible repeat (first | apply Kd.R_alloc | apply Kd.R_drewN | apply Kd.R_drew)); exact HO_7.out) hb); have n2_ := Aside0.mk (Kd.R_lower ho0 (below_size (by repeat (first | (with_reducible first | exact HB.out | apply below_alloc | apply pw_below_drewN | apply below_drew1) | exact HB.out)))); have n3_ := Aside0.mk (below_step (by repeat (first | (with_reducible first | exact HB.out | apply below_alloc | apply pw_below_drewN | apply below_drew1) | exact HB.out)) hb); clear HO_6; clear HO_7; clear HB; have HO_6 := n0_; have HO_7 := n1_; have HO219 := n2_; have HB := n3_; clear n0_ n1_ n2_ n3_; (try clear hb); (try clear hb2); (try clear hk); (try clear hi); (try clear ho0)))
            (try simp only [Act.put, List.setIfInBounds_toArray, List.set_cons_zero, List.set_cons_succ])
            go_cut [73] (fun v73 wc => ∃ (kq : Nat) (x73_12 : Bool), v73 = .bool x73_12 ∧ Aside0 (laws_FnSquash.j1 kq t207 t208 t211 x8_1 x10_1 t216 x73_12 = some r) ∧ Aside0 (kq ≤ k1) ∧ Aside0 (Kd.R (Kd.int .i64) 3 wc w.heap.size (fun _ => True) (.slice Ao8 t208.length co8) t208) ∧ Aside0 (Kd.R Kd.string 9 wc w.heap.size (fun _ => True) (.slice (some ad215) t211.length co14) t211) ∧ Aside0 (Kd.R k22 22 wc w.heap.size (fun _ => True) v218 t216) ∧ Aside0 (Below w.heap.size w wc))
            case first =>
              have H := HC13.out
              clear HC13
              by_cases c16 : t217 = true
              · subst c16
                have H1 : (if (t216.length : Int) = 1 then (if 0 < (t216.length : Int) then (if ((rd_T22 t216 0).f0) = t207 then (if ((rd_T22 t216 0).f2) = t207 then (if ((rd_T22 t216 0).f1) ≤ (wrap64 (x9_1 + 1)) then (laws_FnSquash.j1 k1 t207 t208 t211 x8_1 x10_1 t216 (decide (x10_1 > 0))) else (laws_FnSquash.j1 k1 t207 t208 t211 x8_1 x10_1 t216 false)) else (laws_FnSquash.j1 k1 t207 t208 t211 x8_1 x10_1 t216 true)) else (laws_FnSquash.j1 k1 t207 t208 t211 x8_1 x10_1 t216 true)) else (none)) else (laws_FnSquash.j1 k1 t207 t208 t211 x8_1 x10_1 t216 true)) = some r := by rw [if_pos rfl] at H; exact H
                clear H
                have H := H1
                clear H1
                by_cases c17 : (t216.length : Int) = 1
                · rw [if_pos c17] at H
                  have c17b0 : ((t216.length : Int) == 1) = true := beq_iff_eq.mpr c17
                  have c17b1 : ((t216.length : Int) != 1) = false := bne_eq_false_iff_eq.mpr c17
                  clear c17
                  (first | rw [c17b0] | (simp only [i64_w, i32_w]; rw [c17b0]) | skip)
                  by_cases c18 : 0 < (t216.length : Int)
                  · rw [if_pos c18] at H
                    have c18b0 : decide (0 < (t216.length : Int)) = true := decide_eq_true c18
                    have c18b1 : decide (0 < t216.length) = true := decide_eq_true (by omega)
                    clear c18
                    by_cases c19 : ((rd_T22 t216 0).f0) = t207
                    · rw [if_pos c19] at H
                      have c19b0 : (((rd_T22 t216 0).f0) == t207) = true := beq_iff_eq.mpr c19
                      have c19b1 : (((rd_T22 t216 0).f0) != t207) = false := bne_eq_false_iff_eq.mpr c19
                      clear c19
                      by_cases c20 : ((rd_T22 t216 0).f2) = t207
                      · rw [if_pos c20] at H
                        have c20b0 : (((rd_T22 t216 0).f2) == t207) = true := beq_iff_eq.mpr c20
                        have c20b1 : (((rd_T22 t216 0).f2) != t207) = false := bne_eq_false_iff_eq.mpr c20
                        clear c20
                        by_cases c21 : ((rd_T22 t216 0).f1) ≤ (wrap64 (x9_1 + 1))
                        · rw [if_pos c21] at H
                          have c21b0 : decide (((rd_T22 t216 0).f1) ≤ (wrap64 (x9_1 + 1))) = true := decide_eq_true c21
                          clear c21
                          have H' := Aside0.mk H
                          clear H
                          obtain ⟨Ao22, co22, eo22⟩ := Kd.R_slice HO219.out
                          subst eo22
                          have p220 : 0 ≤ (0 : Int) := (by omega)
                          have q220 : 0 < (t216.length : Int) := of_decide_eq_true (by first | (with_reducible assumption) | assumption)
                          obtain ⟨ad220, e220, hx220_0, hx220_1, hx220_2, hx220_3⟩ := at_T22 (Kd.R_reads' HO219.out).2.2 0 p220 q220
                          cases e220
                          have qi220 : (0 < t216.length) = True := eq_true (by omega)
                          (try rw [show ((0 : Int)).toNat = 0 from rfl] at hx220_0)
                          (try rw [show 0 * 4 = 0 from rfl] at hx220_0)
                          (try rw [Addr.add_zero'] at hx220_0)
                          (try rw [show ((0 : Int)).toNat = 0 from rfl] at hx220_1)
                          (try rw [show 0 * 4 = 0 from rfl] at hx220_1)
                          (try rw [Addr.add_zero'] at hx220_1)
                          (try rw [show ((0 : Int)).toNat = 0 from rfl] at hx220_2)
                          (try rw [show 0 * 4 = 0 from rfl] at hx220_2)
                          (try rw [Addr.add_zero'] at hx220_2)
                          (try rw [show ((0 : Int)).toNat = 0 from rfl] at hx220_3)
                          (try rw [show 0 * 4 = 0 from rfl] at hx220_3)
                          (try rw [Addr.add_zero'] at hx220_3)
                          replace p220 := eq_true p220
                          replace q220 := eq_true q220
                          have p221 : 0 ≤ (0 : Int) := (by omega)
                          have q221 : 0 < (t216.length : Int) := of_decide_eq_true (by first | (with_reducible assumption) | assumption)
                          obtain ⟨ad221, e221, hx221_0, hx221_1, hx221_2, hx221_3⟩ := at_T22 (Kd.R_reads' HO219.out).2.2 0 p221 q221
                          obtain rfl : ad220 = ad221 := (by injection e221)
                          have qi221 : (0 < t216.length) = True := eq_true (by omega)
                          (try rw [show ((0 : Int)).toNat = 0 from rfl] at hx221_0)
                          (try rw [show 0 * 4 = 0 from rfl] at hx221_0)
                          (try rw [Addr.add_zero'] at hx221_0)
                          (try rw [show ((0 : Int)).toNat = 0 from rfl] at hx221_1)
                          (try rw [show 0 * 4 = 0 from rfl] at hx221_1)
                          (try rw [Addr.add_zero'] at hx221_1)
                          (try rw [show ((0 : Int)).toNat = 0 from rfl] at hx221_2)
                          (try rw [show 0 * 4 = 0 from rfl] at hx221_2)
                          (try rw [Addr.add_zero'] at hx221_2)
                          (try rw [show ((0 : Int)).toNat = 0 from rfl] at hx221_3)
                          (try rw [show 0 * 4 = 0 from rfl] at hx221_3)
                          (try rw [Addr.add_zero'] at hx221_3)
                          replace p221 := eq_true p221
                          replace q221 := eq_true q221
                          have p222 : 0 ≤ (0 : Int) := (by omega)
                          have q222 : 0 < (t216.length : Int) := of_decide_eq_true (by first | (with_reducible assumption) | assumption)
                          obtain ⟨ad222, e222, hx222_0, hx222_1, hx222_2, hx222_3⟩ := at_T22 (Kd.R_reads' HO219.out).2.2 0 p222 q222
                          obtain rfl : ad220 = ad222 := (by injection e222)
                          have qi222 : (0 < t216.length) = True := eq_true (by omega)
                          (try rw [show ((0 : Int)).toNat = 0 from rfl] at hx222_0)
                          (try rw [show 0 * 4 = 0 from rfl] at hx222_0)
                          (try rw [Addr.add_zero'] at hx222_0)
                          (try rw [show ((0 : Int)).toNat = 0 from rfl] at hx222_1)
                          (try rw [show 0 * 4 = 0 from rfl] at hx222_1)
                          (try rw [Addr.add_zero'] at hx222_1)
                          (try rw [show ((0 : Int)).toNat = 0 from rfl] at hx222_2)
                          (try rw [show 0 * 4 = 0 from rfl] at hx222_2)
                          (try rw [Addr.add_zero'] at hx222_2)
                          (try rw [show ((0 : Int)).toNat = 0 from rfl] at hx222_3)
                          (try rw [show 0 * 4 = 0 from rfl] at hx222_3)
                          (try rw [Addr.add_zero'] at hx222_3)
                          replace p222 := eq_true p222
                          replace q222 := eq_true q222
                          go_wp2
                          go_meet
                          case rel => exact ⟨_, (decide (x10_1 > 0)), (by first | rfl | (simp; done) | (simp [*]; done)), H', ⟨by have := HK1.out; first | omega | exact Nat.le_refl _⟩, ⟨by (with_reducible repeat (first | apply Kd.R_alloc | apply Kd.R_drewN | apply Kd.R_drew)); exact HO_6.out⟩, ⟨by (with_reducible repeat (first | apply Kd.R_alloc | apply Kd.R_drewN | apply Kd.R_drew)); exact HO_7.out⟩, ⟨by (with_reducible repeat (first | apply Kd.R_alloc | apply Kd.R_drewN | apply Kd.R_drew)); exact HO219.out⟩, ⟨by repeat (first | (with_reducible first | exact HB.out | apply below_alloc | apply pw_below_drewN | apply below_drew1) | exact HB.out)⟩⟩
                        · rw [if_neg c21] at H
                          have c21b0 : decide (((rd_T22 t216 0).f1) ≤ (wrap64 (x9_1 + 1))) = false := decide_eq_false c21
                          clear c21
                          have H' := Aside0.mk H
                          clear H
                          obtain ⟨Ao23, co23, eo23⟩ := Kd.R_slice HO219.out
                          subst eo23
                          have p220 : 0 ≤ (0 : Int) := (by omega)
                          have q220 : 0 < (t216.length : Int) := of_decide_eq_true (by first | (with_reducible assumption) | assumption)
                          obtain ⟨ad220, e220, hx220_0, hx220_1, hx220_2, hx220_3⟩ := at_T22 (Kd.R_reads' HO219.out).2.2 0 p220 q220
                          cases e220
                          have qi220 : (0 < t216.length) = True := eq_true (by omega)
                          (try rw [show ((0 : Int)).toNat = 0 from rfl] at hx220_0)
                          (try rw [show 0 * 4 = 0 from rfl] at hx220_0)
                          (try rw [Addr.add_zero'] at hx220_0)
                          (try rw [show ((0 : Int)).toNat = 0 from rfl] at hx220_1)
                          (try rw [show 0 * 4 = 0 from rfl] at hx220_1)
                          (try rw [Addr.add_zero'] at hx220_1)
                          (try rw [show ((0 : Int)).toNat = 0 from rfl] at hx220_2)
                          (try rw [show 0 * 4 = 0 from rfl] at hx220_2)
                          (try rw [Addr.add_zero'] at hx220_2)
                          (try rw [show ((0 : Int)).toNat = 0 from rfl] at hx220_3)
                          (try rw [show 0 * 4 = 0 from rfl] at hx220_3)
                          (try rw [Addr.add_zero'] at hx220_3)
                          replace p220 := eq_true p220
                          replace q220 := eq_true q220
                          have p221 : 0 ≤ (0 : Int) := (by omega)
                          have q221 : 0 < (t216.length : Int) := of_decide_eq_true (by first | (with_reducible assumption) | assumption)
                          obtain ⟨ad221, e221, hx221_0, hx221_1, hx221_2, hx221_3⟩ := at_T22 (Kd.R_reads' HO219.out).2.2 0 p221 q221
                          obtain rfl : ad220 = ad221 := (by injection e221)
                          have qi221 : (0 < t216.length) = True := eq_true (by omega)
                          (try rw [show ((0 : Int)).toNat = 0 from rfl] at hx221_0)
                          (try rw [show 0 * 4 = 0 from rfl] at hx221_0)
                          (try rw [Addr.add_zero'] at hx221_0)
                          (try rw [show ((0 : Int)).toNat = 0 from rfl] at hx221_1)
                          (try rw [show 0 * 4 = 0 from rfl] at hx221_1)
                          (try rw [Addr.add_zero'] at hx221_1)
                          (try rw [show ((0 : Int)).toNat = 0 from rfl] at hx221_2)
                          (try rw [show 0 * 4 = 0 from rfl] at hx221_2)
                          (try rw [Addr.add_zero'] at hx221_2)
                          (try rw [show ((0 : Int)).toNat = 0 from rfl] at hx221_3)
                          (try rw [show 0 * 4 = 0 from rfl] at hx221_3)
                          (try rw [Addr.add_zero'] at hx221_3)
                          replace p221 := eq_true p221
                          replace q221 := eq_true q221
                          have p222 : 0 ≤ (0 : Int) := (by omega)
                          have q222 : 0 < (t216.length : Int) := of_decide_eq_true (by first | (with_reducible assumption) | assumption)
                          obtain ⟨ad222, e222, hx222_0, hx222_1, hx222_2, hx222_3⟩ := at_T22 (Kd.R_reads' HO219.out).2.2 0 p222 q222
                          obtain rfl : ad220 = ad222 := (by injection e222)
                          have qi222 : (0 < t216.length) = True := eq_true (by omega)
                          (try rw [show ((0 : Int)).toNat = 0 from rfl] at hx222_0)
                          (try rw [show 0 * 4 = 0 from rfl] at hx222_0)
                          (try rw [Addr.add_zero'] at hx222_0)
                          (try rw [show ((0 : Int)).toNat = 0 from rfl] at hx222_1)
                          (try rw [show 0 * 4 = 0 from rfl] at hx222_1)
                          (try rw [Addr.add_zero'] at hx222_1)
                          (try rw [show ((0 : Int)).toNat = 0 from rfl] at hx222_2)
                          (try rw [show 0 * 4 = 0 from rfl] at hx222_2)
                          (try rw [Addr.add_zero'] at hx222_2)
                          (try rw [show ((0 : Int)).toNat = 0 from rfl] at hx222_3)
                          (try rw [show 0 * 4 = 0 from rfl] at hx222_3)
                          (try rw [Addr.add_zero'] at hx222_3)
                          replace p222 := eq_true p222
                          replace q222 := eq_true q222
                          go_wp2
                          go_meet
                          case rel => exact ⟨_, (false), (by first | rfl | (simp; done) | (simp [*]; done)), H', ⟨by have := HK1.out; first | omega | exact Nat.le_refl _⟩, ⟨by (with_reducible repeat (first | apply Kd.R_alloc | apply Kd.R_drewN | apply Kd.R_drew)); exact HO_6.out⟩, ⟨by (with_reducible repeat (first | apply Kd.R_alloc | apply Kd.R_drewN | apply Kd.R_drew)); exact HO_7.out⟩, ⟨by (with_reducible repeat (first | apply Kd.R_alloc | apply Kd.R_drewN | apply Kd.R_drew)); exact HO219.out⟩, ⟨by repeat (first | (with_reducible first | exact HB.out | apply below_alloc | apply pw_below_drewN | apply below_drew1) | exact HB.out)⟩⟩
                      · rw [if_neg c20] at H
                        have c20b0 : (((rd_T22 t216 0).f2) == t207) = false := beq_eq_false_iff_ne.mpr c20
                        have c20b1 : (((rd_T22 t216 0).f2) != t207) = true := bne_iff_ne.mpr c20
                        have H' := Aside0.mk H
                        clear H
                        obtain ⟨Ao24, co24, eo24⟩ := Kd.R_slice HO219.out
                        subst eo24
                        have p220 : 0 ≤ (0 : Int) := (by omega)
                        have q220 : 0 < (t216.length : Int) := of_decide_eq_true (by first | (with_reducible assumption) | assumption)
                        obtain ⟨ad220, e220, hx220_0, hx220_1, hx220_2, hx220_3⟩ := at_T22 (Kd.R_reads' HO219.out).2.2 0 p220 q220
                        cases e220
                        have qi220 : (0 < t216.length) = True := eq_true (by omega)
                        (try rw [show ((0 : Int)).toNat = 0 from rfl] at hx220_0)
                        (try rw [show 0 * 4 = 0 from rfl] at hx220_0)
                        (try rw [Addr.add_zero'] at hx220_0)
                        (try rw [show ((0 : Int)).toNat = 0 from rfl] at hx220_1)
                        (try rw [show 0 * 4 = 0 from rfl] at hx220_1)
                        (try rw [Addr.add_zero'] at hx220_1)
                        (try rw [show ((0 : Int)).toNat = 0 from rfl] at hx220_2)
                        (try rw [show 0 * 4 = 0 from rfl] at hx220_2)
                        (try rw [Addr.add_zero'] at hx220_2)
                        (try rw [show ((0 : Int)).toNat = 0 from rfl] at hx220_3)
                        (try rw [show 0 * 4 = 0 from rfl] at hx220_3)
                        (try rw [Addr.add_zero'] at hx220_3)
                        replace p220 := eq_true p220
                        replace q220 := eq_true q220
                        have p221 : 0 ≤ (0 : Int) := (by omega)
                        have q221 : 0 < (t216.length : Int) := of_decide_eq_true (by first | (with_reducible assumption) | assumption)
                        obtain ⟨ad221, e221, hx221_0, hx221_1, hx221_2, hx221_3⟩ := at_T22 (Kd.R_reads' HO219.out).2.2 0 p221 q221
                        obtain rfl : ad220 = ad221 := (by injection e221)
                        have qi221 : (0 < t216.length) = True := eq_true (by omega)
                        (try rw [show ((0 : Int)).toNat = 0 from rfl] at hx221_0)
                        (try rw [show 0 * 4 = 0 from rfl] at hx221_0)
                        (try rw [Addr.add_zero'] at hx221_0)
                        (try rw [show ((0 : Int)).toNat = 0 from rfl] at hx221_1)
                        (try rw [show 0 * 4 = 0 from rfl] at hx221_1)
                        (try rw [Addr.add_zero'] at hx221_1)
                        (try rw [show ((0 : Int)).toNat = 0 from rfl] at hx221_2)
                        (try rw [show 0 * 4 = 0 from rfl] at hx221_2)
                        (try rw [Addr.add_zero'] at hx221_2)
                        (try rw [show ((0 : Int)).toNat = 0 from rfl] at hx221_3)
                        (try rw [show 0 * 4 = 0 from rfl] at hx221_3)
                        (try rw [Addr.add_zero'] at hx221_3)
                        replace p221 := eq_true p221
                        replace q221 := eq_true q221
                        go_wp2
                        go_meet
                        case rel => exact ⟨_, (true), (by first | rfl | (simp; done) | (simp [*]; done)), H', ⟨by have := HK1.out; first | omega | exact Nat.le_refl _⟩, ⟨by (with_reducible repeat (first | apply Kd.R_alloc | apply Kd.R_drewN | apply Kd.R_drew)); exact HO_6.out⟩, ⟨by (with_reducible repeat (first | apply Kd.R_alloc | apply Kd.R_drewN | apply Kd.R_drew)); exact HO_7.out⟩, ⟨by (with_reducible repeat (first | apply Kd.R_alloc | apply Kd.R_drewN | apply Kd.R_drew)); exact HO219.out⟩, ⟨by repeat (first | (with_reducible first | exact HB.out | apply below_alloc | apply pw_below_drewN | apply below_drew1) | exact HB.out)⟩⟩
                    · rw [if_neg c19] at H
                      have c19b0 : (((rd_T22 t216 0).f0) == t207) = false := beq_eq_false_iff_ne.mpr c19
                      have c19b1 : (((rd_T22 t216 0).f0) != t207) = true := bne_iff_ne.mpr c19
                      have H' := Aside0.mk H
                      clear H
                      obtain ⟨Ao25, co25, eo25⟩ := Kd.R_slice HO219.out
                      subst eo25
                      have p220 : 0 ≤ (0 : Int) := (by omega)
                      have q220 : 0 < (t216.length : Int) := of_decide_eq_true (by first | (with_reducible assumption) | assumption)
                      obtain ⟨ad220, e220, hx220_0, hx220_1, hx220_2, hx220_3⟩ := at_T22 (Kd.R_reads' HO219.out).2.2 0 p220 q220
                      cases e220
                      have qi220 : (0 < t216.length) = True := eq_true (by omega)
                      (try rw [show ((0 : Int)).toNat = 0 from rfl] at hx220_0)
                      (try rw [show 0 * 4 = 0 from rfl] at hx220_0)
                      (try rw [Addr.add_zero'] at hx220_0)
                      (try rw [show ((0 : Int)).toNat = 0 from rfl] at hx220_1)
                      (try rw [show 0 * 4 = 0 from rfl] at hx220_1)
                      (try rw [Addr.add_zero'] at hx220_1)
                      (try rw [show ((0 : Int)).toNat = 0 from rfl] at hx220_2)
                      (try rw [show 0 * 4 = 0 from rfl] at hx220_2)
                      (try rw [Addr.add_zero'] at hx220_2)
                      (try rw [show ((0 : Int)).toNat = 0 from rfl] at hx220_3)
                      (try rw [show 0 * 4 = 0 from rfl] at hx220_3)
                      (try rw [Addr.add_zero'] at hx220_3)
                      replace p220 := eq_true p220
                      replace q220 := eq_true q220
                      go_wp2
                      go_meet
                      case rel => exact ⟨_, (true), (by first | rfl | (simp; done) | (simp [*]; done)), H', ⟨by have := HK1.out; first | omega | exact Nat.le_refl _⟩, ⟨by (with_reducible repeat (first | apply Kd.R_alloc | apply Kd.R_drewN | apply Kd.R_drew)); exact HO_6.out⟩, ⟨by (with_reducible repeat (first | apply Kd.R_alloc | apply Kd.R_drewN | apply Kd.R_drew)); exact HO_7.out⟩, ⟨by (with_reducible repeat (first | apply Kd.R_alloc | apply Kd.R_drewN | apply Kd.R_drew)); exact HO219.out⟩, ⟨by repeat (first | (with_reducible first | exact HB.out | apply below_alloc | apply pw_below_drewN | apply below_drew1) | exact HB.out)⟩⟩
                  · rw [if_neg c18] at H
                    exact absurd H (by simp)
                · rw [if_neg c17] at H
                  have c17b0 : ((t216.length : Int) == 1) = false := beq_eq_false_iff_ne.mpr c17
                  have c17b1 : ((t216.length : Int) != 1) = true := bne_iff_ne.mpr c17
                  (first | rw [c17b0] | (simp only [i64_w, i32_w]; rw [c17b0]) | skip)
                  have H' := Aside0.mk H
                  clear H
                  obtain ⟨Ao26, co26, eo26⟩ := Kd.R_slice HO219.out
                  subst eo26
                  go_wp2
                  go_meet
                  case rel => exact ⟨_, (true), (by first | rfl | (simp; done) | (simp [*]; done)), H', ⟨by have := HK1.out; first | omega | exact Nat.le_refl _⟩, ⟨by (with_reducible repeat (first | apply Kd.R_alloc | apply Kd.R_drewN | apply Kd.R_drew)); exact HO_6.out⟩, ⟨by (with_reducible repeat (first | apply Kd.R_alloc | apply Kd.R_drewN | apply Kd.R_drew)); exact HO_7.out⟩, ⟨by (with_reducible repeat (first | apply Kd.R_alloc | apply Kd.R_drewN | apply Kd.R_drew)); exact HO219.out⟩, ⟨by repeat (first | (with_reducible first | exact HB.out | apply below_alloc | apply pw_below_drewN | apply below_drew1) | exact HB.out)⟩⟩
              · replace c16 := Bool.eq_false_iff.mpr c16
                subst c16
                have H1 : (laws_FnSquash.j1 k1 t207 t208 t211 x8_1 x10_1 t216 true) = some r := by rw [if_neg (show ¬ (false = true) by decide)] at H; exact H
                clear H
                have H := H1
                clear H1
                have H' := Aside0.mk H
                clear H
                go_wp2
                go_meet
                case rel => exact ⟨_, (true), (by first | rfl | (simp; done) | (simp [*]; done)), H', ⟨by have := HK1.out; first | omega | exact Nat.le_refl _⟩, ⟨by (with_reducible repeat (first | apply Kd.R_alloc | apply Kd.R_drewN | apply Kd.R_drew)); exact HO_6.out⟩, ⟨by (with_reducible repeat (first | apply Kd.R_alloc | apply Kd.R_drewN | apply Kd.R_drew)); exact HO_7.out⟩, ⟨by (with_reducible repeat (first | apply Kd.R_alloc | apply Kd.R_drewN | apply Kd.R_drew)); exact HO219.out⟩, ⟨by repeat (first | (with_reducible first | exact HB.out | apply below_alloc | apply pw_below_drewN | apply below_drew1) | exact HB.out)⟩⟩
            case rest =>
              clear HC13
              try clear c1
              try clear c2
              try clear p2
              try clear q2
              try clear hx2
              try clear qi2
              try clear c3
              try clear c3b0
              try clear c3b1
              try clear c6
              try clear p6
              try clear c10
              try clear c10b0
              try clear c11
              try clear c11b0
              try clear c16
              try clear c17
              try clear c17b0
              try clear c17b1
              try clear c18
              try clear c18b0
              try clear c18b1
              try clear c19
              try clear c19b0
              try clear c19b1
              try clear c20
              try clear c20b0
              try clear c20b1
              try clear c21
              try clear c21b0
              try clear p21
              try clear q21
              try clear hx21
              try clear c22
              try clear p22
              try clear q22
              try clear hx22
              try clear qi22
              try clear c23
              try clear c24
              try clear hx215_0
              try clear hx220_0
              try clear hx220_1
              try clear hx220_2
              try clear hx220_3
              try clear hx221_0
              try clear hx221_1
              try clear hx221_2
              try clear hx221_3
              try clear hx222_0
              try clear hx222_1
              try clear hx222_2
              try clear hx222_3
              try clear p2
              try clear p215
              try clear p220
              try clear p221
              try clear p222
              try clear q215
              try clear q220
              try clear q221
              try clear q222
              obtain ⟨kq, x73_12, rfl, HA, HJ12, HO_6, HO_7, HO_11, HB⟩ := hcut
              cases kq with
              | zero => exact absurd HA.out (by simp [laws_FnSquash.j1])
              | succ kj12 =>
                have H := HA.out
                clear HA
                simp only [laws_FnSquash.j1] at H
                by_cases c27 : x73_12 = true
                · subst c27
                  have H1 : (some false) = some r := by rw [if_pos rfl] at H; exact H
                  clear H
                  have H := H1
                  clear H1
                  obtain rfl := Option.some.inj H
                  go_wp2
                  go_ret
                  exact ⟨by first | rfl | (simp [errW_none, errW_some] <;> rfl) | (simp [*, errW_none, errW_some] <;> rfl), by repeat (first | (with_reducible first | exact HB.out | apply below_alloc | apply pw_below_drewN | apply below_drew1) | exact HB.out)⟩
                · replace c27 := Bool.eq_false_iff.mpr c27
                  subst c27
                  have H1 : (if 0 < (t216.length : Int) then (laws_FnSquash.l1 kj12 t207 t208 t211 x8_1 x10_1 t216 ((rd_T22 t216 0).f1)) else (none)) = some r := by rw [if_neg (show ¬ (false = true) by decide)] at H; exact H
                  clear H
                  have H := H1
                  clear H1
                  by_cases c28 : 0 < (t216.length : Int)
                  · rw [if_pos c28] at H
                    have c28b0 : decide (0 < (t216.length : Int)) = true := decide_eq_true c28
                    have c28b1 : decide (0 < t216.length) = true := decide_eq_true (by omega)
                    clear c28
                    have H' := Aside0.mk H
                    clear H
                    obtain ⟨Ao29, co29, eo29⟩ := Kd.R_slice HO_11.out
                    subst eo29
                    have p223 : 0 ≤ (0 : Int) := (by omega)
                    have q223 : 0 < (t216.length : Int) := of_decide_eq_true (by first | (with_reducible assumption) | assumption)
                    obtain ⟨ad223, e223, hx223_0, hx223_1, hx223_2, hx223_3⟩ := at_T22 (Kd.R_reads' HO_11.out).2.2 0 p223 q223
                    cases e223
                    have qi223 : (0 < t216.length) = True := eq_true (by omega)
                    (try rw [show ((0 : Int)).toNat = 0 from rfl] at hx223_0)
                    (try rw [show 0 * 4 = 0 from rfl] at hx223_0)
                    (try rw [Addr.add_zero'] at hx223_0)
                    (try rw [show ((0 : Int)).toNat = 0 from rfl] at hx223_1)
                    (try rw [show 0 * 4 = 0 from rfl] at hx223_1)
                    (try rw [Addr.add_zero'] at hx223_1)
                    (try rw [show ((0 : Int)).toNat = 0 from rfl] at hx223_2)
                    (try rw [show 0 * 4 = 0 from rfl] at hx223_2)
                    (try rw [Addr.add_zero'] at hx223_2)
                    (try rw [show ((0 : Int)).toNat = 0 from rfl] at hx223_3)
                    (try rw [show 0 * 4 = 0 from rfl] at hx223_3)
                    (try rw [Addr.add_zero'] at hx223_3)
                    replace p223 := eq_true p223
                    replace q223 := eq_true q223
                    go_wp2
                    go_loopg [8, 13] kj12 (fun kq v8 v13 w' => ∃ (x8_3 : Int) (x13_3 : Int), v8 = .int .i64 x8_3 ∧ v13 = .int .i64 x13_3 ∧ Aside0 (laws_FnSquash.l1 kq t207 t208 t211 x8_3 x10_1 t216 x13_3 = some r) ∧ Aside0 (kq ≤ kj12) ∧ Aside0 (Kd.R (Kd.int .i64) 3 w' w.heap.size (fun _ => True) (.slice Ao8 t208.length co8) t208) ∧ Aside0 (Kd.R Kd.string 9 w' w.heap.size (fun _ => True) (.slice (some ad215) t211.length co14) t211) ∧ Aside0 (Kd.R k22 22 w' w.heap.size (fun _ => True) (.slice (some ad223) t216.length co29) t216) ∧ Aside0 (Below w.heap.size w w'))
                    case atStart => exact ⟨(x8_1), ((rd_T22 t216 0).f1), (by first | rfl | (simp; done) | (simp [*]; done)), (by first | rfl | (simp; done) | (simp [*]; done)), H', ⟨Nat.le_refl _⟩, ⟨by (with_reducible repeat (first | apply Kd.R_alloc | apply Kd.R_drewN | apply Kd.R_drew)); exact HO_6.out⟩, ⟨by (with_reducible repeat (first | apply Kd.R_alloc | apply Kd.R_drewN | apply Kd.R_drew)); exact HO_7.out⟩, ⟨by (with_reducible repeat (first | apply Kd.R_alloc | apply Kd.R_drewN | apply Kd.R_drew)); exact HO_11.out⟩, ⟨by repeat (first | (with_reducible first | exact HB.out | apply below_alloc | apply pw_below_drewN | apply below_drew1) | exact HB.out)⟩⟩
                    case round =>
                      clear H'
                      try clear c1
                      try clear c2
                      try clear p2
                      try clear q2
                      try clear hx2
                      try clear qi2
                      try clear c3
                      try clear c3b0
                      try clear c3b1
                      try clear c6
                      try clear p6
                      try clear c10
                      try clear c10b0
                      try clear c11
                      try clear c11b0
                      try clear c16
                      try clear c17
                      try clear c17b0
                      try clear c17b1
                      try clear c18
                      try clear c18b0
                      try clear c18b1
                      try clear c19
                      try clear c19b0
                      try clear c19b1
                      try clear c20
                      try clear c20b0
                      try clear c20b1
                      try clear c21
                      try clear c21b0
                      try clear p21
                      try clear q21
                      try clear hx21
                      try clear c22
                      try clear p22
                      try clear q22
                      try clear hx22
                      try clear qi22
                      try clear c23
                      try clear c24
                      try clear c27
                      try clear c28
                      try clear c28b0
                      try clear c28b1
                      try clear hx215_0
                      try clear hx220_0
                      try clear hx220_1
                      try clear hx220_2
                      try clear hx220_3
                      try clear hx221_0
                      try clear hx221_1
                      try clear hx221_2
                      try clear hx221_3
                      try clear hx222_0
                      try clear hx222_1
                      try clear hx222_2
                      try clear hx222_3
                      try clear hx223_0
                      try clear hx223_1
                      try clear hx223_2
                      try clear hx223_3
                      try clear p2
                      try clear p21
                      try clear p215
                      try clear p22
                      try clear p220
                      try clear p221
                      try clear p222
                      try clear p223
                      try clear p6
                      try clear q2
                      try clear q21
                      try clear q215
                      try clear q22
                      try clear q220
                      try clear q221
                      try clear q222
                      try clear q223
                      obtain ⟨x8_3, x13_3, rfl, rfl, HA, HK3, HO_6, HO_7, HO_11, HB⟩ := hrel
                      cases gk with
                      | zero => exact absurd HA.out (by simp [laws_FnSquash.l1])
                      | succ k3 =>
                        have H := HA.out
                        clear HA
                        simp only [laws_FnSquash.l1] at H
                        by_cases c30 : 0 < (t216.length : Int)
                        · rw [if_pos c30] at H
                          have c30b0 : decide (0 < (t216.length : Int)) = true := decide_eq_true c30
                          have c30b1 : decide (0 < t216.length) = true := decide_eq_true (by omega)
                          clear c30
                          by_cases c31 : x13_3 ≤ ((rd_T22 t216 0).f3)
                          · rw [if_pos c31] at H
                            have c31b0 : decide (x13_3 ≤ ((rd_T22 t216 0).f3)) = true := decide_eq_true c31
                            clear c31
                            by_cases c32 : x8_3 ≥ (t208.length : Int)
                            · rw [if_pos c32] at H
                              have c32b0 : decide ((t208.length : Int) ≤ x8_3) = true := decide_eq_true c32
                              clear c32
                              obtain rfl := Option.some.inj H
                              have p224 : 0 ≤ (0 : Int) := (by omega)
                              have q224 : 0 < (t216.length : Int) := of_decide_eq_true (by first | (with_reducible assumption) | assumption)
                              obtain ⟨ad224, e224, hx224_0, hx224_1, hx224_2, hx224_3⟩ := at_T22 (Kd.R_reads' HO_11.out).2.2 0 p224 q224
                              obtain rfl : ad223 = ad224 := (by injection e224)
                              have qi224 : (0 < t216.length) = True := eq_true (by omega)
                              (try rw [show ((0 : Int)).toNat = 0 from rfl] at hx224_0)
                              (try rw [show 0 * 4 = 0 from rfl] at hx224_0)
                              (try rw [Addr.add_zero'] at hx224_0)
                              (try rw [show ((0 : Int)).toNat = 0 from rfl] at hx224_1)
                              (try rw [show 0 * 4 = 0 from rfl] at hx224_1)
                              (try rw [Addr.add_zero'] at hx224_1)
                              (try rw [show ((0 : Int)).toNat = 0 from rfl] at hx224_2)
                              (try rw [show 0 * 4 = 0 from rfl] at hx224_2)
                              (try rw [Addr.add_zero'] at hx224_2)
                              (try rw [show ((0 : Int)).toNat = 0 from rfl] at hx224_3)
                              (try rw [show 0 * 4 = 0 from rfl] at hx224_3)
                              (try rw [Addr.add_zero'] at hx224_3)
                              replace p224 := eq_true p224
                              replace q224 := eq_true q224
                              go_wp2
                              go_ret
                              exact ⟨by first | rfl | (simp [errW_none, errW_some] <;> rfl) | (simp [*, errW_none, errW_some] <;> rfl), by repeat (first | (with_reducible first | exact HB.out | apply below_alloc | apply pw_below_drewN | apply below_drew1) | exact HB.out)⟩
                            · rw [if_neg c32] at H
                              have c32b0 : decide ((t208.length : Int) ≤ x8_3) = false := decide_eq_false c32
                              clear c32
                              by_cases c33 : 0 ≤ x8_3
                              · rw [if_pos c33] at H
                                have c33b0 : decide (0 ≤ x8_3) = true := decide_eq_true c33
                                clear c33
                                by_cases c34 : x8_3 < (t208.length : Int)
                                · rw [if_pos c34] at H
                                  have c34b0 : decide (x8_3 < (t208.length : Int)) = true := decide_eq_true c34
                                  clear c34
                                  by_cases c35 : (rd t208 x8_3) = x13_3
                                  · rw [if_pos c35] at H
                                    have c35b0 : ((rd t208 x8_3) == x13_3) = true := beq_iff_eq.mpr c35
                                    have c35b1 : ((rd t208 x8_3) != x13_3) = false := bne_eq_false_iff_eq.mpr c35
                                    clear c35
                                    have H' := Aside0.mk H
                                    clear H
                                    have p224 : 0 ≤ (0 : Int) := (by omega)
                                    have q224 : 0 < (t216.length : Int) := of_decide_eq_true (by first | (with_reducible assumption) | assumption)
                                    obtain ⟨ad224, e224, hx224_0, hx224_1, hx224_2, hx224_3⟩ := at_T22 (Kd.R_reads' HO_11.out).2.2 0 p224 q224
                                    obtain rfl : ad223 = ad224 := (by injection e224)
                                    have qi224 : (0 < t216.length) = True := eq_true (by omega)
                                    (try rw [show ((0 : Int)).toNat = 0 from rfl] at hx224_0)
                                    (try rw [show 0 * 4 = 0 from rfl] at hx224_0)
                                    (try rw [Addr.add_zero'] at hx224_0)
                                    (try rw [show ((0 : Int)).toNat = 0 from rfl] at hx224_1)
                                    (try rw [show 0 * 4 = 0 from rfl] at hx224_1)
                                    (try rw [Addr.add_zero'] at hx224_1)
                                    (try rw [show ((0 : Int)).toNat = 0 from rfl] at hx224_2)
                                    (try rw [show 0 * 4 = 0 from rfl] at hx224_2)
                                    (try rw [Addr.add_zero'] at hx224_2)
                                    (try rw [show ((0 : Int)).toNat = 0 from rfl] at hx224_3)
                                    (try rw [show 0 * 4 = 0 from rfl] at hx224_3)
                                    (try rw [Addr.add_zero'] at hx224_3)
                                    replace p224 := eq_true p224
                                    replace q224 := eq_true q224
                                    have p225 : 0 ≤ (x8_3 : Int) := of_decide_eq_true (by first | (with_reducible assumption) | assumption)
                                    have q225 : x8_3 < (t208.length : Int) := of_decide_eq_true (by first | (with_reducible assumption) | assumption)
                                    obtain ⟨ad225, e225, hx225_0⟩ := Kd.at_int (Kd.R_reads' HO_6.out).2.2 x8_3 p225 q225
                                    cases e225
                                    replace p225 := eq_true p225
                                    replace q225 := eq_true q225
                                    go_wp2
                                    go_roundg k3
                                    case measure => have := HK1.out; have := HJ12.out; have := HK3.out; omega
                                    case rel => exact ⟨(wrap64 (x8_3 + 1)), (wrap64 (x13_3 + 1)), (by first | rfl | (simp; done) | (simp [*]; done)), (by first | rfl | (simp; done) | (simp [*]; done)), H', ⟨by have := HK1.out; have := HJ12.out; have := HK3.out; omega⟩, ⟨by (with_reducible repeat (first | apply Kd.R_alloc | apply Kd.R_drewN | apply Kd.R_drew)); exact HO_6.out⟩, ⟨by (with_reducible repeat (first | apply Kd.R_alloc | apply Kd.R_drewN | apply Kd.R_drew)); exact HO_7.out⟩, ⟨by (with_reducible repeat (first | apply Kd.R_alloc | apply Kd.R_drewN | apply Kd.R_drew)); exact HO_11.out⟩, ⟨by repeat (first | (with_reducible first | exact HB.out | apply below_alloc | apply pw_below_drewN | apply below_drew1) | exact HB.out)⟩⟩
                                  · rw [if_neg c35] at H
                                    have c35b0 : ((rd t208 x8_3) == x13_3) = false := beq_eq_false_iff_ne.mpr c35
                                    have c35b1 : ((rd t208 x8_3) != x13_3) = true := bne_iff_ne.mpr c35
                                    obtain rfl := Option.some.inj H
                                    have p224 : 0 ≤ (0 : Int) := (by omega)
                                    have q224 : 0 < (t216.length : Int) := of_decide_eq_true (by first | (with_reducible assumption) | assumption)
                                    obtain ⟨ad224, e224, hx224_0, hx224_1, hx224_2, hx224_3⟩ := at_T22 (Kd.R_reads' HO_11.out).2.2 0 p224 q224
                                    obtain rfl : ad223 = ad224 := (by injection e224)
                                    have qi224 : (0 < t216.length) = True := eq_true (by omega)
                                    (try rw [show ((0 : Int)).toNat = 0 from rfl] at hx224_0)
                                    (try rw [show 0 * 4 = 0 from rfl] at hx224_0)
                                    (try rw [Addr.add_zero'] at hx224_0)
                                    (try rw [show ((0 : Int)).toNat = 0 from rfl] at hx224_1)
                                    (try rw [show 0 * 4 = 0 from rfl] at hx224_1)
                                    (try rw [Addr.add_zero'] at hx224_1)
                                    (try rw [show ((0 : Int)).toNat = 0 from rfl] at hx224_2)
                                    (try rw [show 0 * 4 = 0 from rfl] at hx224_2)
                                    (try rw [Addr.add_zero'] at hx224_2)
                                    (try rw [show ((0 : Int)).toNat = 0 from rfl] at hx224_3)
                                    (try rw [show 0 * 4 = 0 from rfl] at hx224_3)
                                    (try rw [Addr.add_zero'] at hx224_3)
                                    replace p224 := eq_true p224
                                    replace q224 := eq_true q224
                                    have p225 : 0 ≤ (x8_3 : Int) := of_decide_eq_true (by first | (with_reducible assumption) | assumption)
                                    have q225 : x8_3 < (t208.length : Int) := of_decide_eq_true (by first | (with_reducible assumption) | assumption)
                                    obtain ⟨ad225, e225, hx225_0⟩ := Kd.at_int (Kd.R_reads' HO_6.out).2.2 x8_3 p225 q225
                                    cases e225
                                    replace p225 := eq_true p225
                                    replace q225 := eq_true q225
                                    go_wp2
                                    go_ret
                                    exact ⟨by first | rfl | (simp [errW_none, errW_some] <;> rfl) | (simp [*, errW_none, errW_some] <;> rfl), by repeat (first | (with_reducible first | exact HB.out | apply below_alloc | apply pw_below_drewN | apply below_drew1) | exact HB.out)⟩
                                · rw [if_neg c34] at H
                                  exact absurd H (by simp)
                              · rw [if_neg c33] at H
                                exact absurd H (by simp)
                          · rw [if_neg c31] at H
                            have c31b0 : decide (x13_3 ≤ ((rd_T22 t216 0).f3)) = false := decide_eq_false c31
                            clear c31
                            have H' := Aside0.mk H
                            clear H
                            have p224 : 0 ≤ (0 : Int) := (by omega)
                            have q224 : 0 < (t216.length : Int) := of_decide_eq_true (by first | (with_reducible assumption) | assumption)
                            obtain ⟨ad224, e224, hx224_0, hx224_1, hx224_2, hx224_3⟩ := at_T22 (Kd.R_reads' HO_11.out).2.2 0 p224 q224
                            obtain rfl : ad223 = ad224 := (by injection e224)
                            have qi224 : (0 < t216.length) = True := eq_true (by omega)
                            (try rw [show ((0 : Int)).toNat = 0 from rfl] at hx224_0)
                            (try rw [show 0 * 4 = 0 from rfl] at hx224_0)
                            (try rw [Addr.add_zero'] at hx224_0)
                            (try rw [show ((0 : Int)).toNat = 0 from rfl] at hx224_1)
                            (try rw [show 0 * 4 = 0 from rfl] at hx224_1)
                            (try rw [Addr.add_zero'] at hx224_1)
                            (try rw [show ((0 : Int)).toNat = 0 from rfl] at hx224_2)
                            (try rw [show 0 * 4 = 0 from rfl] at hx224_2)
                            (try rw [Addr.add_zero'] at hx224_2)
                            (try rw [show ((0 : Int)).toNat = 0 from rfl] at hx224_3)
                            (try rw [show 0 * 4 = 0 from rfl] at hx224_3)
                            (try rw [Addr.add_zero'] at hx224_3)
                            replace p224 := eq_true p224
                            replace q224 := eq_true q224
                            have p226 : 0 ≤ (0 : Int) := (by omega)
                            have q226 : 0 < (t216.length : Int) := of_decide_eq_true (by first | (with_reducible assumption) | assumption)
                            obtain ⟨ad226, e226, hx226_0, hx226_1, hx226_2, hx226_3⟩ := at_T22 (Kd.R_reads' HO_11.out).2.2 0 p226 q226
                            obtain rfl : ad223 = ad226 := (by injection e226)
                            have qi226 : (0 < t216.length) = True := eq_true (by omega)
                            (try rw [show ((0 : Int)).toNat = 0 from rfl] at hx226_0)
                            (try rw [show 0 * 4 = 0 from rfl] at hx226_0)
                            (try rw [Addr.add_zero'] at hx226_0)
                            (try rw [show ((0 : Int)).toNat = 0 from rfl] at hx226_1)
                            (try rw [show 0 * 4 = 0 from rfl] at hx226_1)
                            (try rw [Addr.add_zero'] at hx226_1)
                            (try rw [show ((0 : Int)).toNat = 0 from rfl] at hx226_2)
                            (try rw [show 0 * 4 = 0 from rfl] at hx226_2)
                            (try rw [Addr.add_zero'] at hx226_2)
                            (try rw [show ((0 : Int)).toNat = 0 from rfl] at hx226_3)
                            (try rw [show 0 * 4 = 0 from rfl] at hx226_3)
                            (try rw [Addr.add_zero'] at hx226_3)
                            replace p226 := eq_true p226
                            replace q226 := eq_true q226
                            go_wp2
                            go_roundg k3
                            case measure => have := HK1.out; have := HJ12.out; have := HK3.out; omega
                            case rel => exact ⟨(x8_3), ((rd_T22 t216 0).f3), (wrap64 (x10_1 + 1)), (by first | rfl | (simp; done) | (simp [*]; done)), (by first | rfl | (simp; done) | (simp [*]; done)), (by first | rfl | (simp; done) | (simp [*]; done)), H', ⟨by have := HK1.out; have := HJ12.out; have := HK3.out; omega⟩, ⟨by (with_reducible repeat (first | apply Kd.R_alloc | apply Kd.R_drewN | apply Kd.R_drew)); exact HO_6.out⟩, ⟨by (with_reducible repeat (first | apply Kd.R_alloc | apply Kd.R_drewN | apply Kd.R_drew)); exact HO_7.out⟩, ⟨by repeat (first | (with_reducible first | exact HB.out | apply below_alloc | apply pw_below_drewN | apply below_drew1) | exact HB.out)⟩⟩
                        · rw [if_neg c30] at H
                          exact absurd H (by simp)
                  · rw [if_neg c28] at H
                    exact absurd H (by simp)
          · rw [if_neg c11] at H
            exact absurd H (by simp)
        · rw [if_neg c10] at H
          have c10b0 : decide (x10_1 < (t211.length : Int)) = false := decide_eq_false c10
          clear c10
          by_cases c36 : x8_1 = (t208.length : Int)
          · rw [if_pos c36] at H
            have c36b0 : (x8_1 == (t208.length : Int)) = true := beq_iff_eq.mpr c36
            have c36b1 : (x8_1 != (t208.length : Int)) = false := bne_eq_false_iff_eq.mpr c36
            clear c36
            replace H := Option.bind_eq_some_iff.mp H
            obtain ⟨t214, A370, H⟩ := H
            replace H : (some t214) = some r := H
            have A37 := Aside0.mk A370
            clear A370
            obtain rfl := Option.some.inj H
            obtain ⟨Ao38, co38, eo38⟩ := Kd.R_slice HO_7.out
            subst eo38
            go_wp2_with (first | (go_at_call 14; (with_reducible refine (Go.Proofs.YtfbenlenihlpbaaDoor.Given.laws_refLives.calls  t214 _ A37.out).mono ?_); rintro e w39 ⟨rfl, hb⟩; have n0_ := Aside0.mk (Kd.R_below (by (with_reducible repeat (first | apply Kd.R_alloc | apply Kd.R_drewN | apply Kd.R_drew)); exact HO_6.out) hb); have n1_ := Aside0.mk (Kd.R_below (by (with_reducible repeat (first | apply Kd.R_alloc | apply Kd.R_drewN | apply Kd.R_drew)); exact HO_7.out) hb); have n2_ := Aside0.mk (below_step (by repeat (first | (with_reducible first | exact HB.out | apply below_alloc | apply pw_below_drewN | apply below_drew1) | exact HB.out)) hb); clear HO_6; clear HO_7; clear HB; have HO_6 := n0_; have HO_7 := n1_; have HB := n2_; clear n0_ n1_ n2_; (try clear hb); (try clear hb2); (try clear hk); (try clear hi)))
            go_ret
            exact ⟨by first | rfl | (simp [errW_none, errW_some] <;> rfl) | (simp [*, errW_none, errW_some] <;> rfl), by repeat (first | (with_reducible first | exact HB.out | apply below_alloc | apply pw_below_drewN | apply below_drew1) | exact HB.out)⟩
          · rw [if_neg c36] at H
            have c36b0 : (x8_1 == (t208.length : Int)) = false := beq_eq_false_iff_ne.mpr c36
            have c36b1 : (x8_1 != (t208.length : Int)) = true := bne_iff_ne.mpr c36
            obtain rfl := Option.some.inj H
            obtain ⟨Ao40, co40, eo40⟩ := Kd.R_slice HO_7.out
            subst eo40
            go_wp2
            go_ret
            exact ⟨by first | rfl | (simp [errW_none, errW_some] <;> rfl) | (simp [*, errW_none, errW_some] <;> rfl), by repeat (first | (with_reducible first | exact HB.out | apply below_alloc | apply pw_below_drewN | apply below_drew1) | exact HB.out)⟩

end Go.Proofs.YtfbenlenihlpbaaDoor.PSq
