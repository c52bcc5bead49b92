/- Contracts of functions that the text "Lv" uses: the call ends in what the plain Lean function says, where that says something. Written by a program of this session. No conditions. -/
import Derived.Test.YtjefbpfpobgmaaaPLvx0
import Derived.Test.YtjefbpfpobgmaaaPLvx10
import Derived.Test.YtjefbpfpobgmaaaLvB
import Derived.Test.YtjefbpfpobgmaaaFld
namespace Go.Proofs.Ytjefbpfpobgmaaa.PLv
open Go.RowKit Go.Proofs.YtjefbpfpobgmaaaW.PrintWords Go.Proofs.YtjefbpfpobgmaaaW.PrintLast Go.Proofs.YtjefbpfpobgmaaaW.PrintMore
attribute [local go_sem] Go.Proofs.Ytjefbpfpobgmaaa.Flt.run_store_float max2_int min2_int max_two min_two max_three min_three max_four min_four   -- for this text's walks alone
set_option linter.unusedVariables false
set_option linter.unusedSimpArgs false

/-! ### laws_refLinesLive: function 14 -/
def laws_refLinesLive.f (k : Nat)  : Option (Bool) := (Go.Proofs.Ytjefbpfpobgmaaa.LvB.impl_Hide.f k ([] : List (S34)) 2 3 false).bind fun t166 => ((laws_refLine.f k t166 2).bind fun bt169 => (if bt169.2.2.2.2.2.1 = true then ((laws_refLine.f k t166 3).bind fun bt176 => (if bt176.2.2.2.2.2.1 = true then ((laws_refLine.f k t166 4).bind fun bt183 => (some (!bt183.2.2.2.2.2.1))) else (some false))) else (some false)))
theorem laws_refLinesLive.mono : ∀ k, LeO (laws_refLinesLive.f k ) (laws_refLinesLive.f (k + 1) ) := by
  intro  k
  unfold laws_refLinesLive.f
  repeat' first
      | (with_reducible exact Go.Proofs.Ytjefbpfpobgmaaa.LvB.impl_Hide.mono _ _ _ _ _)
      | (with_reducible exact laws_refLine.mono _ _ _)
      | (with_reducible exact LeO.refl _)
      | (with_reducible exact LeO.none _)
      | (with_reducible refine LeO.ite ?_ ?_)
      | (with_reducible refine LeO.bind ?_ (fun _ => ?_))
      | exact Go.Proofs.Ytjefbpfpobgmaaa.LvB.impl_Hide.mono _ _ _ _ _
      | exact laws_refLine.mono _ _ _
      | exact LeO.none _
      | refine LeO.ite ?_ ?_
      | refine LeO.bind ?_ (fun _ => ?_)
attribute [local go_sem] Go.Proofs.Ytjefbpfpobgmaaa.Fld.run_field34_2 Go.Proofs.Ytjefbpfpobgmaaa.Fld.run_field34_3 Go.Proofs.Ytjefbpfpobgmaaa.Fld.run_field34_5
set_option maxHeartbeats 8000000 in
set_option maxRecDepth 100000 in
theorem laws_refLinesLive.calls (k : Nat)  (r : Bool) (w : World) (h : laws_refLinesLive.f k  = some r) :
    Calls Try.prog 14 #[] w fun e w' => e = .returned (.bool r) ∧ Below w.heap.size w w' := by
  have HB := Aside0.mk (Below.refl w.heap.size w)
  have H : ((Go.Proofs.Ytjefbpfpobgmaaa.LvB.impl_Hide.f k ([] : List (S34)) 2 3 false).bind fun t166 => ((laws_refLine.f k t166 2).bind fun bt169 => (if bt169.2.2.2.2.2.1 = true then ((laws_refLine.f k t166 3).bind fun bt176 => (if bt176.2.2.2.2.2.1 = true then ((laws_refLine.f k t166 4).bind fun bt183 => (some (!bt183.2.2.2.2.2.1))) else (some false))) else (some false)))) = some r := h
  clear h
  replace H := Option.bind_eq_some_iff.mp H
  obtain ⟨t166, A10, H⟩ := H
  replace H : ((laws_refLine.f k t166 2).bind fun bt169 => (if bt169.2.2.2.2.2.1 = true then ((laws_refLine.f k t166 3).bind fun bt176 => (if bt176.2.2.2.2.2.1 = true then ((laws_refLine.f k t166 4).bind fun bt183 => (some (!bt183.2.2.2.2.2.1))) else (some false))) else (some false))) = some r := H
  have A1 := Aside0.mk A10
  clear A10
  replace H := Option.bind_eq_some_iff.mp H
  obtain ⟨⟨t169, t170, t171, t172, t173, t174, t175⟩, A20, H⟩ := H
  replace H : (if t174 = true then ((laws_refLine.f k t166 3).bind fun bt176 => (if bt176.2.2.2.2.2.1 = true then ((laws_refLine.f k t166 4).bind fun bt183 => (some (!bt183.2.2.2.2.2.1))) else (some false))) else (some false)) = some r := H
  have A2 := Aside0.mk A20
  clear A20
  by_cases c3 : t174 = true
  · subst c3
    have H1 : ((laws_refLine.f k t166 3).bind fun bt176 => (if bt176.2.2.2.2.2.1 = true then ((laws_refLine.f k t166 4).bind fun bt183 => (some (!bt183.2.2.2.2.2.1))) else (some false))) = some r := by rw [if_pos rfl] at H; exact H
    clear H
    have H := H1
    clear H1
    replace H := Option.bind_eq_some_iff.mp H
    obtain ⟨⟨t176, t177, t178, t179, t180, t181, t182⟩, A40, H⟩ := H
    replace H : (if t181 = true then ((laws_refLine.f k t166 4).bind fun bt183 => (some (!bt183.2.2.2.2.2.1))) else (some false)) = some r := H
    have A4 := Aside0.mk A40
    clear A40
    by_cases c5 : t181 = true
    · subst c5
      have H1 : ((laws_refLine.f k t166 4).bind fun bt183 => (some (!bt183.2.2.2.2.2.1))) = some r := by rw [if_pos rfl] at H; exact H
      clear H
      have H := H1
      clear H1
      replace H := Option.bind_eq_some_iff.mp H
      obtain ⟨⟨t183, t184, t185, t186, t187, t188, t189⟩, A60, H⟩ := H
      replace H : (some (!t188)) = some r := H
      have A6 := Aside0.mk A60
      clear A60
      obtain rfl := Option.some.inj H
      go_enter Try.func14, Try.ntmps14
      go_wp2_with (first | ((with_reducible refine gate_callee (f := 26) rfl ?_); refine goesL_ (some 2) rfl rfl Try.func26 (by kernel_rfl) rfl #[.slice none 0 0, .int .i64 2, .int .i64 3, .bool false] rfl (by (try simp only [List.map_toArray, List.map_cons, List.map_nil]); first | done | rfl | (simp only [List.length_drop, List.length_take]; rfl)) ?_; (refine (Go.Proofs.Ytjefbpfpobgmaaa.LvB.impl_Hide.calls k _ _ ([] : List (S34)) 2 3 false t166 _ ?side1 ?side2 A1.out).mono ?_); (case side1 => exact Kd.C_nil _ _); (case side2 => exact Nat.le_refl _); rintro e w7 ⟨v167, rfl, ho0, hb⟩; refine ⟨_, rfl, ?_⟩; have n0_ := Aside0.mk (Kd.R_lower ho0 (below_size (by repeat (first | (with_reducible first | exact HB.out | apply below_alloc | apply pw_below_drewN | apply below_drew1) | exact HB.out)))); have n1_ := Aside0.mk (below_step (by repeat (first | (with_reducible first | exact HB.out | apply below_alloc | apply pw_below_drewN | apply below_drew1) | exact HB.out)) hb); clear HB; have HO168 := n0_; have HB := n1_; clear n0_ n1_; (try clear hb); (try clear hb2); (try clear hk); (try clear hi); (try clear ho0); obtain ⟨Ao8, co8, eo8⟩ := Kd.R_slice HO168.out; subst eo8) | ((with_reducible refine gate_callee (f := 13) rfl ?_); refine goesL_ (some 4) rfl rfl Try.func13 (by kernel_rfl) rfl #[.slice Ao8 t166.length co8, .int .i64 2] rfl (by (try simp only [List.map_toArray, List.map_cons, List.map_nil]); first | done | rfl | (simp only [List.length_drop, List.length_take]; rfl)) ?_; (with_reducible refine (laws_refLine.calls k _ _ t166 2 t169 t170 t171 t172 t173 true t175 _ ?side1 ?side2 A2.out).mono ?_); (case side1 => repeat (first | exact (Kd.R_reads' HO168.out).2.2 | (with_reducible refine Kd.C_alloc ?_ _) | (with_reducible refine Kd.C_drewN ?_ _) | (with_reducible refine Kd.C_drew ?_))); (case side2 => exact (Kd.R_reads' HO168.out).2.1); rintro e w9 ⟨rfl, hb⟩; refine ⟨_, rfl, ?_⟩; have n0_ := Aside0.mk (Kd.R_below (by (with_reducible repeat (first | apply Kd.R_alloc | apply Kd.R_drewN | apply Kd.R_drew)); exact HO168.out) hb); have n1_ := Aside0.mk (below_step (by repeat (first | (with_reducible first | exact HB.out | apply below_alloc | apply pw_below_drewN | apply below_drew1) | exact HB.out)) hb); clear HO168; clear HB; have HO168 := n0_; have HB := n1_; clear n0_ n1_; (try clear hb); (try clear hb2); (try clear hk); (try clear hi)) | (go_at_call 13; (with_reducible refine (laws_refLine.calls k _ _ t166 3 t176 t177 t178 t179 t180 true t182 _ ?side1 ?side2 A4.out).mono ?_); (case side1 => repeat (first | exact (Kd.R_reads' HO168.out).2.2 | (with_reducible refine Kd.C_alloc ?_ _) | (with_reducible refine Kd.C_drewN ?_ _) | (with_reducible refine Kd.C_drew ?_))); (case side2 => exact (Kd.R_reads' HO168.out).2.1); rintro e w10 ⟨rfl, hb⟩; have n0_ := Aside0.mk (Kd.R_below (by (with_reducible repeat (first | apply Kd.R_alloc | apply Kd.R_drewN | apply Kd.R_drew)); exact HO168.out) hb); have n1_ := Aside0.mk (below_step (by repeat (first | (with_reducible first | exact HB.out | apply below_alloc | apply pw_below_drewN | apply below_drew1) | exact HB.out)) hb); clear HO168; clear HB; have HO168 := n0_; have HB := n1_; clear n0_ n1_; (try clear hb); (try clear hb2); (try clear hk); (try clear hi)) | (go_at_call 13; (with_reducible refine (laws_refLine.calls k _ _ t166 4 t183 t184 t185 t186 t187 t188 t189 _ ?side1 ?side2 A6.out).mono ?_); (case side1 => repeat (first | exact (Kd.R_reads' HO168.out).2.2 | (with_reducible refine Kd.C_alloc ?_ _) | (with_reducible refine Kd.C_drewN ?_ _) | (with_reducible refine Kd.C_drew ?_))); (case side2 => exact (Kd.R_reads' HO168.out).2.1); rintro e w11 ⟨rfl, hb⟩; have n0_ := Aside0.mk (Kd.R_below (by (with_reducible repeat (first | apply Kd.R_alloc | apply Kd.R_drewN | apply Kd.R_drew)); exact HO168.out) hb); have n1_ := Aside0.mk (below_step (by repeat (first | (with_reducible first | exact HB.out | apply below_alloc | apply pw_below_drewN | apply below_drew1) | exact HB.out)) hb); clear HO168; clear HB; have HO168 := n0_; have HB := n1_; clear n0_ n1_; (try clear hb); (try clear hb2); (try clear hk); (try clear hi)))
      go_ret
      exact ⟨by first | rfl | (simp [errW_none, errW_some] <;> rfl) | (simp [*, errW_none, errW_some] <;> rfl), by repeat (first | (with_reducible first | exact HB.out | apply below_alloc | apply pw_below_drewN | apply below_drew1) | exact HB.out)⟩
    · replace c5 := Bool.eq_false_iff.mpr c5
      subst c5
      have H1 : (some false) = some r := by rw [if_neg (show ¬ (false = true) by decide)] at H; exact H
      clear H
      have H := H1
      clear H1
      obtain rfl := Option.some.inj H
      go_enter Try.func14, Try.ntmps14
      go_wp2_with (first | ((with_reducible refine gate_callee (f := 26) rfl ?_); refine goesL_ (some 2) rfl rfl Try.func26 (by kernel_rfl) rfl #[.slice none 0 0, .int .i64 2, .int .i64 3, .bool false] rfl (by (try simp only [List.map_toArray, List.map_cons, List.map_nil]); first | done | rfl | (simp only [List.length_drop, List.length_take]; rfl)) ?_; (refine (Go.Proofs.Ytjefbpfpobgmaaa.LvB.impl_Hide.calls k _ _ ([] : List (S34)) 2 3 false t166 _ ?side1 ?side2 A1.out).mono ?_); (case side1 => exact Kd.C_nil _ _); (case side2 => exact Nat.le_refl _); rintro e w12 ⟨v167, rfl, ho0, hb⟩; refine ⟨_, rfl, ?_⟩; have n0_ := Aside0.mk (Kd.R_lower ho0 (below_size (by repeat (first | (with_reducible first | exact HB.out | apply below_alloc | apply pw_below_drewN | apply below_drew1) | exact HB.out)))); have n1_ := Aside0.mk (below_step (by repeat (first | (with_reducible first | exact HB.out | apply below_alloc | apply pw_below_drewN | apply below_drew1) | exact HB.out)) hb); clear HB; have HO168 := n0_; have HB := n1_; clear n0_ n1_; (try clear hb); (try clear hb2); (try clear hk); (try clear hi); (try clear ho0); obtain ⟨Ao13, co13, eo13⟩ := Kd.R_slice HO168.out; subst eo13) | ((with_reducible refine gate_callee (f := 13) rfl ?_); refine goesL_ (some 4) rfl rfl Try.func13 (by kernel_rfl) rfl #[.slice Ao13 t166.length co13, .int .i64 2] rfl (by (try simp only [List.map_toArray, List.map_cons, List.map_nil]); first | done | rfl | (simp only [List.length_drop, List.length_take]; rfl)) ?_; (with_reducible refine (laws_refLine.calls k _ _ t166 2 t169 t170 t171 t172 t173 true t175 _ ?side1 ?side2 A2.out).mono ?_); (case side1 => repeat (first | exact (Kd.R_reads' HO168.out).2.2 | (with_reducible refine Kd.C_alloc ?_ _) | (with_reducible refine Kd.C_drewN ?_ _) | (with_reducible refine Kd.C_drew ?_))); (case side2 => exact (Kd.R_reads' HO168.out).2.1); rintro e w14 ⟨rfl, hb⟩; refine ⟨_, rfl, ?_⟩; have n0_ := Aside0.mk (Kd.R_below (by (with_reducible repeat (first | apply Kd.R_alloc | apply Kd.R_drewN | apply Kd.R_drew)); exact HO168.out) hb); have n1_ := Aside0.mk (below_step (by repeat (first | (with_reducible first | exact HB.out | apply below_alloc | apply pw_below_drewN | apply below_drew1) | exact HB.out)) hb); clear HO168; clear HB; have HO168 := n0_; have HB := n1_; clear n0_ n1_; (try clear hb); (try clear hb2); (try clear hk); (try clear hi)) | (go_at_call 13; (with_reducible refine (laws_refLine.calls k _ _ t166 3 t176 t177 t178 t179 t180 false t182 _ ?side1 ?side2 A4.out).mono ?_); (case side1 => repeat (first | exact (Kd.R_reads' HO168.out).2.2 | (with_reducible refine Kd.C_alloc ?_ _) | (with_reducible refine Kd.C_drewN ?_ _) | (with_reducible refine Kd.C_drew ?_))); (case side2 => exact (Kd.R_reads' HO168.out).2.1); rintro e w15 ⟨rfl, hb⟩; have n0_ := Aside0.mk (Kd.R_below (by (with_reducible repeat (first | apply Kd.R_alloc | apply Kd.R_drewN | apply Kd.R_drew)); exact HO168.out) hb); have n1_ := Aside0.mk (below_step (by repeat (first | (with_reducible first | exact HB.out | apply below_alloc | apply pw_below_drewN | apply below_drew1) | exact HB.out)) hb); clear HO168; clear HB; have HO168 := n0_; have HB := n1_; clear n0_ n1_; (try clear hb); (try clear hb2); (try clear hk); (try clear hi)))
      go_ret
      exact ⟨by first | rfl | (simp [errW_none, errW_some] <;> rfl) | (simp [*, errW_none, errW_some] <;> rfl), by repeat (first | (with_reducible first | exact HB.out | apply below_alloc | apply pw_below_drewN | apply below_drew1) | exact HB.out)⟩
  · replace c3 := Bool.eq_false_iff.mpr c3
    subst c3
    have H1 : (some false) = some r := by rw [if_neg (show ¬ (false = true) by decide)] at H; exact H
    clear H
    have H := H1
    clear H1
    obtain rfl := Option.some.inj H
    go_enter Try.func14, Try.ntmps14
    go_wp2_with (first | ((with_reducible refine gate_callee (f := 26) rfl ?_); refine goesL_ (some 2) rfl rfl Try.func26 (by kernel_rfl) rfl #[.slice none 0 0, .int .i64 2, .int .i64 3, .bool false] rfl (by (try simp only [List.map_toArray, List.map_cons, List.map_nil]); first | done | rfl | (simp only [List.length_drop, List.length_take]; rfl)) ?_; (refine (Go.Proofs.Ytjefbpfpobgmaaa.LvB.impl_Hide.calls k _ _ ([] : List (S34)) 2 3 false t166 _ ?side1 ?side2 A1.out).mono ?_); (case side1 => exact Kd.C_nil _ _); (case side2 => exact Nat.le_refl _); rintro e w16 ⟨v167, rfl, ho0, hb⟩; refine ⟨_, rfl, ?_⟩; have n0_ := Aside0.mk (Kd.R_lower ho0 (below_size (by repeat (first | (with_reducible first | exact HB.out | apply below_alloc | apply pw_below_drewN | apply below_drew1) | exact HB.out)))); have n1_ := Aside0.mk (below_step (by repeat (first | (with_reducible first | exact HB.out | apply below_alloc | apply pw_below_drewN | apply below_drew1) | exact HB.out)) hb); clear HB; have HO168 := n0_; have HB := n1_; clear n0_ n1_; (try clear hb); (try clear hb2); (try clear hk); (try clear hi); (try clear ho0); obtain ⟨Ao17, co17, eo17⟩ := Kd.R_slice HO168.out; subst eo17) | ((with_reducible refine gate_callee (f := 13) rfl ?_); refine goesL_ (some 4) rfl rfl Try.func13 (by kernel_rfl) rfl #[.slice Ao17 t166.length co17, .int .i64 2] rfl (by (try simp only [List.map_toArray, List.map_cons, List.map_nil]); first | done | rfl | (simp only [List.length_drop, List.length_take]; rfl)) ?_; (with_reducible refine (laws_refLine.calls k _ _ t166 2 t169 t170 t171 t172 t173 false t175 _ ?side1 ?side2 A2.out).mono ?_); (case side1 => repeat (first | exact (Kd.R_reads' HO168.out).2.2 | (with_reducible refine Kd.C_alloc ?_ _) | (with_reducible refine Kd.C_drewN ?_ _) | (with_reducible refine Kd.C_drew ?_))); (case side2 => exact (Kd.R_reads' HO168.out).2.1); rintro e w18 ⟨rfl, hb⟩; refine ⟨_, rfl, ?_⟩; have n0_ := Aside0.mk (Kd.R_below (by (with_reducible repeat (first | apply Kd.R_alloc | apply Kd.R_drewN | apply Kd.R_drew)); exact HO168.out) hb); have n1_ := Aside0.mk (below_step (by repeat (first | (with_reducible first | exact HB.out | apply below_alloc | apply pw_below_drewN | apply below_drew1) | exact HB.out)) hb); clear HO168; clear HB; have HO168 := n0_; have HB := n1_; clear n0_ n1_; (try clear hb); (try clear hb2); (try clear hk); (try clear hi)))
    go_ret
    exact ⟨by first | rfl | (simp [errW_none, errW_some] <;> rfl) | (simp [*, errW_none, errW_some] <;> rfl), by repeat (first | (with_reducible first | exact HB.out | apply below_alloc | apply pw_below_drewN | apply below_drew1) | exact HB.out)⟩

end Go.Proofs.Ytjefbpfpobgmaaa.PLv
