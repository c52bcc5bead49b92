/- Contracts of functions that the text "Sq" uses: the call ends in what the plain Lean function says, where that says something. Written by a program of this session. No conditions. -/
import Derived.Test.YtfbenlenihlpbaaDoorPSqx0
import Derived.Test.YtfbenlenihlpbaaDoorPSqx3
namespace Go.Proofs.YtfbenlenihlpbaaDoor.PSq
open Go.RowKit Go.Proofs.YtfbenlenihlpbaaDoorW.PrintWords Go.Proofs.YtfbenlenihlpbaaDoorW.PrintLast Go.Proofs.YtfbenlenihlpbaaDoorW.PrintMore
attribute [local go_sem] max2_int min2_int max_two min_two max_three min_three max_four min_four   -- for this text's walks alone
set_option linter.unusedVariables false
set_option linter.unusedSimpArgs false

/-! ### excelize_DoorSquash: function 42 -/
def excelize_DoorSquash.l0 : Nat → Int → List (List Int) → List Int → Int → Int → Option (List ByteArray)
  | 0, _, _, _, _, _ => none
  | k + 1, x0, x5, x8, x9, x10 => if x10 < x9 then (if 0 ≤ x10 then (if x10 < (x8.length : Int) then (if x5.length < 5864062014805 then (excelize_DoorSquash.l0 k x0 (x5 ++ [(([x0, rd x8 x10] : List Int))]) x8 x9 (wrap64 (x10 + 1))) else (none)) else (none)) else (none)) else ((excelize_squashSqref.f k x5).bind fun t192 => (some t192))
def excelize_DoorSquash.f (k : Nat) (a0 : Int) (l1 : List Int) : Option (List ByteArray) := excelize_DoorSquash.l0 k a0 ([] : List (List Int)) l1 (l1.length : Int) 0
theorem excelize_DoorSquash.mono_l : ∀ k, (∀ y0 y1 y2 y3 y4, LeO (excelize_DoorSquash.l0 k y0 y1 y2 y3 y4) (excelize_DoorSquash.l0 (k + 1) y0 y1 y2 y3 y4))
  | 0 => fun _ _ _ _ _ r h => by simp [excelize_DoorSquash.l0] at h
  | k + 1 => by
    have ih0 := excelize_DoorSquash.mono_l k
    · intro y0 y1 y2 y3 y4
      unfold excelize_DoorSquash.l0
      repeat' first
      | (with_reducible exact ih0 _ _ _ _ _)
      | (with_reducible exact excelize_squashSqref.mono _ _)
      | (with_reducible exact LeO.refl _)
      | (with_reducible exact LeO.none _)
      | (with_reducible refine LeO.ite ?_ ?_)
      | (with_reducible refine LeO.bind ?_ (fun _ => ?_))
      | exact ih0 _ _ _ _ _
      | exact excelize_squashSqref.mono _ _
      | exact LeO.none _
      | refine LeO.ite ?_ ?_
      | refine LeO.bind ?_ (fun _ => ?_)
theorem excelize_DoorSquash.mono : ∀ a0 a1 k, LeO (excelize_DoorSquash.f k a0 a1) (excelize_DoorSquash.f (k + 1) a0 a1) := by
  intro a0 a1 k
  have ih0 := excelize_DoorSquash.mono_l k
  unfold excelize_DoorSquash.f
  repeat' first
      | (with_reducible exact ih0 _ _ _ _ _)
      | (with_reducible exact excelize_squashSqref.mono _ _)
      | (with_reducible exact LeO.refl _)
      | (with_reducible exact LeO.none _)
      | (with_reducible refine LeO.ite ?_ ?_)
      | (with_reducible refine LeO.bind ?_ (fun _ => ?_))
      | exact ih0 _ _ _ _ _
      | exact excelize_squashSqref.mono _ _
      | exact LeO.none _
      | refine LeO.ite ?_ ?_
      | refine LeO.bind ?_ (fun _ => ?_)
set_option maxHeartbeats 8000000 in
set_option maxRecDepth 100000 in
theorem excelize_DoorSquash.calls (k : Nat) (a0 : Int) (A1 : Option Addr) (c1 : Nat) (l1 : List Int) (r : List ByteArray) (w : World) (hr1 : Kd.C (Kd.int .i64) w A1 l1.length l1) (hc1 : l1.length ≤ c1) (h : excelize_DoorSquash.f k a0 l1 = some r) :
    Calls Tryd.prog 42 #[.int .i64 a0, .slice A1 l1.length c1] w fun e w' => ∃ v0_ : Value, e = .returned (v0_) ∧ Kd.R Kd.string 9 w' w.heap.size (fun _ => True) v0_ r ∧ Below w.heap.size w w' := by
  have HR1 := Aside0.mk hr1
  have HC1 := Aside0.mk hc1
  clear hr1 hc1
  have HB := Aside0.mk (Below.refl w.heap.size w)
  have H : (excelize_DoorSquash.l0 k a0 ([] : List (List Int)) l1 (l1.length : Int) 0) = some r := h
  clear h
  have H' := Aside0.mk H
  clear H
  go_enter Tryd.func42, Tryd.ntmps42
  go_wp2
  go_loopg [5, 10] k (fun kq v5 v10 w' => ∃ (x5_1 : List (List Int)) (x10_1 : Int), v10 = .int .i64 x10_1 ∧ Aside0 (excelize_DoorSquash.l0 kq a0 x5_1 l1 (l1.length : Int) x10_1 = some r) ∧ Aside0 (kq ≤ k) ∧ Aside0 (Kd.S (Full.exact 3 (Kd.int .i64)) 26 w' w.heap.size (fun _ => True) v5 x5_1) ∧ Aside0 (Below w.heap.size w w'))
  case atStart => exact ⟨(([] : List (List Int))), (0), (by first | rfl | (simp; done) | (simp [*]; done)), H', ⟨Nat.le_refl _⟩, ⟨by first | exact Kd.S_nil _ _ _ _ _ | exact Kd.N_nil _ _ _ _ _ | exact Kd.V_nil _ _ _ _ _ | exact Kd.Q_nil _ _ _ _ _ | exact Kd.R_nil _ _ _ _ _⟩, ⟨by repeat (first | (with_reducible first | exact HB.out | apply below_alloc | apply pw_below_drewN | apply below_drew1) | exact HB.out)⟩⟩
  case round =>
    clear H'
    try clear c1
    try clear p2
    obtain ⟨x5_1, x10_1, rfl, HA, HK1, HO_5, HB⟩ := hrel
    cases gk with
    | zero => exact absurd HA.out (by simp [excelize_DoorSquash.l0])
    | succ k1 =>
      have H := HA.out
      clear HA
      simp only [excelize_DoorSquash.l0] at H
      by_cases c3 : x10_1 < (l1.length : Int)
      · rw [if_pos c3] at H
        have c3b0 : decide (x10_1 < (l1.length : Int)) = true := decide_eq_true c3
        clear c3
        by_cases c4 : 0 ≤ x10_1
        · rw [if_pos c4] at H
          have c4b0 : decide (0 ≤ x10_1) = true := decide_eq_true c4
          clear c4
          by_cases c5 : x10_1 < (l1.length : Int)
          · rw [if_pos c5] at H
            have c5b0 : decide (x10_1 < (l1.length : Int)) = true := decide_eq_true c5
            clear c5
            obtain ⟨y186, hy186⟩ : ∃ y_ : List Int, y_ = (([a0, rd l1 x10_1] : List Int)) := ⟨_, rfl⟩
            replace H : (if x5_1.length < 5864062014805 then (excelize_DoorSquash.l0 k1 a0 (x5_1 ++ [y186]) l1 (l1.length : Int) (wrap64 (x10_1 + 1))) else (none)) = some r := by first | (rw [hy186]; with_reducible exact H) | (have H2_ := (Option.bind_some _ _).symm.trans H; rw [hy186]; with_reducible exact H2_) | (have H2_ := (Option.bind_some _ _).symm.trans H; with_reducible exact H2_) | with_reducible exact H | (rw [hy186]; exact H) | exact H
            have Ny186 := Aside0.mk hy186
            clear hy186
            by_cases c6 : x5_1.length < 5864062014805
            · rw [if_pos c6] at H
              have LMc6 := Aside0.mk c6
              clear c6
              obtain ⟨y189, hy189⟩ : ∃ y_ : List (List Int), y_ = (x5_1 ++ [y186]) := ⟨_, rfl⟩
              replace H : (excelize_DoorSquash.l0 k1 a0 y189 l1 (l1.length : Int) (wrap64 (x10_1 + 1))) = some r := by first | (rw [hy189]; with_reducible exact H) | (have H2_ := (Option.bind_some _ _).symm.trans H; rw [hy189]; with_reducible exact H2_) | (have H2_ := (Option.bind_some _ _).symm.trans H; with_reducible exact H2_) | with_reducible exact H | (rw [hy189]; exact H) | exact H
              have Ny189 := Aside0.mk hy189
              clear hy189
              have H' := Aside0.mk H
              clear H
              have p185 : 0 ≤ (x10_1 : Int) := of_decide_eq_true (by first | (with_reducible assumption) | assumption)
              have q185 : x10_1 < (l1.length : Int) := of_decide_eq_true (by first | (with_reducible assumption) | assumption)
              obtain ⟨ad185, e185, hx185_0⟩ := Kd.at_int HR1.out x10_1 p185 q185
              cases e185
              replace hx185_0 := (HB.out.cell (World.block_lt_of_cell? w _ hx185_0)).trans hx185_0
              replace p185 := eq_true p185
              replace q185 := eq_true q185
              go_wp2_with (first | ((with_reducible refine gate_dst (N := 17) rfl ?_); refine Full.R_lit_full (Kd.int .i64) _ 3 ?hg (N := 17) ?hd (xs := ([a0, rd l1 x10_1] : List Int)) (inner := [.int .i64 a0, .int .i64 (rd l1 x10_1)]) (ok := fun _ => True) (okp := fun _ => True) ?hr ?hp (fun _ hk => hk) trivial (Below.refl _ _) (Nat.le_refl _) (by simp) ?_; (case hd => rfl); (case hg => rfl); (case hr => first | (go_simp; done) | (go_simp; rfl)); (case hp => exact (Reps.one (show Kd.M (Kd.int .i64) _ _ _ a0 [.int .i64 a0] from rfl) (Reps.one (show Kd.M (Kd.int .i64) _ _ _ (rd l1 x10_1) [.int .i64 (rd l1 x10_1)] from rfl) (Reps.none _ _)))); intro v187 w7 ho8 hb hg_ hnew_ hx_; clear hg_ hnew_; have X187 := Aside0.mk hx_; clear hx_; (first | rw [← Ny186.out] at ho8 | (simp only [Int.reduceToNat] at ho8; rw [← Ny186.out] at ho8)); have n0_ := Aside0.mk (Kd.S_elder' (by (with_reducible repeat (first | apply Kd.S_alloc | apply Kd.S_drewN | apply Kd.S_drew)); exact HO_5.out) (Kd.R_base ho8) hb); have n1_ := Aside0.mk (Kd.R_lower ho8 (below_size (by repeat (first | (with_reducible first | exact HB.out | apply below_alloc | apply pw_below_drewN | apply below_drew1) | exact HB.out)))); have n2_ := Aside0.mk (below_step (by repeat (first | (with_reducible first | exact HB.out | apply below_alloc | apply pw_below_drewN | apply below_drew1) | exact HB.out)) hb); clear HO_5; clear HB; have HO_5 := n0_; have HO188 := n1_; have HB := n2_; clear n0_ n1_ n2_; clear hb ho8; obtain ⟨Ao10, co10, eo10⟩ := Kd.R_slice HO188.out; subst eo10) | ((with_reducible refine gate_builtin (b := .append) (xs := #[.tmp 14, .tmp 18]) rfl ?_); at_builtin; refine Kd.S_append (Full.exact 3 (Kd.int .i64)) (w0 := w) w.heap.size rfl (.tmp 14) (.tmp 18) 91 26 (.slice none 0 0) 24 rfl Tryd.underlying91 info26 rfl (by decide) (by omega) u5 x5_1 y186 [.slice Ao10 y186.length co10] (fun _ => True) (fun k_ => some k_ = (.slice Ao10 y186.length co10 : Value).ownBlock) rfl rfl ?aP (fun k_ hk_ => ((Kd.R_mono (ok' := fun k_ => ((fun _ => True)) k_ ∧ some k_ ≠ (u5 : Value).ownBlock) (Kd.R_apart' (HO188.out) (Kd.S_typed HO_5.out) (by decide)) (fun k_ hk => ⟨trivial, hk.2⟩))).1 k_ hk_.symm) ?aF ?aO ?aB ?aS ?aL ?_; (case aP => exact Full.M_exact (Kd.R_mono (Kd.R_tight rfl (Kd.R_mono (ok' := fun k_ => ((fun _ => True)) k_ ∧ some k_ ≠ (u5 : Value).ownBlock) (Kd.R_apart' (HO188.out) (Kd.S_typed HO_5.out) (by decide)) (fun k_ hk => ⟨trivial, hk.2⟩))) (fun _ h_ => h_)) (by have hx_ := X187.out; rw [← Ny186.out] at hx_; exact hx_)); (case aB => exact (by repeat (first | (with_reducible first | exact HB.out | apply below_alloc | apply pw_below_drewN | apply below_drew1) | exact HB.out))); (case aF => exact (fun _ _ => trivial)); (case aO => exact (by (with_reducible repeat (first | apply Kd.S_alloc | apply Kd.S_drewN | apply Kd.S_drew)); exact Kd.S_mono HO_5.out (fun k_ hk => ⟨trivial, fun e_ => hk.2 e_⟩))); (case aS => exact (below_size (by repeat (first | (with_reducible first | exact HB.out | apply below_alloc | apply pw_below_drewN | apply below_drew1) | exact HB.out)))); (case aL => have := LMc6.out; omega); intro v190 w9 ho hb hg hat; rw [← Ny189.out] at ho; have n0_ := Aside0.mk (hb); have n1_ := Aside0.mk (ho); clear HB; clear HO_5; clear HO188; have HB := n0_; have HO191 := n1_; clear n0_ n1_; clear ho hb hg hat))
              go_roundg k1
              case measure => have := HK1.out; omega
              case rel => exact ⟨(y189), (wrap64 (x10_1 + 1)), (by first | rfl | (simp; done) | (simp [*]; done)), H', ⟨by have := HK1.out; omega⟩, ⟨by (with_reducible repeat (first | apply Kd.S_alloc | apply Kd.S_drewN | apply Kd.S_drew)); exact HO191.out⟩, ⟨by repeat (first | (with_reducible first | exact HB.out | apply below_alloc | apply pw_below_drewN | apply below_drew1) | exact HB.out)⟩⟩
            · rw [if_neg c6] at H
              exact absurd H (by simp)
          · rw [if_neg c5] at H
            exact absurd H (by simp)
        · rw [if_neg c4] at H
          exact absurd H (by simp)
      · rw [if_neg c3] at H
        have c3b0 : decide (x10_1 < (l1.length : Int)) = false := decide_eq_false c3
        clear c3
        replace H := Option.bind_eq_some_iff.mp H
        obtain ⟨t192, A110, H⟩ := H
        replace H : (some t192) = some r := H
        have A11 := Aside0.mk A110
        clear A110
        obtain rfl := Option.some.inj H
        obtain ⟨Ao12, co12, eo12⟩ := Kd.S_slice HO_5.out
        subst eo12
        go_wp2_with (first | ((with_reducible refine gate_callee (f := 54) rfl ?_); refine goesL_ (some 22) rfl rfl Tryd.func54 (by kernel_rfl) rfl #[.slice Ao12 x5_1.length co12] rfl (by (try simp only [List.map_toArray, List.map_cons, List.map_nil]); first | done | rfl | (simp only [List.length_drop, List.length_take]; rfl)) ?_; (with_reducible refine (excelize_squashSqref.calls k1 _ _ x5_1 t192 _ ?side1 ?side2 A11.out).mono ?_); (case side1 => repeat (first | exact (Kd.S_reads' HO_5.out).2.2 | (with_reducible refine Kd.C_alloc ?_ _) | (with_reducible refine Kd.C_drewN ?_ _) | (with_reducible refine Kd.C_drew ?_))); (case side2 => exact (Kd.S_reads' HO_5.out).2.1); rintro e w13 ⟨v193, rfl, ho0, hb⟩; refine ⟨_, rfl, ?_⟩; have n0_ := Aside0.mk (Kd.S_below (by (with_reducible repeat (first | apply Kd.S_alloc | apply Kd.S_drewN | apply Kd.S_drew)); exact HO_5.out) hb); have n1_ := Aside0.mk (Kd.R_lower ho0 (below_size (by repeat (first | (with_reducible first | exact HB.out | apply below_alloc | apply pw_below_drewN | apply below_drew1) | exact HB.out)))); have n2_ := Aside0.mk (below_step (by repeat (first | (with_reducible first | exact HB.out | apply below_alloc | apply pw_below_drewN | apply below_drew1) | exact HB.out)) hb); clear HO_5; clear HB; have HO_5 := n0_; have HO194 := n1_; have HB := n2_; clear n0_ n1_ n2_; (try clear hb); (try clear hb2); (try clear hk); (try clear hi); (try clear ho0)))
        go_ret
        exact ⟨_, by first | rfl | (simp [errW_none, errW_some] <;> rfl) | (simp [*, errW_none, errW_some] <;> rfl), by (with_reducible repeat (first | apply Kd.R_alloc | apply Kd.R_drewN | apply Kd.R_drew)); exact HO194.out, by repeat (first | (with_reducible first | exact HB.out | apply below_alloc | apply pw_below_drewN | apply below_drew1) | exact HB.out)⟩

/-! ### impl_Squash: function 23 -/
def impl_Squash.f (k : Nat) (a0 : Int) (l1 : List Int) : Option (List ByteArray) := (excelize_DoorSquash.f k a0 l1).bind fun t195 => (some t195)
theorem impl_Squash.mono : ∀ a0 a1 k, LeO (impl_Squash.f k a0 a1) (impl_Squash.f (k + 1) a0 a1) := by
  intro a0 a1 k
  unfold impl_Squash.f
  repeat' first
      | (with_reducible exact excelize_DoorSquash.mono _ _ _)
      | (with_reducible exact LeO.refl _)
      | (with_reducible exact LeO.none _)
      | (with_reducible refine LeO.ite ?_ ?_)
      | (with_reducible refine LeO.bind ?_ (fun _ => ?_))
      | exact excelize_DoorSquash.mono _ _ _
      | exact LeO.none _
      | refine LeO.ite ?_ ?_
      | refine LeO.bind ?_ (fun _ => ?_)
set_option maxHeartbeats 8000000 in
set_option maxRecDepth 100000 in
theorem impl_Squash.calls (k : Nat) (a0 : Int) (A1 : Option Addr) (c1 : Nat) (l1 : List Int) (r : List ByteArray) (w : World) (hr1 : Kd.C (Kd.int .i64) w A1 l1.length l1) (hc1 : l1.length ≤ c1) (h : impl_Squash.f k a0 l1 = some r) :
    Calls Tryd.prog 23 #[.int .i64 a0, .slice A1 l1.length c1] w fun e w' => ∃ v0_ : Value, e = .returned (v0_) ∧ Kd.R Kd.string 9 w' w.heap.size (fun _ => True) v0_ r ∧ Below w.heap.size w w' := by
  have HR1 := Aside0.mk hr1
  have HC1 := Aside0.mk hc1
  clear hr1 hc1
  have HB := Aside0.mk (Below.refl w.heap.size w)
  have H : ((excelize_DoorSquash.f k a0 l1).bind fun t195 => (some t195)) = some r := h
  clear h
  replace H := Option.bind_eq_some_iff.mp H
  obtain ⟨t195, A30, H⟩ := H
  replace H : (some t195) = some r := H
  have A3 := Aside0.mk A30
  clear A30
  obtain rfl := Option.some.inj H
  go_enter Tryd.func23, Tryd.ntmps23
  go_wp2_with (first | ((with_reducible refine gate_callee (f := 42) rfl ?_); refine goesL_ (some 7) rfl rfl Tryd.func42 (by kernel_rfl) rfl #[.int .i64 a0, .slice A1 l1.length c1] rfl (by (try simp only [List.map_toArray, List.map_cons, List.map_nil]); first | done | rfl | (simp only [List.length_drop, List.length_take]; rfl)) ?_; (with_reducible refine (excelize_DoorSquash.calls k a0 _ _ l1 t195 _ ?side1 ?side2 A3.out).mono ?_); (case side1 => repeat (first | exact HR1.out | (with_reducible refine Kd.C_alloc ?_ _) | (with_reducible refine Kd.C_drewN ?_ _) | (with_reducible refine Kd.C_drew ?_))); (case side2 => exact HC1.out); rintro e w4 ⟨v196, rfl, ho0, hb⟩; refine ⟨_, rfl, ?_⟩; have n0_ := Aside0.mk (Kd.R_lower ho0 (below_size (by repeat (first | (with_reducible first | exact HB.out | apply below_alloc | apply pw_below_drewN | apply below_drew1) | exact HB.out)))); have n1_ := Aside0.mk (below_step (by repeat (first | (with_reducible first | exact HB.out | apply below_alloc | apply pw_below_drewN | apply below_drew1) | exact HB.out)) hb); clear HB; have HO197 := n0_; have HB := n1_; clear n0_ n1_; (try clear hb); (try clear hb2); (try clear hk); (try clear hi); (try clear ho0)))
  go_ret
  exact ⟨_, by first | rfl | (simp [errW_none, errW_some] <;> rfl) | (simp [*, errW_none, errW_some] <;> rfl), by (with_reducible repeat (first | apply Kd.R_alloc | apply Kd.R_drewN | apply Kd.R_drew)); exact HO197.out, by repeat (first | (with_reducible first | exact HB.out | apply below_alloc | apply pw_below_drewN | apply below_drew1) | exact HB.out)⟩

/-! ### spec_GridRead: function 24 -/
mutual
def spec_GridRead.l0 : Nat → ByteArray → List (S22) → Int → Int → Option ((List (S22)) × Bool)
  | 0, _, _, _, _ => none
  | k + 1, x0, x4, x5, x6 => if x6 ≤ (x0.size : Int) then (if x6 < (x0.size : Int) then (if 0 ≤ x6 then (spec_GridRead.j1 k x0 x4 x5 x6 ((bt x0 x6) != 32)) else (none)) else (spec_GridRead.j1 k x0 x4 x5 x6 false)) else (some (x4, true))
def spec_GridRead.j1 : Nat → ByteArray → List (S22) → Int → Int → Bool → Option ((List (S22)) × Bool)
  | 0, _, _, _, _, _ => none
  | k + 1, x0, x4, x5, x6, x24 => if x24 = true then (spec_GridRead.l0 k x0 x4 x5 (wrap64 (x6 + 1))) else (if x6 > x5 then (if 0 ≤ x5 then (if x5 ≤ x6 then (if x6 ≤ (x0.size : Int) then ((Go.Proofs.YtfbenlenihlpbaaDoor.PRo.spec_gridReadOne.f k (x0.extract (x5 : Int).toNat (x6 : Int).toNat)).bind fun bt198 => (if bt198.2.2.2.2 = true then (if x4.length < 4398046511104 then (spec_GridRead.l0 k x0 (x4 ++ [(⟨bt198.1, bt198.2.1, bt198.2.2.1, bt198.2.2.2.1⟩ : S22)]) (wrap64 (x6 + 1)) (wrap64 (x6 + 1))) else (none)) else (some (([] : List (S22)), false)))) else (none)) else (none)) else (none)) else (spec_GridRead.l0 k x0 x4 (wrap64 (x6 + 1)) (wrap64 (x6 + 1))))
end
def spec_GridRead.f (k : Nat) (a0 : ByteArray) : Option ((List (S22)) × Bool) := spec_GridRead.l0 k a0 ([] : List (S22)) 0 0
theorem spec_GridRead.mono_l : ∀ k, (∀ y0 y1 y2 y3, LeO (spec_GridRead.l0 k y0 y1 y2 y3) (spec_GridRead.l0 (k + 1) y0 y1 y2 y3)) ∧ (∀ y0 y1 y2 y3 y4, LeO (spec_GridRead.j1 k y0 y1 y2 y3 y4) (spec_GridRead.j1 (k + 1) y0 y1 y2 y3 y4))
  | 0 => ⟨fun _ _ _ _ r h => by simp [spec_GridRead.l0] at h, fun _ _ _ _ _ r h => by simp [spec_GridRead.j1] at h⟩
  | k + 1 => by
    obtain ⟨ih0, ih1⟩ := spec_GridRead.mono_l k
    refine ⟨?_, ?_⟩
    · intro y0 y1 y2 y3
      unfold spec_GridRead.l0
      repeat' first
      | (with_reducible exact ih0 _ _ _ _)
      | (with_reducible exact ih1 _ _ _ _ _)
      | (with_reducible exact Go.Proofs.YtfbenlenihlpbaaDoor.PRo.spec_gridReadOne.mono _ _)
      | (with_reducible exact LeO.refl _)
      | (with_reducible exact LeO.none _)
      | (with_reducible refine LeO.ite ?_ ?_)
      | (with_reducible refine LeO.bind ?_ (fun _ => ?_))
      | exact ih0 _ _ _ _
      | exact ih1 _ _ _ _ _
      | exact Go.Proofs.YtfbenlenihlpbaaDoor.PRo.spec_gridReadOne.mono _ _
      | exact LeO.none _
      | refine LeO.ite ?_ ?_
      | refine LeO.bind ?_ (fun _ => ?_)
    · intro y0 y1 y2 y3 y4
      unfold spec_GridRead.j1
      repeat' first
      | (with_reducible exact ih0 _ _ _ _)
      | (with_reducible exact ih1 _ _ _ _ _)
      | (with_reducible exact Go.Proofs.YtfbenlenihlpbaaDoor.PRo.spec_gridReadOne.mono _ _)
      | (with_reducible exact LeO.refl _)
      | (with_reducible exact LeO.none _)
      | (with_reducible refine LeO.ite ?_ ?_)
      | (with_reducible refine LeO.bind ?_ (fun _ => ?_))
      | exact ih0 _ _ _ _
      | exact ih1 _ _ _ _ _
      | exact Go.Proofs.YtfbenlenihlpbaaDoor.PRo.spec_gridReadOne.mono _ _
      | exact LeO.none _
      | refine LeO.ite ?_ ?_
      | refine LeO.bind ?_ (fun _ => ?_)
theorem spec_GridRead.mono : ∀ a0 k, LeO (spec_GridRead.f k a0) (spec_GridRead.f (k + 1) a0) := by
  intro a0 k
  obtain ⟨ih0, ih1⟩ := spec_GridRead.mono_l k
  unfold spec_GridRead.f
  repeat' first
      | (with_reducible exact ih0 _ _ _ _)
      | (with_reducible exact ih1 _ _ _ _ _)
      | (with_reducible exact Go.Proofs.YtfbenlenihlpbaaDoor.PRo.spec_gridReadOne.mono _ _)
      | (with_reducible exact LeO.refl _)
      | (with_reducible exact LeO.none _)
      | (with_reducible refine LeO.ite ?_ ?_)
      | (with_reducible refine LeO.bind ?_ (fun _ => ?_))
      | exact ih0 _ _ _ _
      | exact ih1 _ _ _ _ _
      | exact Go.Proofs.YtfbenlenihlpbaaDoor.PRo.spec_gridReadOne.mono _ _
      | exact LeO.none _
      | refine LeO.ite ?_ ?_
      | refine LeO.bind ?_ (fun _ => ?_)
set_option maxHeartbeats 8000000 in
set_option maxRecDepth 100000 in
theorem spec_GridRead.calls (k : Nat) (a0 : ByteArray) (r1 : List (S22)) (r2 : Bool) (w : World) (h : spec_GridRead.f k a0 = some (r1, r2)) :
    Calls Tryd.prog 24 #[.string a0] w fun e w' => ∃ v0_ : Value, e = .returned (.tuple #[v0_, .bool r2]) ∧ Kd.R k22 22 w' w.heap.size (fun _ => True) v0_ r1 ∧ Below w.heap.size w w' := by
  have hu22 := Tryd.underlying22
  have HB := Aside0.mk (Below.refl w.heap.size w)
  have H : (spec_GridRead.l0 k a0 ([] : List (S22)) 0 0) = some (r1, r2) := h
  clear h
  have H' := Aside0.mk H
  clear H
  go_enter Tryd.func24, Tryd.ntmps24
  go_wp2
  go_loopg [4, 5, 6] k (fun kq v4 v5 v6 w' => ∃ (x4_1 : List (S22)) (x5_1 : Int) (x6_1 : Int), v5 = .int .i64 x5_1 ∧ v6 = .int .i64 x6_1 ∧ Aside0 (spec_GridRead.l0 kq a0 x4_1 x5_1 x6_1 = some (r1, r2)) ∧ Aside0 (kq ≤ k) ∧ Aside0 (Kd.R k22 22 w' w.heap.size (fun _ => True) v4 x4_1) ∧ Aside0 (Below w.heap.size w w'))
  case atStart => exact ⟨(([] : List (S22))), (0), (0), (by first | rfl | (simp; done) | (simp [*]; done)), (by first | rfl | (simp; done) | (simp [*]; done)), H', ⟨Nat.le_refl _⟩, ⟨by first | exact Kd.R_nil _ _ _ _ _ | exact Kd.N_nil _ _ _ _ _ | exact Kd.V_nil _ _ _ _ _ | exact Kd.Q_nil _ _ _ _ _ | exact Kd.S_nil _ _ _ _ _⟩, ⟨by repeat (first | (with_reducible first | exact HB.out | apply below_alloc | apply pw_below_drewN | apply below_drew1) | exact HB.out)⟩⟩
  case round =>
    clear H'
    obtain ⟨x4_1, x5_1, x6_1, rfl, rfl, HA, HK1, HO_4, HB⟩ := hrel
    cases gk with
    | zero => exact absurd HA.out (by simp [spec_GridRead.l0])
    | succ k1 =>
      have H := HA.out
      clear HA
      simp only [spec_GridRead.l0] at H
      by_cases c2 : x6_1 ≤ (a0.size : Int)
      · rw [if_pos c2] at H
        have c2b0 : decide (x6_1 ≤ (a0.size : Int)) = true := decide_eq_true c2
        clear c2
        have HC3 := Aside0.mk H
        clear H
        go_upto_region 6 with (fail)
        go_cut [24] (fun v24 wc => ∃ (kq : Nat) (x24_2 : Bool), v24 = .bool x24_2 ∧ Aside0 (spec_GridRead.j1 kq a0 x4_1 x5_1 x6_1 x24_2 = some (r1, r2)) ∧ Aside0 (kq ≤ k1) ∧ Aside0 (Kd.R k22 22 wc w.heap.size (fun _ => True) u4 x4_1) ∧ Aside0 (Below w.heap.size w wc))
        case first =>
          have H := HC3.out
          clear HC3
          by_cases c4 : x6_1 < (a0.size : Int)
          · rw [if_pos c4] at H
            have c4b0 : decide (x6_1 < (a0.size : Int)) = true := decide_eq_true c4
            clear c4
            (first | rw [c4b0] | (simp only [i64_w, i32_w]; rw [c4b0]) | skip)
            by_cases c5 : 0 ≤ x6_1
            · rw [if_pos c5] at H
              have c5b0 : decide (0 ≤ x6_1) = true := decide_eq_true c5
              clear c5
              have H' := Aside0.mk H
              clear H
              have p6 : 0 ≤ (x6_1 : Int) := of_decide_eq_true (by first | (with_reducible assumption) | assumption)
              have q6 : x6_1 < (a0.size : Int) := of_decide_eq_true (by first | (with_reducible assumption) | assumption)
              have hx6 := bt_at a0 x6_1
              replace p6 := eq_true p6
              replace q6 := eq_true q6
              go_wp2
              go_meet
              case rel => exact ⟨_, (((bt a0 x6_1) != 32)), (by first | rfl | (simp; done) | (simp [*]; done)), H', ⟨by have := HK1.out; first | omega | exact Nat.le_refl _⟩, ⟨by (with_reducible repeat (first | apply Kd.R_alloc | apply Kd.R_drewN | apply Kd.R_drew)); exact HO_4.out⟩, ⟨by repeat (first | (with_reducible first | exact HB.out | apply below_alloc | apply pw_below_drewN | apply below_drew1) | exact HB.out)⟩⟩
            · rw [if_neg c5] at H
              exact absurd H (by simp)
          · rw [if_neg c4] at H
            have c4b0 : decide (x6_1 < (a0.size : Int)) = false := decide_eq_false c4
            clear c4
            (first | rw [c4b0] | (simp only [i64_w, i32_w]; rw [c4b0]) | skip)
            have H' := Aside0.mk H
            clear H
            go_wp2
            go_meet
            case rel => exact ⟨_, (false), (by first | rfl | (simp; done) | (simp [*]; done)), H', ⟨by have := HK1.out; first | omega | exact Nat.le_refl _⟩, ⟨by (with_reducible repeat (first | apply Kd.R_alloc | apply Kd.R_drewN | apply Kd.R_drew)); exact HO_4.out⟩, ⟨by repeat (first | (with_reducible first | exact HB.out | apply below_alloc | apply pw_below_drewN | apply below_drew1) | exact HB.out)⟩⟩
        case rest =>
          clear HC3
          try clear c2
          try clear c2b0
          try clear p2
          try clear c4
          try clear c4b0
          try clear c5
          try clear c5b0
          try clear p6
          try clear q6
          try clear hx6
          try clear p6
          try clear q6
          obtain ⟨kq, x24_2, rfl, HA, HJ2, HO_4, HB⟩ := hcut
          cases kq with
          | zero => exact absurd HA.out (by simp [spec_GridRead.j1])
          | succ kj2 =>
            have H := HA.out
            clear HA
            simp only [spec_GridRead.j1] at H
            by_cases c7 : x24_2 = true
            · subst c7
              have H1 : (spec_GridRead.l0 kj2 a0 x4_1 x5_1 (wrap64 (x6_1 + 1))) = some (r1, r2) := by rw [if_pos rfl] at H; exact H
              clear H
              have H := H1
              clear H1
              have H' := Aside0.mk H
              clear H
              go_wp2
              go_roundg kj2
              case measure => have := HK1.out; have := HJ2.out; omega
              case rel => exact ⟨(x4_1), (x5_1), (wrap64 (x6_1 + 1)), (by first | rfl | (simp; done) | (simp [*]; done)), (by first | rfl | (simp; done) | (simp [*]; done)), H', ⟨by have := HK1.out; have := HJ2.out; omega⟩, ⟨by (with_reducible repeat (first | apply Kd.R_alloc | apply Kd.R_drewN | apply Kd.R_drew)); exact HO_4.out⟩, ⟨by repeat (first | (with_reducible first | exact HB.out | apply below_alloc | apply pw_below_drewN | apply below_drew1) | exact HB.out)⟩⟩
            · replace c7 := Bool.eq_false_iff.mpr c7
              subst c7
              have H1 : (if x6_1 > x5_1 then (if 0 ≤ x5_1 then (if x5_1 ≤ x6_1 then (if x6_1 ≤ (a0.size : Int) then ((Go.Proofs.YtfbenlenihlpbaaDoor.PRo.spec_gridReadOne.f kj2 (a0.extract (x5_1 : Int).toNat (x6_1 : Int).toNat)).bind fun bt198 => (if bt198.2.2.2.2 = true then (if x4_1.length < 4398046511104 then (spec_GridRead.l0 kj2 a0 (x4_1 ++ [(⟨bt198.1, bt198.2.1, bt198.2.2.1, bt198.2.2.2.1⟩ : S22)]) (wrap64 (x6_1 + 1)) (wrap64 (x6_1 + 1))) else (none)) else (some (([] : List (S22)), false)))) else (none)) else (none)) else (none)) else (spec_GridRead.l0 kj2 a0 x4_1 (wrap64 (x6_1 + 1)) (wrap64 (x6_1 + 1)))) = some (r1, r2) := by rw [if_neg (show ¬ (false = true) by decide)] at H; exact H
              clear H
              have H := H1
              clear H1
              by_cases c8 : x6_1 > x5_1
              · rw [if_pos c8] at H
                have c8b0 : decide (x5_1 < x6_1) = true := decide_eq_true c8
                clear c8
                by_cases c9 : 0 ≤ x5_1
                · rw [if_pos c9] at H
                  have c9b0 := eq_true c9
                  have c9b1 : decide (0 ≤ x5_1) = true := decide_eq_true c9
                  clear c9
                  by_cases c10 : x5_1 ≤ x6_1
                  · rw [if_pos c10] at H
                    have c10b0 := eq_true c10
                    have c10b1 : decide (x5_1 ≤ x6_1) = true := decide_eq_true c10
                    clear c10
                    by_cases c11 : x6_1 ≤ (a0.size : Int)
                    · rw [if_pos c11] at H
                      have c11b0 := eq_true c11
                      have c11b1 : decide (x6_1 ≤ (a0.size : Int)) = true := decide_eq_true c11
                      clear c11
                      replace H := Option.bind_eq_some_iff.mp H
                      obtain ⟨⟨t198, t199, t200, t201, t202⟩, A120, H⟩ := H
                      replace H : (if t202 = true then (if x4_1.length < 4398046511104 then (spec_GridRead.l0 kj2 a0 (x4_1 ++ [(⟨t198, t199, t200, t201⟩ : S22)]) (wrap64 (x6_1 + 1)) (wrap64 (x6_1 + 1))) else (none)) else (some (([] : List (S22)), false))) = some (r1, r2) := H
                      have A12 := Aside0.mk A120
                      clear A120
                      by_cases c13 : t202 = true
                      · subst c13
                        have H1 : (if x4_1.length < 4398046511104 then (spec_GridRead.l0 kj2 a0 (x4_1 ++ [(⟨t198, t199, t200, t201⟩ : S22)]) (wrap64 (x6_1 + 1)) (wrap64 (x6_1 + 1))) else (none)) = some (r1, r2) := by rw [if_pos rfl] at H; exact H
                        clear H
                        have H := H1
                        clear H1
                        by_cases c14 : x4_1.length < 4398046511104
                        · rw [if_pos c14] at H
                          have LMc14 := Aside0.mk c14
                          clear c14
                          obtain ⟨y204, hy204⟩ : ∃ y_ : List (S22), y_ = (x4_1 ++ [(⟨t198, t199, t200, t201⟩ : S22)]) := ⟨_, rfl⟩
                          replace H : (spec_GridRead.l0 kj2 a0 y204 (wrap64 (x6_1 + 1)) (wrap64 (x6_1 + 1))) = some (r1, r2) := by first | (rw [hy204]; with_reducible exact H) | (have H2_ := (Option.bind_some _ _).symm.trans H; rw [hy204]; with_reducible exact H2_) | (have H2_ := (Option.bind_some _ _).symm.trans H; with_reducible exact H2_) | with_reducible exact H | (rw [hy204]; exact H) | exact H
                          have Ny204 := Aside0.mk hy204
                          clear hy204
                          have H' := Aside0.mk H
                          clear H
                          go_wp2_with (first | ((with_reducible refine gate_callee (f := 43) rfl ?_); refine goesL_ (some 33) rfl rfl Tryd.func43 (by kernel_rfl) rfl #[.string (a0.extract (x5_1 : Int).toNat (x6_1 : Int).toNat)] rfl (by (try simp only [List.map_toArray, List.map_cons, List.map_nil]); first | done | rfl | (simp only [List.length_drop, List.length_take]; rfl)) ?_; (with_reducible refine (Go.Proofs.YtfbenlenihlpbaaDoor.PRo.spec_gridReadOne.calls kj2 (a0.extract (x5_1 : Int).toNat (x6_1 : Int).toNat) t198 t199 t200 t201 true _ A12.out).mono ?_); rintro e w15 ⟨rfl, hb⟩; refine ⟨_, rfl, ?_⟩; have n0_ := Aside0.mk (Kd.R_below (by (with_reducible repeat (first | apply Kd.R_alloc | apply Kd.R_drewN | apply Kd.R_drew)); exact HO_4.out) hb); have n1_ := Aside0.mk (below_step (by repeat (first | (with_reducible first | exact HB.out | apply below_alloc | apply pw_below_drewN | apply below_drew1) | exact HB.out)) hb); clear HO_4; clear HB; have HO_4 := n0_; have HB := n1_; clear n0_ n1_; (try clear hb); (try clear hb2); (try clear hk); (try clear hi)) | ((with_reducible refine gate_dst (N := 7) rfl ?_); refine box_event ?hg (N := 7) ?hd (cs := #[.int .i64 0, .int .i64 0, .int .i64 0, .int .i64 0]) (t := 22) ?hr ?_; (case hd => rfl); (case hg => rfl); (case hr => first | (go_simp; done) | (go_simp; rfl)); intro gb203 hg w16 hbox hb; have n0_ := Aside0.mk (Kd.R_below (Kd.R_elderB (by (with_reducible repeat (first | apply Kd.R_alloc | apply Kd.R_drewN | apply Kd.R_drew)); exact HO_4.out) gb203 (Nat.le_of_eq hg.symm)) hb); have n1_ := Aside0.mk (below_step (by repeat (first | (with_reducible first | exact HB.out | apply below_alloc | apply pw_below_drewN | apply below_drew1) | exact HB.out)) hb); have n2_ := Aside0.mk (hbox); have n3_ := Aside0.mk ((by rw [hg]; exact (below_size (by repeat (first | (with_reducible first | exact HB.out | apply below_alloc | apply pw_below_drewN | apply below_drew1) | exact HB.out))) : w.heap.size ≤ gb203)); have n4_ := Aside0.mk ((by rw [hg]; exact (below_size (by repeat (first | (with_reducible first | exact HB.out | apply below_alloc | apply pw_below_drewN | apply below_drew1) | exact HB.out))) : w.heap.size ≤ gb203)); clear HO_4; clear HB; have HO_4 := n0_; have HB := n1_; have BK203 := n2_; have GW203 := n3_; have GE203 := n4_; clear n0_ n1_ n2_ n3_ n4_; clear hb hbox hg; have hcz17_0 : w16.cell? ⟨gb203, 0, none⟩ = some (.int .i64 0) := (blk_cell BK203.out 0).trans rfl; have hcz17_1 : w16.cell? ⟨gb203, 1, none⟩ = some (.int .i64 0) := (blk_cell BK203.out 1).trans rfl; have hcz17_2 : w16.cell? ⟨gb203, 2, none⟩ = some (.int .i64 0) := (blk_cell BK203.out 2).trans rfl; have hcz17_3 : w16.cell? ⟨gb203, 3, none⟩ = some (.int .i64 0) := (blk_cell BK203.out 3).trans rfl; have hfz17_0 := blk_frozen BK203.out 0; have hfz17_1 := blk_frozen BK203.out 1; have hfz17_2 := blk_frozen BK203.out 2; have hfz17_3 := blk_frozen BK203.out 3) | ((with_reducible refine gate_builtin (b := .append) (xs := #[.tmp 38, .tmp 40]) rfl ?_); at_builtin; refine Kd.R_append k22 (w0 := w) w.heap.size rfl (.tmp 38) (.tmp 40) 41 22 (.agg #[(.int .i64 0), (.int .i64 0), (.int .i64 0), (.int .i64 0)]) 32 rfl Tryd.underlying41 info22 rfl (by decide) (by omega) u4 x4_1 (⟨t198, t199, t200, t201⟩ : S22) [.int .i64 t198, .int .i64 t199, .int .i64 t200, .int .i64 t201] (fun k_ => k_ ≠ gb203) (fun _ => False) rfl (by first | (go_simp; done) | (go_simp; rfl)) ?aP (fun _ hk => hk.elim) ?aF ?aO ?aB ?aS ?aL ?_; (case aP => exact k22_mkM _ _ _ (⟨t198, t199, t200, t201⟩ : S22)); (case aB => exact (by repeat (first | (with_reducible first | exact HB.out | apply below_alloc | apply pw_below_drewN | apply below_drew1 | refine below_set ?_ GE203.out) | exact HB.out))); (case aF => exact (fun k_ hk => Kd.freshB (g := gb203) (o := .cells #[.int .i64 t198, .int .i64 t199, .int .i64 t200, .int .i64 t201] 22 (0, 0)) (by (with_reducible repeat (first | refine blk_drewN ?_ _ | refine blk_drew ?_ | refine blk_alloc ?_ _)); refine blk_put (cs := #[.int .i64 t198, .int .i64 t199, .int .i64 t200, .int .i64 0]) ?_ 3 _ rfl; (with_reducible repeat (first | refine blk_drewN ?_ _ | refine blk_drew ?_ | refine blk_alloc ?_ _)); refine blk_put (cs := #[.int .i64 t198, .int .i64 t199, .int .i64 0, .int .i64 0]) ?_ 2 _ rfl; (with_reducible repeat (first | refine blk_drewN ?_ _ | refine blk_drew ?_ | refine blk_alloc ?_ _)); refine blk_put (cs := #[.int .i64 t198, .int .i64 0, .int .i64 0, .int .i64 0]) ?_ 1 _ rfl; (with_reducible repeat (first | refine blk_drewN ?_ _ | refine blk_drew ?_ | refine blk_alloc ?_ _)); refine blk_put (cs := #[.int .i64 0, .int .i64 0, .int .i64 0, .int .i64 0]) ?_ 0 _ rfl; (with_reducible repeat (first | refine blk_drewN ?_ _ | refine blk_drew ?_ | refine blk_alloc ?_ _)); exact BK203.out) k_ hk)); (case aO => exact (by (with_reducible repeat (first | apply Kd.R_alloc | apply Kd.R_drewN | apply Kd.R_drew)); exact Kd.R_mono (Kd.R_far (p := ⟨gb203, 3, none⟩) (Kd.R_far (p := ⟨gb203, 2, none⟩) (Kd.R_far (p := ⟨gb203, 1, none⟩) (Kd.R_far (p := ⟨gb203, 0, none⟩) (Kd.R_mono HO_4.out (fun k_ hk => (⟨hk, hk.2⟩ : _ ∧ k_ ≠ gb203))) (fun _ hk => hk.2) (.int .i64 t198)) (fun _ hk => hk.2) (.int .i64 t199)) (fun _ hk => hk.2) (.int .i64 t200)) (fun _ hk => hk.2) (.int .i64 t201)) (fun _ hk => hk.1.2))); (case aS => exact (below_size (by repeat (first | (with_reducible first | exact HB.out | apply below_alloc | apply pw_below_drewN | apply below_drew1 | refine below_set ?_ GE203.out) | exact HB.out)))); (case aL => have := LMc14.out; omega); intro v205 w18 ho hb hg hat; rw [← Ny204.out] at ho; have n0_ := Aside0.mk (blk_grown (g := gb203) (o := .cells #[.int .i64 t198, .int .i64 t199, .int .i64 t200, .int .i64 t201] 22 (0, 0)) (by (with_reducible repeat (first | refine blk_drewN ?_ _ | refine blk_drew ?_ | refine blk_alloc ?_ _)); refine blk_put (cs := #[.int .i64 t198, .int .i64 t199, .int .i64 t200, .int .i64 0]) ?_ 3 _ rfl; (with_reducible repeat (first | refine blk_drewN ?_ _ | refine blk_drew ?_ | refine blk_alloc ?_ _)); refine blk_put (cs := #[.int .i64 t198, .int .i64 t199, .int .i64 0, .int .i64 0]) ?_ 2 _ rfl; (with_reducible repeat (first | refine blk_drewN ?_ _ | refine blk_drew ?_ | refine blk_alloc ?_ _)); refine blk_put (cs := #[.int .i64 t198, .int .i64 0, .int .i64 0, .int .i64 0]) ?_ 1 _ rfl; (with_reducible repeat (first | refine blk_drewN ?_ _ | refine blk_drew ?_ | refine blk_alloc ?_ _)); refine blk_put (cs := #[.int .i64 0, .int .i64 0, .int .i64 0, .int .i64 0]) ?_ 0 _ rfl; (with_reducible repeat (first | refine blk_drewN ?_ _ | refine blk_drew ?_ | refine blk_alloc ?_ _)); exact BK203.out) hg (Kd.R_away HO_4.out (fun _ hk => hk.2))); have n1_ := Aside0.mk (hb); have n2_ := Aside0.mk (ho); clear BK203; clear HB; clear HO_4; have BK203 := n0_; have HB := n1_; have HO206 := n2_; clear n0_ n1_ n2_; clear ho hb hg hat))
                          go_roundg kj2
                          case measure => have := HK1.out; have := HJ2.out; omega
                          case rel => exact ⟨(y204), (wrap64 (x6_1 + 1)), (wrap64 (x6_1 + 1)), (by first | rfl | (simp; done) | (simp [*]; done)), (by first | rfl | (simp; done) | (simp [*]; done)), H', ⟨by have := HK1.out; have := HJ2.out; omega⟩, ⟨by (with_reducible repeat (first | apply Kd.R_alloc | apply Kd.R_drewN | apply Kd.R_drew)); exact Kd.R_mono HO206.out (fun _ hk => trivial)⟩, ⟨by repeat (first | (with_reducible first | exact HB.out | apply below_alloc | apply pw_below_drewN | apply below_drew1 | refine below_set ?_ GE203.out) | exact HB.out)⟩⟩
                        · rw [if_neg c14] at H
                          exact absurd H (by simp)
                      · replace c13 := Bool.eq_false_iff.mpr c13
                        subst c13
                        have H1 : (some (([] : List (S22)), false)) = some (r1, r2) := by rw [if_neg (show ¬ (false = true) by decide)] at H; exact H
                        clear H
                        have H := H1
                        clear H1
                        simp only [Option.some.injEq, Prod.mk.injEq] at H
                        obtain ⟨rfl, rfl⟩ := H
                        go_wp2_with (first | ((with_reducible refine gate_callee (f := 43) rfl ?_); refine goesL_ (some 33) rfl rfl Tryd.func43 (by kernel_rfl) rfl #[.string (a0.extract (x5_1 : Int).toNat (x6_1 : Int).toNat)] rfl (by (try simp only [List.map_toArray, List.map_cons, List.map_nil]); first | done | rfl | (simp only [List.length_drop, List.length_take]; rfl)) ?_; (with_reducible refine (Go.Proofs.YtfbenlenihlpbaaDoor.PRo.spec_gridReadOne.calls kj2 (a0.extract (x5_1 : Int).toNat (x6_1 : Int).toNat) t198 t199 t200 t201 false _ A12.out).mono ?_); rintro e w19 ⟨rfl, hb⟩; refine ⟨_, rfl, ?_⟩; have n0_ := Aside0.mk (Kd.R_below (by (with_reducible repeat (first | apply Kd.R_alloc | apply Kd.R_drewN | apply Kd.R_drew)); exact HO_4.out) hb); have n1_ := Aside0.mk (below_step (by repeat (first | (with_reducible first | exact HB.out | apply below_alloc | apply pw_below_drewN | apply below_drew1) | exact HB.out)) hb); clear HO_4; clear HB; have HO_4 := n0_; have HB := n1_; clear n0_ n1_; (try clear hb); (try clear hb2); (try clear hk); (try clear hi)) | ((with_reducible refine gate_dst (N := 7) rfl ?_); refine box_event ?hg (N := 7) ?hd (cs := #[.int .i64 0, .int .i64 0, .int .i64 0, .int .i64 0]) (t := 22) ?hr ?_; (case hd => rfl); (case hg => rfl); (case hr => first | (go_simp; done) | (go_simp; rfl)); intro gb203 hg w20 hbox hb; have n0_ := Aside0.mk (Kd.R_below (Kd.R_elderB (by (with_reducible repeat (first | apply Kd.R_alloc | apply Kd.R_drewN | apply Kd.R_drew)); exact HO_4.out) gb203 (Nat.le_of_eq hg.symm)) hb); have n1_ := Aside0.mk (below_step (by repeat (first | (with_reducible first | exact HB.out | apply below_alloc | apply pw_below_drewN | apply below_drew1) | exact HB.out)) hb); have n2_ := Aside0.mk (hbox); have n3_ := Aside0.mk ((by rw [hg]; exact (below_size (by repeat (first | (with_reducible first | exact HB.out | apply below_alloc | apply pw_below_drewN | apply below_drew1) | exact HB.out))) : w.heap.size ≤ gb203)); have n4_ := Aside0.mk ((by rw [hg]; exact (below_size (by repeat (first | (with_reducible first | exact HB.out | apply below_alloc | apply pw_below_drewN | apply below_drew1) | exact HB.out))) : w.heap.size ≤ gb203)); clear HO_4; clear HB; have HO_4 := n0_; have HB := n1_; have BK203 := n2_; have GW203 := n3_; have GE203 := n4_; clear n0_ n1_ n2_ n3_ n4_; clear hb hbox hg; have hcz21_0 : w20.cell? ⟨gb203, 0, none⟩ = some (.int .i64 0) := (blk_cell BK203.out 0).trans rfl; have hcz21_1 : w20.cell? ⟨gb203, 1, none⟩ = some (.int .i64 0) := (blk_cell BK203.out 1).trans rfl; have hcz21_2 : w20.cell? ⟨gb203, 2, none⟩ = some (.int .i64 0) := (blk_cell BK203.out 2).trans rfl; have hcz21_3 : w20.cell? ⟨gb203, 3, none⟩ = some (.int .i64 0) := (blk_cell BK203.out 3).trans rfl; have hfz21_0 := blk_frozen BK203.out 0; have hfz21_1 := blk_frozen BK203.out 1; have hfz21_2 := blk_frozen BK203.out 2; have hfz21_3 := blk_frozen BK203.out 3))
                        go_ret2
                        exact ⟨_, by first | rfl | (simp [errW_none, errW_some] <;> rfl) | (simp [*, errW_none, errW_some] <;> rfl), by first | exact Kd.R_nil _ _ _ _ _ | exact Kd.N_nil _ _ _ _ _ | exact Kd.V_nil _ _ _ _ _ | exact Kd.Q_nil _ _ _ _ _ | exact Kd.S_nil _ _ _ _ _, by repeat (first | (with_reducible first | exact HB.out | apply below_alloc | apply pw_below_drewN | apply below_drew1 | refine below_set ?_ GE203.out) | exact HB.out)⟩
                    · rw [if_neg c11] at H
                      exact absurd H (by simp)
                  · rw [if_neg c10] at H
                    exact absurd H (by simp)
                · rw [if_neg c9] at H
                  exact absurd H (by simp)
              · rw [if_neg c8] at H
                have c8b0 : decide (x5_1 < x6_1) = false := decide_eq_false c8
                clear c8
                have H' := Aside0.mk H
                clear H
                go_wp2
                go_roundg kj2
                case measure => have := HK1.out; have := HJ2.out; omega
                case rel => exact ⟨(x4_1), (wrap64 (x6_1 + 1)), (wrap64 (x6_1 + 1)), (by first | rfl | (simp; done) | (simp [*]; done)), (by first | rfl | (simp; done) | (simp [*]; done)), H', ⟨by have := HK1.out; have := HJ2.out; omega⟩, ⟨by (with_reducible repeat (first | apply Kd.R_alloc | apply Kd.R_drewN | apply Kd.R_drew)); exact HO_4.out⟩, ⟨by repeat (first | (with_reducible first | exact HB.out | apply below_alloc | apply pw_below_drewN | apply below_drew1) | exact HB.out)⟩⟩
      · rw [if_neg c2] at H
        have c2b0 : decide (x6_1 ≤ (a0.size : Int)) = false := decide_eq_false c2
        clear c2
        simp only [Option.some.injEq, Prod.mk.injEq] at H
        obtain ⟨rfl, rfl⟩ := H
        go_wp2
        go_ret2
        exact ⟨_, by first | rfl | (simp [errW_none, errW_some] <;> rfl) | (simp [*, errW_none, errW_some] <;> rfl), by (with_reducible repeat (first | apply Kd.R_alloc | apply Kd.R_drewN | apply Kd.R_drew)); exact HO_4.out, by repeat (first | (with_reducible first | exact HB.out | apply below_alloc | apply pw_below_drewN | apply below_drew1) | exact HB.out)⟩

end Go.Proofs.YtfbenlenihlpbaaDoor.PSq
