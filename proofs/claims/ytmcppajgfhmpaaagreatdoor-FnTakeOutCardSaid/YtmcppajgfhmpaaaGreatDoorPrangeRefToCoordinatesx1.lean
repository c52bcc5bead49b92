-- PRINTED BY print.sh 35421559b90ae4d0a3588c463048766b98c2df88dd9212a6774a882060cdf62d: not written by this session
import Derived.Test.YtmcppajgfhmpaaaGreatDoorPrangeRefToCoordinatesx0
namespace Go.Proofs.YtmcppajgfhmpaaaGreatDoor.PrangeRefToCoordinates
open Go.RowKit Go.Proofs.YtmcppajgfhmpaaaGreatDoorW.PrintWords Go.Proofs.YtmcppajgfhmpaaaGreatDoorW.PrintLast Go.Proofs.YtmcppajgfhmpaaaGreatDoorW.PrintMore
attribute [local go_sem] max2_int min2_int max_two min_two max_three min_three max_four min_four   -- for this text's walks alone
set_option linter.unusedVariables false
set_option linter.unusedSimpArgs false

/-! ### excelize_zzIndex: function 51 -/
def excelize_zzIndex.l0 : Nat → ByteArray → ByteArray → Int → Option (Int)
  | 0, _, _, _ => none
  | k + 1, x0, x1, x5 => if (wrap64 (x5 + (x1.size : Int))) ≤ (x0.size : Int) then (if 0 ≤ x5 then (if x5 ≤ (wrap64 (x5 + (x1.size : Int))) then (if (x0.extract (x5 : Int).toNat ((wrap64 (x5 + (x1.size : Int))) : Int).toNat).toList = x1.toList then (some x5) else (excelize_zzIndex.l0 k x0 x1 (wrap64 (x5 + 1)))) else (none)) else (none)) else (some (-1))
def excelize_zzIndex.f (k : Nat) (a0 : ByteArray) (a1 : ByteArray) : Option (Int) := excelize_zzIndex.l0 k a0 a1 0
theorem excelize_zzIndex.mono_l : ∀ k, (∀ y0 y1 y2, LeO (excelize_zzIndex.l0 k y0 y1 y2) (excelize_zzIndex.l0 (k + 1) y0 y1 y2))
  | 0 => fun _ _ _ r h => by simp [excelize_zzIndex.l0] at h
  | k + 1 => by
    have ih0 := excelize_zzIndex.mono_l k
    · intro y0 y1 y2
      unfold excelize_zzIndex.l0
      repeat' first
      | (with_reducible exact ih0 _ _ _)
      | (with_reducible exact LeO.refl _)
      | (with_reducible exact LeO.none _)
      | (with_reducible refine LeO.ite ?_ ?_)
      | (with_reducible refine LeO.bind ?_ (fun _ => ?_))
      | exact ih0 _ _ _
      | exact LeO.none _
      | refine LeO.ite ?_ ?_
      | refine LeO.bind ?_ (fun _ => ?_)
theorem excelize_zzIndex.mono : ∀ a0 a1 k, LeO (excelize_zzIndex.f k a0 a1) (excelize_zzIndex.f (k + 1) a0 a1) := by
  intro a0 a1 k
  have ih0 := excelize_zzIndex.mono_l k
  unfold excelize_zzIndex.f
  repeat' first
      | (with_reducible exact ih0 _ _ _)
      | (with_reducible exact LeO.refl _)
      | (with_reducible exact LeO.none _)
      | (with_reducible refine LeO.ite ?_ ?_)
      | (with_reducible refine LeO.bind ?_ (fun _ => ?_))
      | exact ih0 _ _ _
      | exact LeO.none _
      | refine LeO.ite ?_ ?_
      | refine LeO.bind ?_ (fun _ => ?_)
set_option maxHeartbeats 8000000 in
set_option maxRecDepth 100000 in
theorem excelize_zzIndex.calls (k : Nat) (a0 : ByteArray) (a1 : ByteArray) (r : Int) (w : World) (h : excelize_zzIndex.f k a0 a1 = some r) :
    Calls Tryz.prog 51 #[.string a0, .string a1] w fun e w' => e = .returned (.int .i64 r) ∧ Drawn0 w w' := by
  have H : (excelize_zzIndex.l0 k a0 a1 0) = some r := h
  clear h
  have H' := Aside0.mk H
  clear H
  go_enter Tryz.func51, Tryz.ntmps51
  go_wp2
  go_loopg [5] k (fun kq v5 w' => ∃ (x5_1 : Int), v5 = .int .i64 x5_1 ∧ Aside0 (excelize_zzIndex.l0 kq a0 a1 x5_1 = some r) ∧ Aside0 (kq ≤ k) ∧ Drawn0 w w')
  case atStart => exact ⟨(0), (by first | rfl | (simp; done) | (simp [*]; done)), H', ⟨Nat.le_refl _⟩, by repeat (first | exact Drawn0.refl _ | apply Drawn0.step)⟩
  case round =>
    clear H'
    try clear p2
    obtain ⟨x5_1, rfl, HA, HK1, ⟨m1, rfl⟩⟩ := hrel
    cases gk with
    | zero => exact absurd HA.out (by simp [excelize_zzIndex.l0])
    | succ k1 =>
      have H := HA.out
      clear HA
      simp only [excelize_zzIndex.l0] at H
      by_cases c3 : (wrap64 (x5_1 + (a1.size : Int))) ≤ (a0.size : Int)
      · rw [if_pos c3] at H
        have c3b0 : decide ((wrap64 (x5_1 + (a1.size : Int))) ≤ (a0.size : Int)) = true := decide_eq_true c3
        clear c3
        by_cases c4 : 0 ≤ x5_1
        · rw [if_pos c4] at H
          have c4b0 := eq_true c4
          have c4b1 : decide (0 ≤ x5_1) = true := decide_eq_true c4
          clear c4
          by_cases c5 : x5_1 ≤ (wrap64 (x5_1 + (a1.size : Int)))
          · rw [if_pos c5] at H
            have c5b0 := eq_true c5
            have c5b1 : decide (x5_1 ≤ (wrap64 (x5_1 + (a1.size : Int)))) = true := decide_eq_true c5
            have c6b0 := eq_true (of_decide_eq_true (by first | (with_reducible assumption) | assumption) : (wrap64 (x5_1 + (a1.size : Int))) ≤ (a0.size : Int))
            by_cases c7 : (a0.extract (x5_1 : Int).toNat ((wrap64 (x5_1 + (a1.size : Int))) : Int).toNat).toList = a1.toList
            · rw [if_pos c7] at H
              have c7b0 : ((a0.extract (x5_1 : Int).toNat ((wrap64 (x5_1 + (a1.size : Int))) : Int).toNat).toList == a1.toList) = true := beq_iff_eq.mpr c7
              have c7b1 : ((a0.extract (x5_1 : Int).toNat ((wrap64 (x5_1 + (a1.size : Int))) : Int).toNat).toList != a1.toList) = false := bne_eq_false_iff_eq.mpr c7
              clear c7
              obtain rfl := Option.some.inj H
              go_wp2
              go_ret
              exact ⟨by first | rfl | (simp; done) | (simp [*]; done), by repeat (first | exact Drawn0.refl _ | apply Drawn0.step)⟩
            · rw [if_neg c7] at H
              have c7b0 : ((a0.extract (x5_1 : Int).toNat ((wrap64 (x5_1 + (a1.size : Int))) : Int).toNat).toList == a1.toList) = false := beq_eq_false_iff_ne.mpr c7
              have c7b1 : ((a0.extract (x5_1 : Int).toNat ((wrap64 (x5_1 + (a1.size : Int))) : Int).toNat).toList != a1.toList) = true := bne_iff_ne.mpr c7
              have H' := Aside0.mk H
              clear H
              go_wp2
              go_roundg k1
              case measure => have := HK1.out; omega
              case rel => exact ⟨(wrap64 (x5_1 + 1)), (by first | rfl | (simp; done) | (simp [*]; done)), H', ⟨by have := HK1.out; omega⟩, by repeat (first | exact Drawn0.refl _ | apply Drawn0.step)⟩
          · rw [if_neg c5] at H
            exact absurd H (by simp)
        · rw [if_neg c4] at H
          exact absurd H (by simp)
      · rw [if_neg c3] at H
        have c3b0 : decide ((wrap64 (x5_1 + (a1.size : Int))) ≤ (a0.size : Int)) = false := decide_eq_false c3
        clear c3
        obtain rfl := Option.some.inj H
        go_wp2
        go_ret
        exact ⟨by first | rfl | (simp; done) | (simp [*]; done), by repeat (first | exact Drawn0.refl _ | apply Drawn0.step)⟩

/-! ### excelize_zzSplit: function 33 -/
def excelize_zzSplit.l0 : Nat → ByteArray → ByteArray → List ByteArray → Option (List ByteArray)
  | 0, _, _, _ => none
  | k + 1, x0, x1, x5 => (excelize_zzIndex.f k x0 x1).bind fun t101 => (if t101 < 0 then (if x5.length < 8796093022208 then (some (x5 ++ [x0])) else (none)) else (if 0 ≤ t101 then (if t101 ≤ (x0.size : Int) then (if x5.length < 8796093022208 then (if 0 ≤ (wrap64 (t101 + (x1.size : Int))) then (if (wrap64 (t101 + (x1.size : Int))) ≤ (x0.size : Int) then (excelize_zzSplit.l0 k (x0.extract ((wrap64 (t101 + (x1.size : Int))) : Int).toNat x0.size) x1 (x5 ++ [x0.extract 0 (t101 : Int).toNat])) else (none)) else (none)) else (none)) else (none)) else (none)))
def excelize_zzSplit.f (k : Nat) (a0 : ByteArray) (a1 : ByteArray) : Option (List ByteArray) := excelize_zzSplit.l0 k a0 a1 ([] : List ByteArray)
theorem excelize_zzSplit.mono_l : ∀ k, (∀ y0 y1 y2, LeO (excelize_zzSplit.l0 k y0 y1 y2) (excelize_zzSplit.l0 (k + 1) y0 y1 y2))
  | 0 => fun _ _ _ r h => by simp [excelize_zzSplit.l0] at h
  | k + 1 => by
    have ih0 := excelize_zzSplit.mono_l k
    · intro y0 y1 y2
      unfold excelize_zzSplit.l0
      repeat' first
      | (with_reducible exact ih0 _ _ _)
      | (with_reducible exact excelize_zzIndex.mono _ _ _)
      | (with_reducible exact LeO.refl _)
      | (with_reducible exact LeO.none _)
      | (with_reducible refine LeO.ite ?_ ?_)
      | (with_reducible refine LeO.bind ?_ (fun _ => ?_))
      | exact ih0 _ _ _
      | exact excelize_zzIndex.mono _ _ _
      | exact LeO.none _
      | refine LeO.ite ?_ ?_
      | refine LeO.bind ?_ (fun _ => ?_)
theorem excelize_zzSplit.mono : ∀ a0 a1 k, LeO (excelize_zzSplit.f k a0 a1) (excelize_zzSplit.f (k + 1) a0 a1) := by
  intro a0 a1 k
  have ih0 := excelize_zzSplit.mono_l k
  unfold excelize_zzSplit.f
  repeat' first
      | (with_reducible exact ih0 _ _ _)
      | (with_reducible exact excelize_zzIndex.mono _ _ _)
      | (with_reducible exact LeO.refl _)
      | (with_reducible exact LeO.none _)
      | (with_reducible refine LeO.ite ?_ ?_)
      | (with_reducible refine LeO.bind ?_ (fun _ => ?_))
      | exact ih0 _ _ _
      | exact excelize_zzIndex.mono _ _ _
      | exact LeO.none _
      | refine LeO.ite ?_ ?_
      | refine LeO.bind ?_ (fun _ => ?_)
set_option maxHeartbeats 8000000 in
set_option maxRecDepth 100000 in
theorem excelize_zzSplit.calls (k : Nat) (a0 : ByteArray) (a1 : ByteArray) (r : List ByteArray) (w : World) (h : excelize_zzSplit.f k a0 a1 = some r) :
    Calls Tryz.prog 33 #[.string a0, .string a1] w fun e w' => ∃ v0_ : Value, e = .returned (v0_) ∧ Kd.R Kd.string 9 w' w.heap.size (fun _ => True) v0_ r ∧ Below w.heap.size w w' := by
  have HB := Aside0.mk (Below.refl w.heap.size w)
  have H : (excelize_zzSplit.l0 k a0 a1 ([] : List ByteArray)) = some r := h
  clear h
  have H' := Aside0.mk H
  clear H
  go_enter Tryz.func33, Tryz.ntmps33
  go_wp2
  go_loopg [0, 5] k (fun kq v0 v5 w' => ∃ (x0_1 : ByteArray) (x5_1 : List ByteArray), v0 = .string x0_1 ∧ Aside0 (excelize_zzSplit.l0 kq x0_1 a1 x5_1 = some r) ∧ Aside0 (kq ≤ k) ∧ Aside0 (Kd.R Kd.string 9 w' w.heap.size (fun _ => True) v5 x5_1) ∧ Aside0 (Below w.heap.size w w'))
  case atStart => exact ⟨(a0), (([] : List ByteArray)), (by first | rfl | (simp; done) | (simp [*]; done)), H', ⟨Nat.le_refl _⟩, ⟨by first | exact Kd.R_nil _ _ _ _ _ | exact Kd.N_nil _ _ _ _ _ | exact Kd.V_nil _ _ _ _ _ | exact Kd.Q_nil _ _ _ _ _ | exact Kd.S_nil _ _ _ _ _⟩, ⟨by repeat (first | (with_reducible first | exact HB.out | apply below_alloc | apply pw_below_drewN | apply below_drew1) | exact HB.out)⟩⟩
  case round =>
    clear H'
    try clear p2
    obtain ⟨x0_1, x5_1, rfl, HA, HK1, HO_5, HB⟩ := hrel
    cases gk with
    | zero => exact absurd HA.out (by simp [excelize_zzSplit.l0])
    | succ k1 =>
      have H := HA.out
      clear HA
      simp only [excelize_zzSplit.l0] at H
      replace H := Option.bind_eq_some_iff.mp H
      obtain ⟨t101, A30, H⟩ := H
      replace H : (if t101 < 0 then (if x5_1.length < 8796093022208 then (some (x5_1 ++ [x0_1])) else (none)) else (if 0 ≤ t101 then (if t101 ≤ (x0_1.size : Int) then (if x5_1.length < 8796093022208 then (if 0 ≤ (wrap64 (t101 + (a1.size : Int))) then (if (wrap64 (t101 + (a1.size : Int))) ≤ (x0_1.size : Int) then (excelize_zzSplit.l0 k1 (x0_1.extract ((wrap64 (t101 + (a1.size : Int))) : Int).toNat x0_1.size) a1 (x5_1 ++ [x0_1.extract 0 (t101 : Int).toNat])) else (none)) else (none)) else (none)) else (none)) else (none))) = some r := H
      have A3 := Aside0.mk A30
      clear A30
      by_cases c4 : t101 < 0
      · rw [if_pos c4] at H
        have c4b0 : decide (t101 < 0) = true := decide_eq_true c4
        clear c4
        by_cases c5 : x5_1.length < 8796093022208
        · rw [if_pos c5] at H
          have LMc5 := Aside0.mk c5
          clear c5
          obtain ⟨y102, hy102⟩ : ∃ y_ : List ByteArray, y_ = (x5_1 ++ [x0_1]) := ⟨_, rfl⟩
          replace H : (some y102) = some r := by first | (rw [hy102]; with_reducible exact H) | (have H2_ := (Option.bind_some _ _).symm.trans H; rw [hy102]; with_reducible exact H2_) | (have H2_ := (Option.bind_some _ _).symm.trans H; with_reducible exact H2_) | with_reducible exact H | (rw [hy102]; exact H) | exact H
          have Ny102 := Aside0.mk hy102
          clear hy102
          obtain rfl := Option.some.inj H
          go_wp2_with (first | ((with_reducible refine gate_callee (f := 51) rfl ?_); refine goesL_ (some 9) rfl rfl Tryz.func51 (by kernel_rfl) rfl #[.string x0_1, .string a1] rfl (by (try simp only [List.map_toArray, List.map_cons, List.map_nil]); first | done | rfl | (simp only [List.length_drop, List.length_take]; rfl)) ?_; (with_reducible refine (excelize_zzIndex.calls k1 x0_1 a1 t101 _ A3.out).mono ?_); rintro e w' ⟨rfl, ⟨nd, rfl⟩⟩; refine ⟨_, rfl, ?_⟩) | ((with_reducible refine gate_builtin (b := .append) (xs := #[.tmp 12, .tmp 14]) rfl ?_); at_builtin; refine Kd.R_append Kd.string (w0 := w) w.heap.size rfl (.tmp 12) (.tmp 14) 25 9 (.string ⟨#[]⟩) 16 rfl Tryz.underlying25 info9 rfl (by decide) (by omega) u5 x5_1 x0_1 [.string x0_1] (fun _ => True) (fun _ => False) rfl rfl ?aP (fun _ hk => hk.elim) ?aF ?aO ?aB ?aS ?aL ?_; (case aP => exact rfl); (case aB => exact (by repeat (first | (with_reducible first | exact HB.out | apply below_alloc | apply pw_below_drewN | apply below_drew1) | exact HB.out))); (case aF => exact (fun _ _ => trivial)); (case aO => exact (by (with_reducible repeat (first | apply Kd.R_alloc | apply Kd.R_drewN | apply Kd.R_drew)); exact HO_5.out)); (case aS => exact (below_size (by repeat (first | (with_reducible first | exact HB.out | apply below_alloc | apply pw_below_drewN | apply below_drew1) | exact HB.out)))); (case aL => have := LMc5.out; omega); intro v103 w6 ho hb hg hat; rw [← Ny102.out] at ho; have n0_ := Aside0.mk (hb); have n1_ := Aside0.mk (ho); clear HB; clear HO_5; have HB := n0_; have HO104 := n1_; clear n0_ n1_; clear ho hb hg hat))
          go_ret
          exact ⟨_, by first | rfl | (simp [errW_none, errW_some] <;> rfl) | (simp [*, errW_none, errW_some] <;> rfl), by (with_reducible repeat (first | apply Kd.R_alloc | apply Kd.R_drewN | apply Kd.R_drew)); exact HO104.out, by repeat (first | (with_reducible first | exact HB.out | apply below_alloc | apply pw_below_drewN | apply below_drew1) | exact HB.out)⟩
        · rw [if_neg c5] at H
          exact absurd H (by simp)
      · rw [if_neg c4] at H
        have c4b0 : decide (t101 < 0) = false := decide_eq_false c4
        clear c4
        by_cases c7 : 0 ≤ t101
        · rw [if_pos c7] at H
          have c7b0 := eq_true c7
          have c7b1 : decide (0 ≤ t101) = true := decide_eq_true c7
          clear c7
          by_cases c8 : t101 ≤ (x0_1.size : Int)
          · rw [if_pos c8] at H
            have c8b0 := eq_true c8
            have c8b1 : decide (t101 ≤ (x0_1.size : Int)) = true := decide_eq_true c8
            clear c8
            by_cases c9 : x5_1.length < 8796093022208
            · rw [if_pos c9] at H
              have LMc9 := Aside0.mk c9
              clear c9
              obtain ⟨y105, hy105⟩ : ∃ y_ : List ByteArray, y_ = (x5_1 ++ [x0_1.extract 0 (t101 : Int).toNat]) := ⟨_, rfl⟩
              replace H : (if 0 ≤ (wrap64 (t101 + (a1.size : Int))) then (if (wrap64 (t101 + (a1.size : Int))) ≤ (x0_1.size : Int) then (excelize_zzSplit.l0 k1 (x0_1.extract ((wrap64 (t101 + (a1.size : Int))) : Int).toNat x0_1.size) a1 y105) else (none)) else (none)) = some r := by first | (rw [hy105]; with_reducible exact H) | (have H2_ := (Option.bind_some _ _).symm.trans H; rw [hy105]; with_reducible exact H2_) | (have H2_ := (Option.bind_some _ _).symm.trans H; with_reducible exact H2_) | with_reducible exact H | (rw [hy105]; exact H) | exact H
              have Ny105 := Aside0.mk hy105
              clear hy105
              obtain ⟨ji10, hji10⟩ : ∃ j_ : Int, (wrap64 (t101 + (a1.size : Int))) = j_ := ⟨_, rfl⟩
              replace H : (if 0 ≤ (ji10) then (if (ji10) ≤ (x0_1.size : Int) then (excelize_zzSplit.l0 k1 (x0_1.extract ((ji10) : Int).toNat x0_1.size) a1 y105) else (none)) else (none)) = some r := by first | (rw [hji10] at H; exact H) | (simp only [hji10] at H ⊢; exact H)
              (try rw [hji10] at A3)
              have hji10w : (IntKind.i64.wrap (t101 + (a1.size : Int))) = ji10 := (i64_w _).trans hji10
              by_cases c11 : 0 ≤ (ji10)
              · rw [if_pos c11] at H
                have c11b0 := eq_true c11
                have c11b1 : decide (0 ≤ (ji10)) = true := decide_eq_true c11
                clear c11
                by_cases c12 : (ji10) ≤ (x0_1.size : Int)
                · rw [if_pos c12] at H
                  have c12b0 := eq_true c12
                  have c12b1 : decide ((ji10) ≤ (x0_1.size : Int)) = true := decide_eq_true c12
                  clear c12
                  have H' := Aside0.mk H
                  clear H
                  go_wp2_with (first | ((with_reducible refine gate_callee (f := 51) rfl ?_); refine goesL_ (some 9) rfl rfl Tryz.func51 (by kernel_rfl) rfl #[.string x0_1, .string a1] rfl (by (try simp only [List.map_toArray, List.map_cons, List.map_nil]); first | done | rfl | (simp only [List.length_drop, List.length_take]; rfl)) ?_; (with_reducible refine (excelize_zzIndex.calls k1 x0_1 a1 t101 _ A3.out).mono ?_); rintro e w' ⟨rfl, ⟨nd, rfl⟩⟩; refine ⟨_, rfl, ?_⟩) | ((with_reducible refine gate_builtin (b := .append) (xs := #[.tmp 16, .tmp 20]) rfl ?_); at_builtin; refine Kd.R_append Kd.string (w0 := w) w.heap.size rfl (.tmp 16) (.tmp 20) 25 9 (.string ⟨#[]⟩) 16 rfl Tryz.underlying25 info9 rfl (by decide) (by omega) u5 x5_1 (x0_1.extract 0 (t101 : Int).toNat) [.string (x0_1.extract 0 (t101 : Int).toNat)] (fun _ => True) (fun _ => False) rfl rfl ?aP (fun _ hk => hk.elim) ?aF ?aO ?aB ?aS ?aL ?_; (case aP => exact rfl); (case aB => exact (by repeat (first | (with_reducible first | exact HB.out | apply below_alloc | apply pw_below_drewN | apply below_drew1) | exact HB.out))); (case aF => exact (fun _ _ => trivial)); (case aO => exact (by (with_reducible repeat (first | apply Kd.R_alloc | apply Kd.R_drewN | apply Kd.R_drew)); exact HO_5.out)); (case aS => exact (below_size (by repeat (first | (with_reducible first | exact HB.out | apply below_alloc | apply pw_below_drewN | apply below_drew1) | exact HB.out)))); (case aL => have := LMc9.out; omega); intro v106 w13 ho hb hg hat; rw [← Ny105.out] at ho; have n0_ := Aside0.mk (hb); have n1_ := Aside0.mk (ho); clear HB; clear HO_5; have HB := n0_; have HO107 := n1_; clear n0_ n1_; clear ho hb hg hat))
                  go_roundg k1
                  case measure => have := HK1.out; omega
                  case rel => exact ⟨(x0_1.extract ((ji10) : Int).toNat x0_1.size), (y105), (by first | rfl | (simp; done) | (simp only [← hji10] <;> (first | rfl | simp)) | (simp [*]; done)), H', ⟨by have := HK1.out; omega⟩, ⟨by (with_reducible repeat (first | apply Kd.R_alloc | apply Kd.R_drewN | apply Kd.R_drew)); exact HO107.out⟩, ⟨by repeat (first | (with_reducible first | exact HB.out | apply below_alloc | apply pw_below_drewN | apply below_drew1) | exact HB.out)⟩⟩
                · rw [if_neg c12] at H
                  exact absurd H (by simp)
              · rw [if_neg c11] at H
                exact absurd H (by simp)
            · rw [if_neg c9] at H
              exact absurd H (by simp)
          · rw [if_neg c8] at H
            exact absurd H (by simp)
        · rw [if_neg c7] at H
          exact absurd H (by simp)

/-! ### excelize_zzReplaceAll: function 49 -/
def excelize_zzReplaceAll.l0 : Nat → ByteArray → ByteArray → ByteArray → List Int → Option (ByteArray)
  | 0, _, _, _, _ => none
  | k + 1, x0, x1, x2, x7 => (excelize_zzIndex.f k x0 x1).bind fun t108 => (if t108 < 0 then (if x7.length + x0.size < 140737488355328 then (some (strOfNums (x7 ++ bytesOf x0))) else (none)) else (if 0 ≤ t108 then (if t108 ≤ (x0.size : Int) then (if x7.length + (x0.extract 0 (t108 : Int).toNat).size < 140737488355328 then ((some (x7 ++ bytesOf (x0.extract 0 (t108 : Int).toNat) : List Int)).bind fun y112 => (if y112.length + x2.size < 140737488355328 then (if 0 ≤ (wrap64 (t108 + (x1.size : Int))) then (if (wrap64 (t108 + (x1.size : Int))) ≤ (x0.size : Int) then (excelize_zzReplaceAll.l0 k (x0.extract ((wrap64 (t108 + (x1.size : Int))) : Int).toNat x0.size) x1 x2 (y112 ++ bytesOf x2)) else (none)) else (none)) else (none))) else (none)) else (none)) else (none)))
def excelize_zzReplaceAll.f (k : Nat) (a0 : ByteArray) (a1 : ByteArray) (a2 : ByteArray) : Option (ByteArray) := excelize_zzReplaceAll.l0 k a0 a1 a2 ([] : List Int)
theorem excelize_zzReplaceAll.mono_l : ∀ k, (∀ y0 y1 y2 y3, LeO (excelize_zzReplaceAll.l0 k y0 y1 y2 y3) (excelize_zzReplaceAll.l0 (k + 1) y0 y1 y2 y3))
  | 0 => fun _ _ _ _ r h => by simp [excelize_zzReplaceAll.l0] at h
  | k + 1 => by
    have ih0 := excelize_zzReplaceAll.mono_l k
    · intro y0 y1 y2 y3
      unfold excelize_zzReplaceAll.l0
      repeat' first
      | (with_reducible exact ih0 _ _ _ _)
      | (with_reducible exact excelize_zzIndex.mono _ _ _)
      | (with_reducible exact LeO.refl _)
      | (with_reducible exact LeO.none _)
      | (with_reducible refine LeO.ite ?_ ?_)
      | (with_reducible refine LeO.bind ?_ (fun _ => ?_))
      | exact ih0 _ _ _ _
      | exact excelize_zzIndex.mono _ _ _
      | exact LeO.none _
      | refine LeO.ite ?_ ?_
      | refine LeO.bind ?_ (fun _ => ?_)
theorem excelize_zzReplaceAll.mono : ∀ a0 a1 a2 k, LeO (excelize_zzReplaceAll.f k a0 a1 a2) (excelize_zzReplaceAll.f (k + 1) a0 a1 a2) := by
  intro a0 a1 a2 k
  have ih0 := excelize_zzReplaceAll.mono_l k
  unfold excelize_zzReplaceAll.f
  repeat' first
      | (with_reducible exact ih0 _ _ _ _)
      | (with_reducible exact excelize_zzIndex.mono _ _ _)
      | (with_reducible exact LeO.refl _)
      | (with_reducible exact LeO.none _)
      | (with_reducible refine LeO.ite ?_ ?_)
      | (with_reducible refine LeO.bind ?_ (fun _ => ?_))
      | exact ih0 _ _ _ _
      | exact excelize_zzIndex.mono _ _ _
      | exact LeO.none _
      | refine LeO.ite ?_ ?_
      | refine LeO.bind ?_ (fun _ => ?_)
set_option maxHeartbeats 8000000 in
set_option maxRecDepth 100000 in
theorem excelize_zzReplaceAll.calls (k : Nat) (a0 : ByteArray) (a1 : ByteArray) (a2 : ByteArray) (r : ByteArray) (w : World) (h : excelize_zzReplaceAll.f k a0 a1 a2 = some r) :
    Calls Tryz.prog 49 #[.string a0, .string a1, .string a2] w fun e w' => e = .returned (.string r) ∧ Below w.heap.size w w' := by
  have HB := Aside0.mk (Below.refl w.heap.size w)
  have H : (excelize_zzReplaceAll.l0 k a0 a1 a2 ([] : List Int)) = some r := h
  clear h
  have H' := Aside0.mk H
  clear H
  go_enter Tryz.func49, Tryz.ntmps49
  go_wp2
  go_loopg [0, 7] k (fun kq v0 v7 w' => ∃ (x0_1 : ByteArray) (x7_1 : List Int), v0 = .string x0_1 ∧ Aside0 (excelize_zzReplaceAll.l0 kq x0_1 a1 a2 x7_1 = some r) ∧ Aside0 (kq ≤ k) ∧ Aside0 (Kd.R (Kd.int .u8) 5 w' w.heap.size (fun _ => True) v7 x7_1) ∧ Aside0 (Below w.heap.size w w'))
  case atStart => exact ⟨(a0), (([] : List Int)), (by first | rfl | (simp; done) | (simp [*]; done)), H', ⟨Nat.le_refl _⟩, ⟨by first | exact Kd.R_nil _ _ _ _ _ | exact Kd.N_nil _ _ _ _ _ | exact Kd.V_nil _ _ _ _ _ | exact Kd.Q_nil _ _ _ _ _ | exact Kd.S_nil _ _ _ _ _⟩, ⟨by repeat (first | (with_reducible first | exact HB.out | apply below_alloc | apply pw_below_drewN | apply below_drew1) | exact HB.out)⟩⟩
  case round =>
    clear H'
    try clear p2
    obtain ⟨x0_1, x7_1, rfl, HA, HK1, HO_7, HB⟩ := hrel
    cases gk with
    | zero => exact absurd HA.out (by simp [excelize_zzReplaceAll.l0])
    | succ k1 =>
      have H := HA.out
      clear HA
      simp only [excelize_zzReplaceAll.l0] at H
      replace H := Option.bind_eq_some_iff.mp H
      obtain ⟨t108, A40, H⟩ := H
      replace H : (if t108 < 0 then (if x7_1.length + x0_1.size < 140737488355328 then (some (strOfNums (x7_1 ++ bytesOf x0_1))) else (none)) else (if 0 ≤ t108 then (if t108 ≤ (x0_1.size : Int) then (if x7_1.length + (x0_1.extract 0 (t108 : Int).toNat).size < 140737488355328 then ((some (x7_1 ++ bytesOf (x0_1.extract 0 (t108 : Int).toNat) : List Int)).bind fun y112 => (if y112.length + a2.size < 140737488355328 then (if 0 ≤ (wrap64 (t108 + (a1.size : Int))) then (if (wrap64 (t108 + (a1.size : Int))) ≤ (x0_1.size : Int) then (excelize_zzReplaceAll.l0 k1 (x0_1.extract ((wrap64 (t108 + (a1.size : Int))) : Int).toNat x0_1.size) a1 a2 (y112 ++ bytesOf a2)) else (none)) else (none)) else (none))) else (none)) else (none)) else (none))) = some r := H
      have A4 := Aside0.mk A40
      clear A40
      by_cases c5 : t108 < 0
      · rw [if_pos c5] at H
        have c5b0 : decide (t108 < 0) = true := decide_eq_true c5
        clear c5
        by_cases c6 : x7_1.length + x0_1.size < 140737488355328
        · rw [if_pos c6] at H
          have LMc6 := Aside0.mk c6
          clear c6
          obtain ⟨y109, hy109⟩ : ∃ y_ : List Int, y_ = (x7_1 ++ bytesOf x0_1) := ⟨_, rfl⟩
          replace H : (some (strOfNums y109)) = some r := by first | (rw [hy109]; with_reducible exact H) | (have H2_ := (Option.bind_some _ _).symm.trans H; rw [hy109]; with_reducible exact H2_) | (have H2_ := (Option.bind_some _ _).symm.trans H; with_reducible exact H2_) | with_reducible exact H | (rw [hy109]; exact H) | exact H
          have Ny109 := Aside0.mk hy109
          clear hy109
          obtain rfl := Option.some.inj H
          go_wp2_with (first | ((with_reducible refine gate_callee (f := 51) rfl ?_); refine goesL_ (some 11) rfl rfl Tryz.func51 (by kernel_rfl) rfl #[.string x0_1, .string a1] rfl (by (try simp only [List.map_toArray, List.map_cons, List.map_nil]); first | done | rfl | (simp only [List.length_drop, List.length_take]; rfl)) ?_; (with_reducible refine (excelize_zzIndex.calls k1 x0_1 a1 t108 _ A4.out).mono ?_); rintro e w' ⟨rfl, ⟨nd, rfl⟩⟩; refine ⟨_, rfl, ?_⟩) | (at_builtin; refine print_append_str (w0 := w) w.heap.size rfl (.tmp 14) _ 109 9 5 rfl Tryz.underlying109 Tryz.underlying9 info5 u7 x7_1 x0_1 rfl rfl ?aO ?aB ?aS ?aL ?_; (case aB => exact (by repeat (first | (with_reducible first | exact HB.out | apply below_alloc | apply pw_below_drewN | apply below_drew1) | exact HB.out))); (case aO => exact (Kd.own_of_R (by (with_reducible repeat (first | apply Kd.R_alloc | apply Kd.R_drewN | apply Kd.R_drew)); exact HO_7.out))); (case aS => exact (below_size (by repeat (first | (with_reducible first | exact HB.out | apply below_alloc | apply pw_below_drewN | apply below_drew1) | exact HB.out)))); (case aL => have := LMc6.out; omega); intro v110 w7 ho0 hb hg; have ho := Kd.R_of_own (h1 := fun _ => rfl) (ok := fun _ => True) ho0 (fun _ _ => trivial); clear ho0; have hat := True.intro; rw [← Ny109.out] at ho; change Kd.R (Kd.int .u8) 5 w7 w.heap.size (fun _ => True) v110 y109 at ho; have n0_ := Aside0.mk (hb); have n1_ := Aside0.mk (ho); clear HB; clear HO_7; have HB := n0_; have HO111 := n1_; clear n0_ n1_; clear ho hb hg hat; have hcv8 := own_string (P := Tryz.prog) Tryz.underlying109 Tryz.underlying5 Tryz.underlying9 (Kd.own_of_R HO111.out)))
          go_ret
          exact ⟨by first | rfl | (simp [errW_none, errW_some] <;> rfl) | (simp [*, errW_none, errW_some] <;> rfl), by repeat (first | (with_reducible first | exact HB.out | apply below_alloc | apply pw_below_drewN | apply below_drew1) | exact HB.out)⟩
        · rw [if_neg c6] at H
          exact absurd H (by simp)
      · rw [if_neg c5] at H
        have c5b0 : decide (t108 < 0) = false := decide_eq_false c5
        clear c5
        by_cases c9 : 0 ≤ t108
        · rw [if_pos c9] at H
          have c9b0 := eq_true c9
          have c9b1 : decide (0 ≤ t108) = true := decide_eq_true c9
          clear c9
          by_cases c10 : t108 ≤ (x0_1.size : Int)
          · rw [if_pos c10] at H
            have c10b0 := eq_true c10
            have c10b1 : decide (t108 ≤ (x0_1.size : Int)) = true := decide_eq_true c10
            clear c10
            by_cases c11 : x7_1.length + (x0_1.extract 0 (t108 : Int).toNat).size < 140737488355328
            · rw [if_pos c11] at H
              have LMc11 := Aside0.mk c11
              clear c11
              obtain ⟨y112, hy112⟩ : ∃ y_ : List Int, y_ = (x7_1 ++ bytesOf (x0_1.extract 0 (t108 : Int).toNat)) := ⟨_, rfl⟩
              replace H : (if y112.length + a2.size < 140737488355328 then (if 0 ≤ (wrap64 (t108 + (a1.size : Int))) then (if (wrap64 (t108 + (a1.size : Int))) ≤ (x0_1.size : Int) then (excelize_zzReplaceAll.l0 k1 (x0_1.extract ((wrap64 (t108 + (a1.size : Int))) : Int).toNat x0_1.size) a1 a2 (y112 ++ bytesOf a2)) else (none)) else (none)) else (none)) = some r := by first | (rw [hy112]; with_reducible exact H) | (have H2_ := (Option.bind_some _ _).symm.trans H; rw [hy112]; with_reducible exact H2_) | (have H2_ := (Option.bind_some _ _).symm.trans H; with_reducible exact H2_) | with_reducible exact H | (rw [hy112]; exact H) | exact H
              have Ny112 := Aside0.mk hy112
              clear hy112
              by_cases c12 : y112.length + a2.size < 140737488355328
              · rw [if_pos c12] at H
                have LMc12 := Aside0.mk c12
                clear c12
                obtain ⟨y115, hy115⟩ : ∃ y_ : List Int, y_ = (y112 ++ bytesOf a2) := ⟨_, rfl⟩
                replace H : (if 0 ≤ (wrap64 (t108 + (a1.size : Int))) then (if (wrap64 (t108 + (a1.size : Int))) ≤ (x0_1.size : Int) then (excelize_zzReplaceAll.l0 k1 (x0_1.extract ((wrap64 (t108 + (a1.size : Int))) : Int).toNat x0_1.size) a1 a2 y115) else (none)) else (none)) = some r := by first | (rw [hy115]; with_reducible exact H) | (have H2_ := (Option.bind_some _ _).symm.trans H; rw [hy115]; with_reducible exact H2_) | (have H2_ := (Option.bind_some _ _).symm.trans H; with_reducible exact H2_) | with_reducible exact H | (rw [hy115]; exact H) | exact H
                have Ny115 := Aside0.mk hy115
                clear hy115
                obtain ⟨ji13, hji13⟩ : ∃ j_ : Int, (wrap64 (t108 + (a1.size : Int))) = j_ := ⟨_, rfl⟩
                replace H : (if 0 ≤ (ji13) then (if (ji13) ≤ (x0_1.size : Int) then (excelize_zzReplaceAll.l0 k1 (x0_1.extract ((ji13) : Int).toNat x0_1.size) a1 a2 y115) else (none)) else (none)) = some r := by first | (rw [hji13] at H; exact H) | (simp only [hji13] at H ⊢; exact H)
                (try rw [hji13] at A4)
                have hji13w : (IntKind.i64.wrap (t108 + (a1.size : Int))) = ji13 := (i64_w _).trans hji13
                by_cases c14 : 0 ≤ (ji13)
                · rw [if_pos c14] at H
                  have c14b0 := eq_true c14
                  have c14b1 : decide (0 ≤ (ji13)) = true := decide_eq_true c14
                  clear c14
                  by_cases c15 : (ji13) ≤ (x0_1.size : Int)
                  · rw [if_pos c15] at H
                    have c15b0 := eq_true c15
                    have c15b1 : decide ((ji13) ≤ (x0_1.size : Int)) = true := decide_eq_true c15
                    clear c15
                    have H' := Aside0.mk H
                    clear H
                    go_wp2_with (first | ((with_reducible refine gate_callee (f := 51) rfl ?_); refine goesL_ (some 11) rfl rfl Tryz.func51 (by kernel_rfl) rfl #[.string x0_1, .string a1] rfl (by (try simp only [List.map_toArray, List.map_cons, List.map_nil]); first | done | rfl | (simp only [List.length_drop, List.length_take]; rfl)) ?_; (with_reducible refine (excelize_zzIndex.calls k1 x0_1 a1 t108 _ A4.out).mono ?_); rintro e w' ⟨rfl, ⟨nd, rfl⟩⟩; refine ⟨_, rfl, ?_⟩) | (at_builtin; refine print_append_str (w0 := w) w.heap.size rfl (.tmp 18) _ 109 9 5 rfl Tryz.underlying109 Tryz.underlying9 info5 u7 x7_1 (x0_1.extract 0 (t108 : Int).toNat) rfl rfl ?aO ?aB ?aS ?aL ?_; (case aB => exact (by repeat (first | (with_reducible first | exact HB.out | apply below_alloc | apply pw_below_drewN | apply below_drew1) | exact HB.out))); (case aO => exact (Kd.own_of_R (by (with_reducible repeat (first | apply Kd.R_alloc | apply Kd.R_drewN | apply Kd.R_drew)); exact HO_7.out))); (case aS => exact (below_size (by repeat (first | (with_reducible first | exact HB.out | apply below_alloc | apply pw_below_drewN | apply below_drew1) | exact HB.out)))); (case aL => have := LMc11.out; omega); intro v113 w16 ho0 hb hg; have ho := Kd.R_of_own (h1 := fun _ => rfl) (ok := fun _ => True) ho0 (fun _ _ => trivial); clear ho0; have hat := True.intro; rw [← Ny112.out] at ho; change Kd.R (Kd.int .u8) 5 w16 w.heap.size (fun _ => True) v113 y112 at ho; have n0_ := Aside0.mk (hb); have n1_ := Aside0.mk (ho); clear HB; clear HO_7; have HB := n0_; have HO114 := n1_; clear n0_ n1_; clear ho hb hg hat) | (at_builtin; refine print_append_str (w0 := w) w.heap.size rfl (.tmp 22) _ 109 9 5 rfl Tryz.underlying109 Tryz.underlying9 info5 v113 y112 a2 rfl rfl ?aO ?aB ?aS ?aL ?_; (case aB => exact (by repeat (first | (with_reducible first | exact HB.out | apply below_alloc | apply pw_below_drewN | apply below_drew1) | exact HB.out))); (case aO => exact (Kd.own_of_R (by (with_reducible repeat (first | apply Kd.R_alloc | apply Kd.R_drewN | apply Kd.R_drew)); exact HO114.out))); (case aS => exact (below_size (by repeat (first | (with_reducible first | exact HB.out | apply below_alloc | apply pw_below_drewN | apply below_drew1) | exact HB.out)))); (case aL => have := LMc12.out; omega); intro v116 w17 ho0 hb hg; have ho := Kd.R_of_own (h1 := fun _ => rfl) (ok := fun _ => True) ho0 (fun _ _ => trivial); clear ho0; have hat := True.intro; rw [← Ny115.out] at ho; change Kd.R (Kd.int .u8) 5 w17 w.heap.size (fun _ => True) v116 y115 at ho; have n0_ := Aside0.mk (hb); have n1_ := Aside0.mk (ho); clear HB; clear HO114; have HB := n0_; have HO117 := n1_; clear n0_ n1_; clear ho hb hg hat))
                    go_roundg k1
                    case measure => have := HK1.out; omega
                    case rel => exact ⟨(x0_1.extract ((ji13) : Int).toNat x0_1.size), (y115), (by first | rfl | (simp; done) | (simp only [← hji13] <;> (first | rfl | simp)) | (simp [*]; done)), H', ⟨by have := HK1.out; omega⟩, ⟨by (with_reducible repeat (first | apply Kd.R_alloc | apply Kd.R_drewN | apply Kd.R_drew)); exact HO117.out⟩, ⟨by repeat (first | (with_reducible first | exact HB.out | apply below_alloc | apply pw_below_drewN | apply below_drew1) | exact HB.out)⟩⟩
                  · rw [if_neg c15] at H
                    exact absurd H (by simp)
                · rw [if_neg c14] at H
                  exact absurd H (by simp)
              · rw [if_neg c12] at H
                exact absurd H (by simp)
            · rw [if_neg c11] at H
              exact absurd H (by simp)
          · rw [if_neg c10] at H
            exact absurd H (by simp)
        · rw [if_neg c9] at H
          exact absurd H (by simp)

-- NOT PRINTED: function 113 (strings_indexFunc)

-- NOT PRINTED: function 91 (strings_IndexFunc)

/-! ### utf8_RuneStart: function 130 -/
def utf8_RuneStart.f (a0 : Int) : Option (Bool) := some ((Go.bits .and .u8 a0 192) != 128)
set_option maxHeartbeats 8000000 in
set_option maxRecDepth 100000 in
theorem utf8_RuneStart.calls (a0 : Int) (r : Bool) (w : World) (h : utf8_RuneStart.f a0 = some r) :
    Calls Tryz.prog 130 #[.int .u8 a0] w fun e w' => e = .returned (.bool r) ∧ Drawn0 w w' := by
  have H : (some ((Go.bits .and .u8 a0 192) != 128)) = some r := h
  clear h
  obtain rfl := Option.some.inj H
  go_enter Tryz.func130, Tryz.ntmps130
  go_wp2
  go_ret
  exact ⟨by first | rfl | (simp; done) | (simp [*]; done), by repeat (first | exact Drawn0.refl _ | apply Drawn0.step)⟩

-- NOT PRINTED: function 138 (utf8_decodeRuneInStringSlow)

-- NOT PRINTED: function 131 (utf8_DecodeRuneInString)

-- NOT PRINTED: function 123 (utf8_DecodeLastRuneInString)

-- NOT PRINTED: function 114 (strings_lastIndexFunc)

-- NOT PRINTED: function 92 (strings_LastIndexFunc)

/-! ### strconv_lower: function 139 -/
def strconv_lower.f (a0 : Int) : Option (Int) := some (Go.bits .or .u8 a0 32)
set_option maxHeartbeats 8000000 in
set_option maxRecDepth 100000 in
theorem strconv_lower.calls (a0 : Int) (r : Int) (w : World) (h : strconv_lower.f a0 = some r) :
    Calls Tryz.prog 139 #[.int .u8 a0] w fun e w' => e = .returned (.int .u8 r) ∧ Drawn0 w w' := by
  have H : (some (Go.bits .or .u8 a0 32)) = some r := h
  clear h
  obtain rfl := Option.some.inj H
  go_enter Tryz.func139, Tryz.ntmps139
  go_wp2
  go_ret
  exact ⟨by first | rfl | (simp; done) | (simp [*]; done), by repeat (first | exact Drawn0.refl _ | apply Drawn0.step)⟩

end Go.Proofs.YtmcppajgfhmpaaaGreatDoor.PrangeRefToCoordinates
