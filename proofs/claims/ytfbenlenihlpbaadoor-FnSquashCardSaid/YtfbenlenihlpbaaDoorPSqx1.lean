/- Contracts of functions that the text "Sq" uses: the call ends in what the plain Lean function says, where that says something. Written by a program of this session. No conditions. -/
import Derived.Test.YtfbenlenihlpbaaDoorPSqx0
namespace Go.Proofs.YtfbenlenihlpbaaDoor.PSq
open Go.RowKit Go.Proofs.YtfbenlenihlpbaaDoorW.PrintWords Go.Proofs.YtfbenlenihlpbaaDoorW.PrintLast Go.Proofs.YtfbenlenihlpbaaDoorW.PrintMore
attribute [local go_sem] max2_int min2_int max_two min_two max_three min_three max_four min_four   -- for this text's walks alone
set_option linter.unusedVariables false
set_option linter.unusedSimpArgs false

/-! ### laws_refRows: function 22 -/
def laws_refRows.l0 : Nat → List Int → List Int → Int → Int → Option (List Int)
  | 0, _, _, _, _ => none
  | k + 1, x0, x3, x4, x5 => if x5 < (x0.length : Int) then (if x5 < 25 then (if 0 ≤ x5 then ((Go.Proofs.YtfbenlenihlpbaaDoor.PgridNumber.laws_gridNumber.f (rd x0 x5) 3).bind fun t103 => (if x3.length < 17592186044416 then (laws_refRows.l0 k x0 (x3 ++ [wrap64 (x4 + t103)]) (wrap64 (x4 + t103)) (wrap64 (x5 + 1))) else (none))) else (none)) else (some x3)) else (some x3)
def laws_refRows.f (k : Nat) (l0 : List Int) : Option (List Int) := laws_refRows.l0 k l0 ([] : List Int) 0 0
theorem laws_refRows.mono_l : ∀ k, (∀ y0 y1 y2 y3, LeO (laws_refRows.l0 k y0 y1 y2 y3) (laws_refRows.l0 (k + 1) y0 y1 y2 y3))
  | 0 => fun _ _ _ _ r h => by simp [laws_refRows.l0] at h
  | k + 1 => by
    have ih0 := laws_refRows.mono_l k
    · intro y0 y1 y2 y3
      unfold laws_refRows.l0
      repeat' first
      | (with_reducible exact ih0 _ _ _ _)
      | (with_reducible exact LeO.refl _)
      | (with_reducible exact LeO.none _)
      | (with_reducible refine LeO.ite ?_ ?_)
      | (with_reducible refine LeO.bind ?_ (fun _ => ?_))
      | exact ih0 _ _ _ _
      | exact LeO.none _
      | refine LeO.ite ?_ ?_
      | refine LeO.bind ?_ (fun _ => ?_)
theorem laws_refRows.mono : ∀ a0 k, LeO (laws_refRows.f k a0) (laws_refRows.f (k + 1) a0) := by
  intro a0 k
  have ih0 := laws_refRows.mono_l k
  unfold laws_refRows.f
  repeat' first
      | (with_reducible exact ih0 _ _ _ _)
      | (with_reducible exact LeO.refl _)
      | (with_reducible exact LeO.none _)
      | (with_reducible refine LeO.ite ?_ ?_)
      | (with_reducible refine LeO.bind ?_ (fun _ => ?_))
      | exact ih0 _ _ _ _
      | exact LeO.none _
      | refine LeO.ite ?_ ?_
      | refine LeO.bind ?_ (fun _ => ?_)
set_option maxHeartbeats 8000000 in
set_option maxRecDepth 100000 in
theorem laws_refRows.calls (k : Nat) (A0 : Option Addr) (c0 : Nat) (l0 : List Int) (r : List Int) (w : World) (hr0 : Kd.C (Kd.int .i64) w A0 l0.length l0) (hc0 : l0.length ≤ c0) (h : laws_refRows.f k l0 = some r) :
    Calls Tryd.prog 22 #[.slice A0 l0.length c0] w fun e w' => ∃ v0_ : Value, e = .returned (v0_) ∧ Kd.R (Kd.int .i64) 3 w' w.heap.size (fun _ => True) v0_ r ∧ Below w.heap.size w w' := by
  have HR0 := Aside0.mk hr0
  have HC0 := Aside0.mk hc0
  clear hr0 hc0
  have HB := Aside0.mk (Below.refl w.heap.size w)
  have H : (laws_refRows.l0 k l0 ([] : List Int) 0 0) = some r := h
  clear h
  have H' := Aside0.mk H
  clear H
  go_enter Tryd.func22, Tryd.ntmps22
  go_wp2
  go_loopg [3, 4, 5] k (fun kq v3 v4 v5 w' => ∃ (x3_1 : List Int) (x4_1 : Int) (x5_1 : Int), v4 = .int .i64 x4_1 ∧ v5 = .int .i64 x5_1 ∧ Aside0 (laws_refRows.l0 kq l0 x3_1 x4_1 x5_1 = some r) ∧ Aside0 (kq ≤ k) ∧ Aside0 (Kd.R (Kd.int .i64) 3 w' w.heap.size (fun _ => True) v3 x3_1) ∧ Aside0 (Below w.heap.size w w'))
  case atStart => exact ⟨(([] : List Int)), (0), (0), (by first | rfl | (simp; done) | (simp [*]; done)), (by first | rfl | (simp; done) | (simp [*]; done)), H', ⟨Nat.le_refl _⟩, ⟨by first | exact Kd.R_nil _ _ _ _ _ | exact Kd.N_nil _ _ _ _ _ | exact Kd.V_nil _ _ _ _ _ | exact Kd.Q_nil _ _ _ _ _ | exact Kd.S_nil _ _ _ _ _⟩, ⟨by repeat (first | (with_reducible first | exact HB.out | apply below_alloc | apply pw_below_drewN | apply below_drew1) | exact HB.out)⟩⟩
  case round =>
    clear H'
    obtain ⟨x3_1, x4_1, x5_1, rfl, rfl, HA, HK1, HO_3, HB⟩ := hrel
    cases gk with
    | zero => exact absurd HA.out (by simp [laws_refRows.l0])
    | succ k1 =>
      have H := HA.out
      clear HA
      simp only [laws_refRows.l0] at H
      by_cases c2 : x5_1 < (l0.length : Int)
      · rw [if_pos c2] at H
        have c2b0 : decide (x5_1 < (l0.length : Int)) = true := decide_eq_true c2
        clear c2
        by_cases c3 : x5_1 < 25
        · rw [if_pos c3] at H
          have c3b0 : decide (x5_1 < 25) = true := decide_eq_true c3
          clear c3
          by_cases c4 : 0 ≤ x5_1
          · rw [if_pos c4] at H
            have c4b0 : decide (0 ≤ x5_1) = true := decide_eq_true c4
            clear c4
            replace H := Option.bind_eq_some_iff.mp H
            obtain ⟨t103, A50, H⟩ := H
            replace H : (if x3_1.length < 17592186044416 then (laws_refRows.l0 k1 l0 (x3_1 ++ [wrap64 (x4_1 + t103)]) (wrap64 (x4_1 + t103)) (wrap64 (x5_1 + 1))) else (none)) = some r := H
            have A5 := Aside0.mk A50
            clear A50
            by_cases c6 : x3_1.length < 17592186044416
            · rw [if_pos c6] at H
              have LMc6 := Aside0.mk c6
              clear c6
              obtain ⟨y104, hy104⟩ : ∃ y_ : List Int, y_ = (x3_1 ++ [wrap64 (x4_1 + t103)]) := ⟨_, rfl⟩
              replace H : (laws_refRows.l0 k1 l0 y104 (wrap64 (x4_1 + t103)) (wrap64 (x5_1 + 1))) = some r := by first | (rw [hy104]; with_reducible exact H) | (have H2_ := (Option.bind_some _ _).symm.trans H; rw [hy104]; with_reducible exact H2_) | (have H2_ := (Option.bind_some _ _).symm.trans H; with_reducible exact H2_) | with_reducible exact H | (rw [hy104]; exact H) | exact H
              have Ny104 := Aside0.mk hy104
              clear hy104
              have H' := Aside0.mk H
              clear H
              have p102 : 0 ≤ (x5_1 : Int) := of_decide_eq_true (by first | (with_reducible assumption) | assumption)
              have q102 : x5_1 < (l0.length : Int) := of_decide_eq_true (by first | (with_reducible assumption) | assumption)
              obtain ⟨ad102, e102, hx102_0⟩ := Kd.at_int HR0.out x5_1 p102 q102
              cases e102
              replace hx102_0 := (HB.out.cell (World.block_lt_of_cell? w _ hx102_0)).trans hx102_0
              replace p102 := eq_true p102
              replace q102 := eq_true q102
              go_wp2_with (first | ((with_reducible refine gate_callee (f := 19) rfl ?_); refine goesL_ (some 21) rfl rfl Tryd.func19 (by kernel_rfl) rfl #[.int .i64 (rd l0 x5_1), .int .i64 3] rfl (by (try simp only [List.map_toArray, List.map_cons, List.map_nil]); first | done | rfl | (simp only [List.length_drop, List.length_take]; rfl)) ?_; (with_reducible refine (Go.Proofs.YtfbenlenihlpbaaDoor.PgridNumber.laws_gridNumber.calls (rd l0 x5_1) 3 t103 _ A5.out).mono ?_); rintro e w' ⟨rfl, ⟨nd, rfl⟩⟩; refine ⟨_, rfl, ?_⟩) | ((with_reducible refine gate_builtin (b := .append) (xs := #[.tmp 23, .tmp 25]) rfl ?_); at_builtin; refine Kd.R_append (Kd.int .i64) (w0 := w) w.heap.size rfl (.tmp 23) (.tmp 25) 26 3 (.int .i64 0) 8 rfl Tryd.underlying26 info3 rfl (by decide) (by omega) u3 x3_1 (wrap64 (x4_1 + t103)) [.int .i64 (wrap64 (x4_1 + t103))] (fun _ => True) (fun _ => False) rfl rfl ?aP (fun _ hk => hk.elim) ?aF ?aO ?aB ?aS ?aL ?_; (case aP => exact rfl); (case aB => exact (by repeat (first | (with_reducible first | exact HB.out | apply below_alloc | apply pw_below_drewN | apply below_drew1) | exact HB.out))); (case aF => exact (fun _ _ => trivial)); (case aO => exact (by (with_reducible repeat (first | apply Kd.R_alloc | apply Kd.R_drewN | apply Kd.R_drew)); exact HO_3.out)); (case aS => exact (below_size (by repeat (first | (with_reducible first | exact HB.out | apply below_alloc | apply pw_below_drewN | apply below_drew1) | exact HB.out)))); (case aL => have := LMc6.out; omega); intro v105 w7 ho hb hg hat; rw [← Ny104.out] at ho; have n0_ := Aside0.mk (hb); have n1_ := Aside0.mk (ho); clear HB; clear HO_3; have HB := n0_; have HO106 := n1_; clear n0_ n1_; clear ho hb hg hat))
              go_roundg k1
              case measure => have := HK1.out; omega
              case rel => exact ⟨(y104), (wrap64 (x4_1 + t103)), (wrap64 (x5_1 + 1)), (by first | rfl | (simp; done) | (simp [*]; done)), (by first | rfl | (simp; done) | (simp [*]; done)), H', ⟨by have := HK1.out; omega⟩, ⟨by (with_reducible repeat (first | apply Kd.R_alloc | apply Kd.R_drewN | apply Kd.R_drew)); exact HO106.out⟩, ⟨by repeat (first | (with_reducible first | exact HB.out | apply below_alloc | apply pw_below_drewN | apply below_drew1) | exact HB.out)⟩⟩
            · rw [if_neg c6] at H
              exact absurd H (by simp)
          · rw [if_neg c4] at H
            exact absurd H (by simp)
        · rw [if_neg c3] at H
          have c3b0 : decide (x5_1 < 25) = false := decide_eq_false c3
          clear c3
          obtain rfl := Option.some.inj H
          go_wp2
          go_ret
          exact ⟨_, by first | rfl | (simp [errW_none, errW_some] <;> rfl) | (simp [*, errW_none, errW_some] <;> rfl), by (with_reducible repeat (first | apply Kd.R_alloc | apply Kd.R_drewN | apply Kd.R_drew)); exact HO_3.out, by repeat (first | (with_reducible first | exact HB.out | apply below_alloc | apply pw_below_drewN | apply below_drew1) | exact HB.out)⟩
      · rw [if_neg c2] at H
        have c2b0 : decide (x5_1 < (l0.length : Int)) = false := decide_eq_false c2
        clear c2
        obtain rfl := Option.some.inj H
        go_wp2
        go_ret
        exact ⟨_, by first | rfl | (simp [errW_none, errW_some] <;> rfl) | (simp [*, errW_none, errW_some] <;> rfl), by (with_reducible repeat (first | apply Kd.R_alloc | apply Kd.R_drewN | apply Kd.R_drew)); exact HO_3.out, by repeat (first | (with_reducible first | exact HB.out | apply below_alloc | apply pw_below_drewN | apply below_drew1) | exact HB.out)⟩

/-! ### excelize_zzColumnName: function 104 -/
mutual
def excelize_zzColumnName.l0 : Nat → Int → Int → Int → Option (ByteArray)
  | 0, _, _, _ => none
  | k + 1, x0, x3, x4 => if x4 > 0 then (excelize_zzColumnName.l0 k x0 (wrap64 (x3 + 1)) (wrap64 (Int.tdiv (wrap64 (x4 - 1)) 26))) else (if 0 ≤ x3 then (if (x3 : Int).toNat ≤ 281474976710656 then (excelize_zzColumnName.l1 k x0 x3 (List.replicate (x3 : Int).toNat 0)) else (none)) else (none))
def excelize_zzColumnName.l1 : Nat → Int → Int → List Int → Option (ByteArray)
  | 0, _, _, _ => none
  | k + 1, x0, x3, x5 => if x0 > 0 then (if 0 ≤ (wrap64 (x3 - 1)) then (if (wrap64 (x3 - 1)) < (x5.length : Int) then (excelize_zzColumnName.l1 k (wrap64 (Int.tdiv (wrap64 (x0 - 1)) 26)) (wrap64 (x3 - 1)) (x5.set ((wrap64 (x3 - 1)) : Int).toNat ((wrap64 ((Int.tmod (wrap64 (x0 - 1)) 26) + 65)) % 256))) else (none)) else (none)) else (some (strOfNums x5))
end
def excelize_zzColumnName.f (k : Nat) (a0 : Int) : Option (ByteArray) := excelize_zzColumnName.l0 k a0 0 a0
theorem excelize_zzColumnName.mono_l : ∀ k, (∀ y0 y1 y2, LeO (excelize_zzColumnName.l0 k y0 y1 y2) (excelize_zzColumnName.l0 (k + 1) y0 y1 y2)) ∧ (∀ y0 y1 y2, LeO (excelize_zzColumnName.l1 k y0 y1 y2) (excelize_zzColumnName.l1 (k + 1) y0 y1 y2))
  | 0 => ⟨fun _ _ _ r h => by simp [excelize_zzColumnName.l0] at h, fun _ _ _ r h => by simp [excelize_zzColumnName.l1] at h⟩
  | k + 1 => by
    obtain ⟨ih0, ih1⟩ := excelize_zzColumnName.mono_l k
    refine ⟨?_, ?_⟩
    · intro y0 y1 y2
      unfold excelize_zzColumnName.l0
      repeat' first
      | (with_reducible exact ih0 _ _ _)
      | (with_reducible exact ih1 _ _ _)
      | (with_reducible exact LeO.refl _)
      | (with_reducible exact LeO.none _)
      | (with_reducible refine LeO.ite ?_ ?_)
      | (with_reducible refine LeO.bind ?_ (fun _ => ?_))
      | exact ih0 _ _ _
      | exact ih1 _ _ _
      | exact LeO.none _
      | refine LeO.ite ?_ ?_
      | refine LeO.bind ?_ (fun _ => ?_)
    · intro y0 y1 y2
      unfold excelize_zzColumnName.l1
      repeat' first
      | (with_reducible exact ih0 _ _ _)
      | (with_reducible exact ih1 _ _ _)
      | (with_reducible exact LeO.refl _)
      | (with_reducible exact LeO.none _)
      | (with_reducible refine LeO.ite ?_ ?_)
      | (with_reducible refine LeO.bind ?_ (fun _ => ?_))
      | exact ih0 _ _ _
      | exact ih1 _ _ _
      | exact LeO.none _
      | refine LeO.ite ?_ ?_
      | refine LeO.bind ?_ (fun _ => ?_)
theorem excelize_zzColumnName.mono : ∀ a0 k, LeO (excelize_zzColumnName.f k a0) (excelize_zzColumnName.f (k + 1) a0) := by
  intro a0 k
  obtain ⟨ih0, ih1⟩ := excelize_zzColumnName.mono_l k
  unfold excelize_zzColumnName.f
  repeat' first
      | (with_reducible exact ih0 _ _ _)
      | (with_reducible exact ih1 _ _ _)
      | (with_reducible exact LeO.refl _)
      | (with_reducible exact LeO.none _)
      | (with_reducible refine LeO.ite ?_ ?_)
      | (with_reducible refine LeO.bind ?_ (fun _ => ?_))
      | exact ih0 _ _ _
      | exact ih1 _ _ _
      | exact LeO.none _
      | refine LeO.ite ?_ ?_
      | refine LeO.bind ?_ (fun _ => ?_)
set_option maxHeartbeats 8000000 in
set_option maxRecDepth 100000 in
theorem excelize_zzColumnName.calls (k : Nat) (a0 : Int) (r : ByteArray) (w : World) (h : excelize_zzColumnName.f k a0 = some r) :
    Calls Tryd.prog 104 #[.int .i64 a0] w fun e w' => e = .returned (.string r) ∧ Below w.heap.size w w' := by
  have HB := Aside0.mk (Below.refl w.heap.size w)
  have H : (excelize_zzColumnName.l0 k a0 0 a0) = some r := h
  clear h
  have H' := Aside0.mk H
  clear H
  go_enter Tryd.func104, Tryd.ntmps104
  go_wp2
  go_loopg [3, 4] k (fun kq v3 v4 w' => ∃ (x3_1 : Int) (x4_1 : Int), v3 = .int .i64 x3_1 ∧ v4 = .int .i64 x4_1 ∧ Aside0 (excelize_zzColumnName.l0 kq a0 x3_1 x4_1 = some r) ∧ Aside0 (kq ≤ k) ∧ Aside0 (Below w.heap.size w w'))
  case atStart => exact ⟨(0), (a0), (by first | rfl | (simp; done) | (simp [*]; done)), (by first | rfl | (simp; done) | (simp [*]; done)), H', ⟨Nat.le_refl _⟩, ⟨by repeat (first | (with_reducible first | exact HB.out | apply below_alloc | apply pw_below_drewN | apply below_drew1) | exact HB.out)⟩⟩
  case round =>
    clear H'
    try clear c1
    obtain ⟨x3_1, x4_1, rfl, rfl, HA, HK1, HB⟩ := hrel
    cases gk with
    | zero => exact absurd HA.out (by simp [excelize_zzColumnName.l0])
    | succ k1 =>
      have H := HA.out
      clear HA
      simp only [excelize_zzColumnName.l0] at H
      by_cases c2 : x4_1 > 0
      · rw [if_pos c2] at H
        have c2b0 : decide (0 < x4_1) = true := decide_eq_true c2
        clear c2
        have H' := Aside0.mk H
        clear H
        go_wp2
        go_roundg k1
        case measure => have := HK1.out; omega
        case rel => exact ⟨(wrap64 (x3_1 + 1)), (wrap64 (Int.tdiv (wrap64 (x4_1 - 1)) 26)), (by first | rfl | (simp; done) | (simp [*]; done)), (by first | rfl | (simp; done) | (simp [*]; done)), H', ⟨by have := HK1.out; omega⟩, ⟨by repeat (first | (with_reducible first | exact HB.out | apply below_alloc | apply pw_below_drewN | apply below_drew1) | exact HB.out)⟩⟩
      · rw [if_neg c2] at H
        have c2b0 : decide (0 < x4_1) = false := decide_eq_false c2
        clear c2
        by_cases c3 : 0 ≤ x3_1
        · rw [if_pos c3] at H
          have c3b0 := eq_true c3
          have c3b1 : decide (0 ≤ x3_1) = true := decide_eq_true c3
          clear c3
          by_cases c4 : (x3_1 : Int).toNat ≤ 281474976710656
          · rw [if_pos c4] at H
            have c4b0 := eq_true c4
            have c4b1 : decide ((x3_1 : Int).toNat ≤ 281474976710656) = true := decide_eq_true c4
            clear c4
            obtain ⟨y107, hy107⟩ : ∃ y_ : List Int, y_ = (List.replicate (x3_1 : Int).toNat 0) := ⟨_, rfl⟩
            replace H : (excelize_zzColumnName.l1 k1 a0 x3_1 y107) = some r := by first | (rw [hy107]; with_reducible exact H) | (have H2_ := (Option.bind_some _ _).symm.trans H; rw [hy107]; with_reducible exact H2_) | (have H2_ := (Option.bind_some _ _).symm.trans H; with_reducible exact H2_) | with_reducible exact H | (rw [hy107]; exact H) | exact H
            have Ny107 := Aside0.mk hy107
            clear hy107
            have H' := Aside0.mk H
            clear H
            go_wp2_with (first | ((with_reducible refine gate_dst (N := 15) rfl ?_); refine Kd.R_make (Kd.int .u8) _ 5 rfl (N := 15) rfl 65 _ _ rfl x3_1 rfl rfl Tryd.underlying65 (.int .u8 0) 1 info5 rfl (by decide) (by omega) 0 (ok := fun _ => True) (okp := fun _ => True) rfl (fun _ hk => hk) trivial (of_decide_eq_true (by first | (with_reducible assumption) | assumption)) (Nat.le_trans (Nat.mul_le_mul_right _ (of_decide_eq_true (by first | (with_reducible assumption) | assumption) : x3_1.toNat ≤ 281474976710656)) (by omega)) (Below.refl _ _) (Nat.le_refl _) ?_; intro v108 w5 ho6 hb hg_ hnew_; clear hg_ hnew_; (first | rw [← Ny107.out] at ho6 | (simp only [Int.reduceToNat] at ho6; rw [← Ny107.out] at ho6)); have n0_ := Aside0.mk (Kd.R_lower ho6 (below_size (by repeat (first | (with_reducible first | exact HB.out | apply below_alloc | apply pw_below_drewN | apply below_drew1) | exact HB.out)))); have n1_ := Aside0.mk (below_step (by repeat (first | (with_reducible first | exact HB.out | apply below_alloc | apply pw_below_drewN | apply below_drew1) | exact HB.out)) hb); clear HB; have HO109 := n0_; have HB := n1_; clear n0_ n1_; clear hb ho6))
            go_loopg [0, 3] k1 (fun kq v0 v3 w' => ∃ (x0_2 : Int) (x3_2 : Int) (x5_2 : List Int), v0 = .int .i64 x0_2 ∧ v3 = .int .i64 x3_2 ∧ Aside0 (excelize_zzColumnName.l1 kq x0_2 x3_2 x5_2 = some r) ∧ Aside0 (kq ≤ k1) ∧ Aside0 (Kd.R (Kd.int .u8) 5 w' w.heap.size (fun _ => True) v108 x5_2) ∧ Aside0 (Below w.heap.size w w'))
            case atStart => exact ⟨(a0), (x3_1), (y107), (by first | rfl | (simp; done) | (simp [*]; done)), (by first | rfl | (simp; done) | (simp [*]; done)), H', ⟨Nat.le_refl _⟩, ⟨by (with_reducible repeat (first | apply Kd.R_alloc | apply Kd.R_drewN | apply Kd.R_drew)); exact HO109.out⟩, ⟨by repeat (first | (with_reducible first | exact HB.out | apply below_alloc | apply pw_below_drewN | apply below_drew1) | exact HB.out)⟩⟩
            case round =>
              clear H'
              try clear c1
              try clear c2
              try clear c2b0
              try clear p2
              try clear c3
              try clear c3b0
              try clear c3b1
              try clear c4
              try clear c4b0
              try clear c4b1
              try clear p6
              obtain ⟨x0_2, x3_2, x5_2, rfl, rfl, HA, HK2, HO_5, HB⟩ := hrel
              cases gk with
              | zero => exact absurd HA.out (by simp [excelize_zzColumnName.l1])
              | succ k2 =>
                have H := HA.out
                clear HA
                simp only [excelize_zzColumnName.l1] at H
                by_cases c7 : x0_2 > 0
                · rw [if_pos c7] at H
                  have c7b0 : decide (0 < x0_2) = true := decide_eq_true c7
                  clear c7
                  obtain ⟨ji8, hji8⟩ : ∃ j_ : Int, (wrap64 (x3_2 - 1)) = j_ := ⟨_, rfl⟩
                  replace H : (if 0 ≤ (ji8) then (if (ji8) < (x5_2.length : Int) then (excelize_zzColumnName.l1 k2 (wrap64 (Int.tdiv (wrap64 (x0_2 - 1)) 26)) ji8 (x5_2.set ((ji8) : Int).toNat ((wrap64 ((Int.tmod (wrap64 (x0_2 - 1)) 26) + 65)) % 256))) else (none)) else (none)) = some r := by first | (rw [hji8] at H; exact H) | (simp only [hji8] at H ⊢; exact H)
                  have hji8w : (IntKind.i64.wrap (x3_2 - 1)) = ji8 := (i64_w _).trans hji8
                  by_cases c9 : 0 ≤ (ji8)
                  · rw [if_pos c9] at H
                    have c9b0 : decide (0 ≤ (ji8)) = true := decide_eq_true c9
                    clear c9
                    by_cases c10 : (ji8) < (x5_2.length : Int)
                    · rw [if_pos c10] at H
                      have c10b0 : decide ((ji8) < (x5_2.length : Int)) = true := decide_eq_true c10
                      clear c10
                      obtain ⟨y110, hy110⟩ : ∃ y_ : List Int, y_ = (x5_2.set ((ji8) : Int).toNat ((wrap64 ((Int.tmod (wrap64 (x0_2 - 1)) 26) + 65)) % 256)) := ⟨_, rfl⟩
                      replace H : (excelize_zzColumnName.l1 k2 (wrap64 (Int.tdiv (wrap64 (x0_2 - 1)) 26)) ji8 y110) = some r := by first | (rw [hy110]; with_reducible exact H) | (have H2_ := (Option.bind_some _ _).symm.trans H; rw [hy110]; with_reducible exact H2_) | (have H2_ := (Option.bind_some _ _).symm.trans H; with_reducible exact H2_) | with_reducible exact H | (rw [hy110]; exact H) | exact H
                      have Ny110 := Aside0.mk hy110
                      clear hy110
                      have H' := Aside0.mk H
                      clear H
                      have p11 : 0 ≤ ((ji8) : Int) := of_decide_eq_true (by first | (with_reducible assumption) | assumption)
                      have q11 : ((ji8) : Int) < ((x5_2.length : Int) : Int) := of_decide_eq_true (by first | (with_reducible assumption) | assumption)
                      obtain ⟨go11, co11, eo11, gb11, gl11, cl11, HG11⟩ := Kd.R_form HO_5.out (by omega)
                      (first | cases eo11 | (injection eo11 with ea_ en_ ec_; (first | subst ea_ | (injection ea_ with ea_; subst ea_)); subst ec_; clear en_))
                      have GB11 := Aside0.mk gb11
                      have GG11 := Aside0.mk HG11
                      clear gb11 gl11 HG11
                      obtain ⟨hx11_0, hf11_0⟩ := Kd.R_celln 0 HO_5.out ((ji8) : Int) p11 q11
                      replace p11 := eq_true p11
                      replace q11 := eq_true q11
                      have HP12 := Kd.R_putg HO_5.out ((ji8) : Int) ((wrap64 ((Int.tmod (wrap64 (x0_2 - 1)) 26) + 65)) % 256)
                      go_wp2_with (first | ((with_reducible refine gate_store (t := 5) (p := 27) rfl ?_); refine store_event (t := 5) (p := 27) (v := ?vo_w13) (w1 := (wr.setCell ⟨go11, ((ji8) : Int).toNat, none⟩ (.int .u8 ((wrap64 ((Int.tmod (wrap64 (x0_2 - 1)) 26) + 65)) % 256)))) ?hg ?ho ?hn ?hr ?_; (case ho => rfl); (case hg => rfl); (case hn => rfl); (case hr => first | (go_simp; done) | (go_simp; rfl)); intro w13 hw; have hg : wr.grownBy w13 (some go11) := (by rw [hw]; exact HP12.2); have hp_ : Kd.R (Kd.int .u8) 5 w13 w.heap.size (fun _ => True) (.slice (some ⟨go11, 0, none⟩) x5_2.length co11) y110 := (by rw [hw, Ny110.out]; exact HP12.1); clear HP12; have n0_ := Aside0.mk (hp_); have n1_ := Aside0.mk ((by rw [hw]; exact below_set (HB.out) GB11.out : Below w.heap.size w w13)); clear HO_5; clear HB; have HO_5 := n0_; have HB := n1_; clear n0_ n1_; clear hg hw hp_))
                      go_roundg k2
                      case measure => have := HK1.out; have := HK2.out; omega
                      case rel => exact ⟨(wrap64 (Int.tdiv (wrap64 (x0_2 - 1)) 26)), (ji8), (y110), (by first | rfl | (simp; done) | (simp [*]; done)), (by first | rfl | (simp; done) | (simp only [← hji8] <;> (first | rfl | simp)) | (simp [*]; done)), H', ⟨by have := HK1.out; have := HK2.out; omega⟩, ⟨by (with_reducible repeat (first | apply Kd.R_alloc | apply Kd.R_drewN | apply Kd.R_drew)); exact HO_5.out⟩, ⟨by repeat (first | (with_reducible first | exact HB.out | apply below_alloc | apply pw_below_drewN | apply below_drew1) | exact HB.out)⟩⟩
                    · rw [if_neg c10] at H
                      exact absurd H (by simp)
                  · rw [if_neg c9] at H
                    exact absurd H (by simp)
                · rw [if_neg c7] at H
                  have c7b0 : decide (0 < x0_2) = false := decide_eq_false c7
                  clear c7
                  obtain rfl := Option.some.inj H
                  have hcv14 := own_string (P := Tryd.prog) Tryd.underlying65 Tryd.underlying5 Tryd.underlying9 (Kd.own_of_R HO_5.out)
                  go_wp2
                  go_ret
                  exact ⟨by first | rfl | (simp [errW_none, errW_some] <;> rfl) | (simp [*, errW_none, errW_some] <;> rfl), by repeat (first | (with_reducible first | exact HB.out | apply below_alloc | apply pw_below_drewN | apply below_drew1) | exact HB.out)⟩
          · rw [if_neg c4] at H
            exact absurd H (by simp)
        · rw [if_neg c3] at H
          exact absurd H (by simp)

/-! ### excelize_ColumnNumberToName: function 89 -/
def excelize_ColumnNumberToName.f (k : Nat) (a0 : Int) : Option (ByteArray × Option Int) := if a0 < 1 then (none) else (if a0 > 16384 then (none) else ((excelize_zzColumnName.f k a0).bind fun t111 => (some (t111, none))))
theorem excelize_ColumnNumberToName.mono : ∀ a0 k, LeO (excelize_ColumnNumberToName.f k a0) (excelize_ColumnNumberToName.f (k + 1) a0) := by
  intro a0 k
  unfold excelize_ColumnNumberToName.f
  repeat' first
      | (with_reducible exact excelize_zzColumnName.mono _ _)
      | (with_reducible exact LeO.refl _)
      | (with_reducible exact LeO.none _)
      | (with_reducible refine LeO.ite ?_ ?_)
      | (with_reducible refine LeO.bind ?_ (fun _ => ?_))
      | exact excelize_zzColumnName.mono _ _
      | exact LeO.none _
      | refine LeO.ite ?_ ?_
      | refine LeO.bind ?_ (fun _ => ?_)
set_option maxHeartbeats 8000000 in
set_option maxRecDepth 100000 in
theorem excelize_ColumnNumberToName.calls (k : Nat) (a0 : Int) (r1 : ByteArray) (r2 : Option Int) (w : World) (h : excelize_ColumnNumberToName.f k a0 = some (r1, r2)) :
    Calls Tryd.prog 89 #[.int .i64 a0] w fun e w' => e = .returned (.tuple #[.string r1, errW r2]) ∧ Below w.heap.size w w' := by
  have HB := Aside0.mk (Below.refl w.heap.size w)
  have H : (if a0 < 1 then (none) else (if a0 > 16384 then (none) else ((excelize_zzColumnName.f k a0).bind fun t111 => (some (t111, none))))) = some (r1, r2) := h
  clear h
  by_cases c2 : a0 < 1
  · rw [if_pos c2] at H
    exact absurd H (by simp)
  · rw [if_neg c2] at H
    have c2b0 : decide (a0 < 1) = false := decide_eq_false c2
    clear c2
    by_cases c3 : a0 > 16384
    · rw [if_pos c3] at H
      exact absurd H (by simp)
    · rw [if_neg c3] at H
      have c3b0 : decide (16384 < a0) = false := decide_eq_false c3
      clear c3
      replace H := Option.bind_eq_some_iff.mp H
      obtain ⟨t111, A40, H⟩ := H
      replace H : (some (t111, none)) = some (r1, r2) := H
      have A4 := Aside0.mk A40
      clear A40
      simp only [Option.some.injEq, Prod.mk.injEq] at H
      obtain ⟨rfl, rfl⟩ := H
      go_enter Tryd.func89, Tryd.ntmps89
      go_wp2_with (first | (go_at_call 104; (with_reducible refine (excelize_zzColumnName.calls k a0 t111 _ A4.out).mono ?_); rintro e w5 ⟨rfl, hb⟩; have n0_ := Aside0.mk (below_step (by repeat (first | (with_reducible first | exact HB.out | apply below_alloc | apply pw_below_drewN | apply below_drew1) | exact HB.out)) hb); clear HB; have HB := n0_; clear n0_; (try clear hb); (try clear hb2); (try clear hk); (try clear hi)))
      repeat (go_quiet (first | (go_at_call 104; (with_reducible refine (excelize_zzColumnName.calls k a0 t111 _ A4.out).mono ?_); rintro e w5 ⟨rfl, hb⟩; have n0_ := Aside0.mk (below_step (by repeat (first | (with_reducible first | exact HB.out | apply below_alloc | apply pw_below_drewN | apply below_drew1) | exact HB.out)) hb); clear HB; have HB := n0_; clear n0_; (try clear hb); (try clear hb2); (try clear hk); (try clear hi))); try go_wp2_with (first | (go_at_call 104; (with_reducible refine (excelize_zzColumnName.calls k a0 t111 _ A4.out).mono ?_); rintro e w5 ⟨rfl, hb⟩; have n0_ := Aside0.mk (below_step (by repeat (first | (with_reducible first | exact HB.out | apply below_alloc | apply pw_below_drewN | apply below_drew1) | exact HB.out)) hb); clear HB; have HB := n0_; clear n0_; (try clear hb); (try clear hb2); (try clear hk); (try clear hi))))
      go_ret2
      exact ⟨by first | rfl | (simp [errW_none, errW_some] <;> rfl) | (simp [*, errW_none, errW_some] <;> rfl), by repeat (first | (with_reducible first | exact HB.out | apply below_alloc | apply pw_below_drewN | apply below_drew1) | exact HB.out)⟩

/-! ### excelize_CoordinatesToCellName: function 71 -/
mutual
def excelize_CoordinatesToCellName.j0 : Nat → Int → Int → List Bool → Bool → Option (ByteArray × Option Int)
  | 0, _, _, _, _ => none
  | k + 1, x0, x1, x2, x17 => if x17 = true then (none) else (if x1 > 1048576 then (none) else ((excelize_ColumnNumberToName.f k x0).bind fun bt112 => (if bt112.2.isNone = true then (excelize_CoordinatesToCellName.l0 k x1 bt112.1 x2 (x2.length : Int) 0) else (some ((⟨#[]⟩ : ByteArray), some (bt112.2.getD 0))))))
def excelize_CoordinatesToCellName.l0 : Nat → Int → ByteArray → List Bool → Int → Int → Option (ByteArray × Option Int)
  | 0, _, _, _, _, _ => none
  | k + 1, x1, x8, x32, x33, x34 => if x34 < x33 then (if 0 ≤ x34 then (if x34 < (x32.length : Int) then (if rdOf false x32 x34 = true then (none) else (excelize_CoordinatesToCellName.l0 k x1 x8 x32 x33 (wrap64 (x34 + 1)))) else (none)) else (none)) else ((Go.Proofs.YtfbenlenihlpbaaDoor.Given.strconv_Itoa.f x1).bind fun t116 => (if x8.size + t116.size ≤ 9223372036854775807 then (some (x8 ++ t116, none)) else (none)))
end
def excelize_CoordinatesToCellName.f (k : Nat) (a0 : Int) (a1 : Int) (l2 : List Bool) : Option (ByteArray × Option Int) := if a0 < 1 then (excelize_CoordinatesToCellName.j0 k a0 a1 l2 true) else (excelize_CoordinatesToCellName.j0 k a0 a1 l2 (decide (a1 < 1)))
theorem excelize_CoordinatesToCellName.mono_l : ∀ k, (∀ y0 y1 y2 y3, LeO (excelize_CoordinatesToCellName.j0 k y0 y1 y2 y3) (excelize_CoordinatesToCellName.j0 (k + 1) y0 y1 y2 y3)) ∧ (∀ y0 y1 y2 y3 y4, LeO (excelize_CoordinatesToCellName.l0 k y0 y1 y2 y3 y4) (excelize_CoordinatesToCellName.l0 (k + 1) y0 y1 y2 y3 y4))
  | 0 => ⟨fun _ _ _ _ r h => by simp [excelize_CoordinatesToCellName.j0] at h, fun _ _ _ _ _ r h => by simp [excelize_CoordinatesToCellName.l0] at h⟩
  | k + 1 => by
    obtain ⟨ih0, ih1⟩ := excelize_CoordinatesToCellName.mono_l k
    refine ⟨?_, ?_⟩
    · intro y0 y1 y2 y3
      unfold excelize_CoordinatesToCellName.j0
      repeat' first
      | (with_reducible exact ih0 _ _ _ _)
      | (with_reducible exact ih1 _ _ _ _ _)
      | (with_reducible exact excelize_ColumnNumberToName.mono _ _)
      | (with_reducible exact LeO.refl _)
      | (with_reducible exact LeO.none _)
      | (with_reducible refine LeO.ite ?_ ?_)
      | (with_reducible refine LeO.bind ?_ (fun _ => ?_))
      | exact ih0 _ _ _ _
      | exact ih1 _ _ _ _ _
      | exact excelize_ColumnNumberToName.mono _ _
      | exact LeO.none _
      | refine LeO.ite ?_ ?_
      | refine LeO.bind ?_ (fun _ => ?_)
    · intro y0 y1 y2 y3 y4
      unfold excelize_CoordinatesToCellName.l0
      repeat' first
      | (with_reducible exact ih0 _ _ _ _)
      | (with_reducible exact ih1 _ _ _ _ _)
      | (with_reducible exact excelize_ColumnNumberToName.mono _ _)
      | (with_reducible exact LeO.refl _)
      | (with_reducible exact LeO.none _)
      | (with_reducible refine LeO.ite ?_ ?_)
      | (with_reducible refine LeO.bind ?_ (fun _ => ?_))
      | exact ih0 _ _ _ _
      | exact ih1 _ _ _ _ _
      | exact excelize_ColumnNumberToName.mono _ _
      | exact LeO.none _
      | refine LeO.ite ?_ ?_
      | refine LeO.bind ?_ (fun _ => ?_)
theorem excelize_CoordinatesToCellName.mono : ∀ a0 a1 a2 k, LeO (excelize_CoordinatesToCellName.f k a0 a1 a2) (excelize_CoordinatesToCellName.f (k + 1) a0 a1 a2) := by
  intro a0 a1 a2 k
  obtain ⟨ih0, ih1⟩ := excelize_CoordinatesToCellName.mono_l k
  unfold excelize_CoordinatesToCellName.f
  repeat' first
      | (with_reducible exact ih0 _ _ _ _)
      | (with_reducible exact ih1 _ _ _ _ _)
      | (with_reducible exact excelize_ColumnNumberToName.mono _ _)
      | (with_reducible exact LeO.refl _)
      | (with_reducible exact LeO.none _)
      | (with_reducible refine LeO.ite ?_ ?_)
      | (with_reducible refine LeO.bind ?_ (fun _ => ?_))
      | exact ih0 _ _ _ _
      | exact ih1 _ _ _ _ _
      | exact excelize_ColumnNumberToName.mono _ _
      | exact LeO.none _
      | refine LeO.ite ?_ ?_
      | refine LeO.bind ?_ (fun _ => ?_)
set_option maxHeartbeats 8000000 in
set_option maxRecDepth 100000 in
theorem excelize_CoordinatesToCellName.calls (k : Nat) (a0 : Int) (a1 : Int) (A2 : Option Addr) (c2 : Nat) (l2 : List Bool) (r1 : ByteArray) (r2 : Option Int) (w : World) (hr2 : Kd.C Kd.bool w A2 l2.length l2) (hc2 : l2.length ≤ c2) (h : excelize_CoordinatesToCellName.f k a0 a1 l2 = some (r1, r2)) :
    Calls Tryd.prog 71 #[.int .i64 a0, .int .i64 a1, .slice A2 l2.length c2] w fun e w' => e = .returned (.tuple #[.string r1, errW r2]) ∧ Below w.heap.size w w' := by
  have hu74 := Tryd.underlying74
  have HR2 := Aside0.mk hr2
  have HC2 := Aside0.mk hc2
  clear hr2 hc2
  have HB := Aside0.mk (Below.refl w.heap.size w)
  have H : (if a0 < 1 then (excelize_CoordinatesToCellName.j0 k a0 a1 l2 true) else (excelize_CoordinatesToCellName.j0 k a0 a1 l2 (decide (a1 < 1)))) = some (r1, r2) := h
  clear h
  have HC4 := Aside0.mk H
  clear H
  go_enter Tryd.func71, Tryd.ntmps71
  go_upto_region 1 with (fail)
  repeat (go_quiet (fail); go_upto_region 1 with (fail))
  go_cut [17] (fun v17 wc => ∃ (kq : Nat) (x17_3 : Bool), v17 = .bool x17_3 ∧ Aside0 (excelize_CoordinatesToCellName.j0 kq a0 a1 l2 x17_3 = some (r1, r2)) ∧ Aside0 (kq ≤ k) ∧ Aside0 (Below w.heap.size w wc))
  case first =>
    have H := HC4.out
    clear HC4
    by_cases c5 : a0 < 1
    · rw [if_pos c5] at H
      have c5b0 : decide (a0 < 1) = true := decide_eq_true c5
      clear c5
      (first | rw [c5b0] | (simp only [i64_w, i32_w]; rw [c5b0]) | skip)
      have H' := Aside0.mk H
      clear H
      go_wp2
      repeat (go_quiet (fail); try go_wp2)
      go_meet
      case rel => exact ⟨_, (true), (by first | rfl | (simp; done) | (simp [*]; done)), H', ⟨by first | omega | exact Nat.le_refl _⟩, ⟨by repeat (first | (with_reducible first | exact HB.out | apply below_alloc | apply pw_below_drewN | apply below_drew1) | exact HB.out)⟩⟩
    · rw [if_neg c5] at H
      have c5b0 : decide (a0 < 1) = false := decide_eq_false c5
      clear c5
      (first | rw [c5b0] | (simp only [i64_w, i32_w]; rw [c5b0]) | skip)
      have H' := Aside0.mk H
      clear H
      go_wp2
      repeat (go_quiet (fail); try go_wp2)
      go_meet
      case rel => exact ⟨_, (decide (a1 < 1)), (by first | rfl | (simp; done) | (simp [*]; done)), H', ⟨by first | omega | exact Nat.le_refl _⟩, ⟨by repeat (first | (with_reducible first | exact HB.out | apply below_alloc | apply pw_below_drewN | apply below_drew1) | exact HB.out)⟩⟩
  case rest =>
    clear HC4
    try clear c2
    try clear p2
    try clear c5
    try clear c5b0
    obtain ⟨kq, x17_3, rfl, HA, HJ3, HB⟩ := hcut
    cases kq with
    | zero => exact absurd HA.out (by simp [excelize_CoordinatesToCellName.j0])
    | succ kj3 =>
      have H := HA.out
      clear HA
      simp only [excelize_CoordinatesToCellName.j0] at H
      by_cases c6 : x17_3 = true
      · subst c6
        have H1 : (none) = some (r1, r2) := by rw [if_pos rfl] at H; exact H
        clear H
        have H := H1
        clear H1
        exact absurd H (by simp)
      · replace c6 := Bool.eq_false_iff.mpr c6
        subst c6
        have H1 : (if a1 > 1048576 then (none) else ((excelize_ColumnNumberToName.f kj3 a0).bind fun bt112 => (if bt112.2.isNone = true then (excelize_CoordinatesToCellName.l0 kj3 a1 bt112.1 l2 (l2.length : Int) 0) else (some ((⟨#[]⟩ : ByteArray), some (bt112.2.getD 0)))))) = some (r1, r2) := by rw [if_neg (show ¬ (false = true) by decide)] at H; exact H
        clear H
        have H := H1
        clear H1
        by_cases c7 : a1 > 1048576
        · rw [if_pos c7] at H
          exact absurd H (by simp)
        · rw [if_neg c7] at H
          have c7b0 : decide (1048576 < a1) = false := decide_eq_false c7
          clear c7
          replace H := Option.bind_eq_some_iff.mp H
          obtain ⟨⟨t112, t113⟩, A80, H⟩ := H
          replace H : (if t113.isNone = true then (excelize_CoordinatesToCellName.l0 kj3 a1 t112 l2 (l2.length : Int) 0) else (some ((⟨#[]⟩ : ByteArray), some (t113.getD 0)))) = some (r1, r2) := H
          have A8 := Aside0.mk A80
          clear A80
          rcases t113 with _ | q114
          · have H1 : (excelize_CoordinatesToCellName.l0 kj3 a1 t112 l2 (l2.length : Int) 0) = some (r1, r2) := by rw [if_pos (show (none : Option Int).isNone = true by rfl)] at H; exact H
            clear H
            have H := H1
            clear H1
            try simp only [errW_none, errW_some]
            have H' := Aside0.mk H
            clear H
            go_wp2_with (first | (go_at_call 89; (with_reducible refine (excelize_ColumnNumberToName.calls kj3 a0 t112 none _ A8.out).mono ?_); rintro e w9 ⟨rfl, hb⟩; have n0_ := Aside0.mk (below_step (by repeat (first | (with_reducible first | exact HB.out | apply below_alloc | apply pw_below_drewN | apply below_drew1) | exact HB.out)) hb); clear HB; have HB := n0_; clear n0_; (try clear hb); (try clear hb2); (try clear hk); (try clear hi); (try simp only [errW_none, errW_some])))
            repeat (go_quiet (first | (go_at_call 89; (with_reducible refine (excelize_ColumnNumberToName.calls kj3 a0 t112 none _ A8.out).mono ?_); rintro e w9 ⟨rfl, hb⟩; have n0_ := Aside0.mk (below_step (by repeat (first | (with_reducible first | exact HB.out | apply below_alloc | apply pw_below_drewN | apply below_drew1) | exact HB.out)) hb); clear HB; have HB := n0_; clear n0_; (try clear hb); (try clear hb2); (try clear hk); (try clear hi); (try simp only [errW_none, errW_some]))); try go_wp2_with (first | (go_at_call 89; (with_reducible refine (excelize_ColumnNumberToName.calls kj3 a0 t112 none _ A8.out).mono ?_); rintro e w9 ⟨rfl, hb⟩; have n0_ := Aside0.mk (below_step (by repeat (first | (with_reducible first | exact HB.out | apply below_alloc | apply pw_below_drewN | apply below_drew1) | exact HB.out)) hb); clear HB; have HB := n0_; clear n0_; (try clear hb); (try clear hb2); (try clear hk); (try clear hi); (try simp only [errW_none, errW_some]))))
            go_loopg [34] kj3 (fun kq v34 w' => ∃ (x34_2 : Int), v34 = .int .i64 x34_2 ∧ Aside0 (excelize_CoordinatesToCellName.l0 kq a1 t112 l2 (l2.length : Int) x34_2 = some (r1, r2)) ∧ Aside0 (kq ≤ kj3) ∧ Aside0 (Below w.heap.size w w'))
            case atStart => exact ⟨(0), (by first | rfl | (simp; done) | (simp [*]; done)), H', ⟨Nat.le_refl _⟩, ⟨by repeat (first | (with_reducible first | exact HB.out | apply below_alloc | apply pw_below_drewN | apply below_drew1) | exact HB.out)⟩⟩
            case round =>
              clear H'
              try clear q1
              try clear c2
              try clear p2
              try clear c5
              try clear c5b0
              try clear c6
              try clear c7
              try clear c7b0
              try clear p2
              try clear q114
              obtain ⟨x34_2, rfl, HA, HK2, HB⟩ := hrel
              cases gk with
              | zero => exact absurd HA.out (by simp [excelize_CoordinatesToCellName.l0])
              | succ k2 =>
                have H := HA.out
                clear HA
                simp only [excelize_CoordinatesToCellName.l0] at H
                by_cases c10 : x34_2 < (l2.length : Int)
                · rw [if_pos c10] at H
                  have c10b0 : decide (x34_2 < (l2.length : Int)) = true := decide_eq_true c10
                  clear c10
                  by_cases c11 : 0 ≤ x34_2
                  · rw [if_pos c11] at H
                    have c11b0 : decide (0 ≤ x34_2) = true := decide_eq_true c11
                    clear c11
                    by_cases c12 : x34_2 < (l2.length : Int)
                    · rw [if_pos c12] at H
                      have c12b0 : decide (x34_2 < (l2.length : Int)) = true := decide_eq_true c12
                      clear c12
                      obtain ⟨bq13, hbq13⟩ : ∃ b_ : Bool, b_ = (rdOf false l2 x34_2) := ⟨_, rfl⟩
                      replace H : (if bq13 = true then (none) else (excelize_CoordinatesToCellName.l0 k2 a1 t112 l2 (l2.length : Int) (wrap64 (x34_2 + 1)))) = some (r1, r2) := by rw [← hbq13] at H; exact H
                      have Nbq13 := Aside0.mk hbq13
                      clear hbq13
                      by_cases c14 : bq13 = true
                      · subst c14
                        have H1 : (none) = some (r1, r2) := by rw [if_pos rfl] at H; exact H
                        clear H
                        have H := H1
                        clear H1
                        exact absurd H (by simp)
                      · replace c14 := Bool.eq_false_iff.mpr c14
                        subst c14
                        have H1 : (excelize_CoordinatesToCellName.l0 k2 a1 t112 l2 (l2.length : Int) (wrap64 (x34_2 + 1))) = some (r1, r2) := by rw [if_neg (show ¬ (false = true) by decide)] at H; exact H
                        clear H
                        have H := H1
                        clear H1
                        have H' := Aside0.mk H
                        clear H
                        have p115 : 0 ≤ (x34_2 : Int) := of_decide_eq_true (by first | (with_reducible assumption) | assumption)
                        have q115 : x34_2 < (l2.length : Int) := of_decide_eq_true (by first | (with_reducible assumption) | assumption)
                        obtain ⟨ad115, e115, hx115_0⟩ := Kd.at_bool HR2.out x34_2 p115 q115
                        (try rw [← Nbq13.out] at hx115_0)
                        cases e115
                        replace hx115_0 := (HB.out.cell (World.block_lt_of_cell? w _ hx115_0)).trans hx115_0
                        replace p115 := eq_true p115
                        replace q115 := eq_true q115
                        go_wp2
                        repeat (go_quiet (fail); try go_wp2)
                        go_roundg k2
                        case measure => have := HJ3.out; have := HK2.out; omega
                        case rel => exact ⟨(wrap64 (x34_2 + 1)), (by first | rfl | (simp; done) | (simp [*]; done)), H', ⟨by have := HJ3.out; have := HK2.out; omega⟩, ⟨by repeat (first | (with_reducible first | exact HB.out | apply below_alloc | apply pw_below_drewN | apply below_drew1) | exact HB.out)⟩⟩
                    · rw [if_neg c12] at H
                      exact absurd H (by simp)
                  · rw [if_neg c11] at H
                    exact absurd H (by simp)
                · rw [if_neg c10] at H
                  have c10b0 : decide (x34_2 < (l2.length : Int)) = false := decide_eq_false c10
                  clear c10
                  replace H := Option.bind_eq_some_iff.mp H
                  obtain ⟨t116, A150, H⟩ := H
                  replace H : (if t112.size + t116.size ≤ 9223372036854775807 then (some (t112 ++ t116, none)) else (none)) = some (r1, r2) := H
                  have A15 := Aside0.mk A150
                  clear A150
                  by_cases c16 : t112.size + t116.size ≤ 9223372036854775807
                  · rw [if_pos c16] at H
                    have c16b0 := eq_true c16
                    have c16b1 : decide (t112.size + t116.size ≤ 9223372036854775807) = true := decide_eq_true c16
                    try have c16b2 : (9223372036854775807 < t112.size + t116.size) = False := eq_false (Nat.not_lt.2 c16)
                    have c16z := c16
                    (try simp only [ByteArray.size_append, show ∀ x_ : UInt8, (⟨#[x_]⟩ : ByteArray).size = 1 from fun _ => rfl] at c16z)
                    simp only [Option.some.injEq, Prod.mk.injEq] at H
                    obtain ⟨rfl, rfl⟩ := H
                    go_wp2_with (first | (go_at_call 90; (with_reducible refine (Go.Proofs.YtfbenlenihlpbaaDoor.Given.strconv_Itoa.calls a1 t116 _ A15.out).mono ?_); rintro e w' ⟨rfl, ⟨nd, rfl⟩⟩; (try first | exact ⟨rfl, _, World.drewN_drewN _ _ _⟩ | exact ⟨rfl, _, Eq.trans (World.drewN_drewN _ _ _) (congrArg (World.drewN _) (Nat.add_assoc _ _ _))⟩)))
                    repeat (go_quiet (first | (go_at_call 90; (with_reducible refine (Go.Proofs.YtfbenlenihlpbaaDoor.Given.strconv_Itoa.calls a1 t116 _ A15.out).mono ?_); rintro e w' ⟨rfl, ⟨nd, rfl⟩⟩; (try first | exact ⟨rfl, _, World.drewN_drewN _ _ _⟩ | exact ⟨rfl, _, Eq.trans (World.drewN_drewN _ _ _) (congrArg (World.drewN _) (Nat.add_assoc _ _ _))⟩))); try go_wp2_with (first | (go_at_call 90; (with_reducible refine (Go.Proofs.YtfbenlenihlpbaaDoor.Given.strconv_Itoa.calls a1 t116 _ A15.out).mono ?_); rintro e w' ⟨rfl, ⟨nd, rfl⟩⟩; (try first | exact ⟨rfl, _, World.drewN_drewN _ _ _⟩ | exact ⟨rfl, _, Eq.trans (World.drewN_drewN _ _ _) (congrArg (World.drewN _) (Nat.add_assoc _ _ _))⟩))))
                    go_ret2
                    exact ⟨by first | rfl | (simp [errW_none, errW_some] <;> rfl) | (simp [*, errW_none, errW_some] <;> rfl), by repeat (first | (with_reducible first | exact HB.out | apply below_alloc | apply pw_below_drewN | apply below_drew1) | exact HB.out)⟩
                  · rw [if_neg c16] at H
                    exact absurd H (by simp)
          · have H1 : (some ((⟨#[]⟩ : ByteArray), some q114)) = some (r1, r2) := by rw [if_neg (show ¬ (some q114).isNone = true by simp)] at H; exact H
            clear H
            have H := H1
            clear H1
            try simp only [errW_none, errW_some]
            simp only [Option.some.injEq, Prod.mk.injEq] at H
            obtain ⟨rfl, rfl⟩ := H
            go_wp2_with (first | (go_at_call 89; (with_reducible refine (excelize_ColumnNumberToName.calls kj3 a0 t112 (some q114) _ A8.out).mono ?_); rintro e w17 ⟨rfl, hb⟩; have n0_ := Aside0.mk (below_step (by repeat (first | (with_reducible first | exact HB.out | apply below_alloc | apply pw_below_drewN | apply below_drew1) | exact HB.out)) hb); clear HB; have HB := n0_; clear n0_; (try clear hb); (try clear hb2); (try clear hk); (try clear hi); (try simp only [errW_none, errW_some])))
            repeat (go_quiet (first | (go_at_call 89; (with_reducible refine (excelize_ColumnNumberToName.calls kj3 a0 t112 (some q114) _ A8.out).mono ?_); rintro e w17 ⟨rfl, hb⟩; have n0_ := Aside0.mk (below_step (by repeat (first | (with_reducible first | exact HB.out | apply below_alloc | apply pw_below_drewN | apply below_drew1) | exact HB.out)) hb); clear HB; have HB := n0_; clear n0_; (try clear hb); (try clear hb2); (try clear hk); (try clear hi); (try simp only [errW_none, errW_some]))); try go_wp2_with (first | (go_at_call 89; (with_reducible refine (excelize_ColumnNumberToName.calls kj3 a0 t112 (some q114) _ A8.out).mono ?_); rintro e w17 ⟨rfl, hb⟩; have n0_ := Aside0.mk (below_step (by repeat (first | (with_reducible first | exact HB.out | apply below_alloc | apply pw_below_drewN | apply below_drew1) | exact HB.out)) hb); clear HB; have HB := n0_; clear n0_; (try clear hb); (try clear hb2); (try clear hk); (try clear hi); (try simp only [errW_none, errW_some]))))
            go_ret2
            exact ⟨by first | rfl | (simp [errW_none, errW_some] <;> rfl) | (simp [*, errW_none, errW_some] <;> rfl), by repeat (first | (with_reducible first | exact HB.out | apply below_alloc | apply pw_below_drewN | apply below_drew1) | exact HB.out)⟩

end Go.Proofs.YtfbenlenihlpbaaDoor.PSq
