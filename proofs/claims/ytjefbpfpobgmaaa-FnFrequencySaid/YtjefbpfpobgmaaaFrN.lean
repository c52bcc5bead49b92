/- FnFrequency, walks: a column of numbers from the reference's type into the thin package's. Conditions: the numbers' sizes. -/
import Derived.Test.YtjefbpfpobgmaaaFrM
namespace Go.Proofs.Ytjefbpfpobgmaaa.FrN
open Go.RowKit Go.Proofs.YtjefbpfpobgmaaaW.PrintWords Go.Proofs.YtjefbpfpobgmaaaW.PrintLast Go.Proofs.YtjefbpfpobgmaaaW.PrintMore Go.Proofs.Ytjefbpfpobgmaaa.FrA Go.Proofs.Ytjefbpfpobgmaaa.FrB Go.Proofs.Ytjefbpfpobgmaaa.FrK Go.Proofs.Ytjefbpfpobgmaaa.FrL Go.Proofs.Ytjefbpfpobgmaaa.FrM
set_option linter.unusedVariables false
set_option linter.unusedSimpArgs false
attribute [local go_sem] Flt.run_store_float
set_option maxHeartbeats 4000000 in
set_option maxRecDepth 100000 in
theorem of_col (xs : List Int) (hx : ∀ x ∈ xs, -500 ≤ x ∧ x ≤ 500) (hn : xs.length ≤ 100) (A : Option Addr) (c : Nat) (w : World) (hr0 : (kCol 48 kS).C w A xs.length (rws xs)) :
    Calls Try.prog 27 #[tabV (.slice A xs.length c)] w fun e w' => ∃ v, e = .returned (.agg #[.int .i64 5, .float .f64 0, .string ⟨#[]⟩, v]) ∧ (kCol 42 kI).R 44 w' w.heap.size (fun _ => True) v (rws xs) ∧ Below w.heap.size w w' := by
  have HR0 := Aside0.mk hr0
  have HX := Aside0.mk hx
  have HN := Aside0.mk hn
  clear hr0 hx hn
  have HB := Aside0.mk (Below.refl w.heap.size w)
  go_enter Try.func27, Try.ntmps27
  go_wp2
  go_loopg [4] (xs.length) (fun kq v4 w' => ∃ (i : Nat) (xi : Int) (v3 : Value), v4 = .int .i64 xi ∧ Aside0 (xi = i ∧ i ≤ xs.length ∧ kq = xs.length - i) ∧ Aside0 ((kCol 42 kI).R 44 w' w.heap.size (fun k => w.heap.size + 2 < k) v3 (rws (xs.take i))) ∧ Aside0 (w'.heap[w.heap.size]? = some (.cells #[.int .i64 5, .int .i64 0, .int .i64 0, .string ⟨#[]⟩, .slice A xs.length c] 48 (0, 0))) ∧ Aside0 (w'.heap[w.heap.size + 1]? = some (.cells #[.int .i64 0, .float .f64 0, .string ⟨#[]⟩, .slice none 0 0] 42 (0, 0))) ∧ Aside0 (w'.heap[w.heap.size + 2]? = some (.cells #[.int .i64 5, .float .f64 0, .string ⟨#[]⟩, v3] 42 (0, 0))) ∧ Aside0 (Below w.heap.size w w'))
  case atStart =>
    refine ⟨0, 0, _, rfl, ⟨⟨rfl, Nat.zero_le _, rfl⟩⟩, ⟨Kd.R_nil _ _ _ _ _⟩, ⟨?_⟩, ⟨?_⟩, ⟨?_⟩, ⟨by repeat (first | (with_reducible first | exact HB.out | apply below_alloc | apply pw_below_drewN | apply below_drew1) | exact HB.out)⟩⟩
    · exact blk_alloc (blk_alloc (blk_new _ _) _) _
    · have h_ := blk_new (w.alloc (.cells #[.int .i64 5, .int .i64 0, .int .i64 0, .string ⟨#[]⟩, .slice A xs.length c] 48)) (.cells #[.int .i64 0, .float .f64 0, .string ⟨#[]⟩, .slice none 0 0] 42)
      rw [World.size_alloc] at h_
      exact blk_alloc h_ _
    · have h_ := blk_new ((w.alloc (.cells #[.int .i64 5, .int .i64 0, .int .i64 0, .string ⟨#[]⟩, .slice A xs.length c] 48)).alloc (.cells #[.int .i64 0, .float .f64 0, .string ⟨#[]⟩, .slice none 0 0] 42)) (.cells #[.int .i64 5, .float .f64 0, .string ⟨#[]⟩, .slice none 0 0] 42)
      rw [World.size_alloc, World.size_alloc] at h_
      exact h_
  case round =>
    obtain ⟨i, xi, v3, rfl, HI, HO, BA, BR, BO, HB⟩ := hrel
    have hS1 : wr.cell? ⟨w.heap.size, 4, none⟩ = some (.slice A xs.length c) := (blk_cell BA.out 4).trans rfl
    by_cases hi : i < xs.length
    · have q1 : xi < (xs.length : Int) := by have := HI.out; omega
      have p1 : 0 ≤ xi := by have := HI.out; omega
      have c1 : decide (xi < (xs.length : Int)) = true := decide_eq_true q1
      obtain ⟨ad1, A1, c1, rfl, hS2, hc1, hC1⟩ := row_at HR0.out xi p1 q1
      have HS2 := Aside0.mk hS2
      replace hS2 := (HB.out.cell (World.block_lt_of_cell? w _ hS2)).trans hS2
      obtain ⟨x, hxe⟩ : ∃ x, x = xs.getD xi.toNat 0 := ⟨_, rfl⟩
      rw [← hxe] at hC1
      have hgx : xs[i]? = some x := by
        have h1 := HI.out.1
        subst h1
        rw [hxe, List.getElem?_eq_getElem hi]
        simp [List.getD_eq_getElem?_getD, hi]
      have HX1 := Aside0.mk (HX.out x (List.mem_of_getElem? hgx))
      have HW := Aside0.mk (show xs.take (i + 1) = xs.take i ++ [x] by rw [List.take_add_one, hgx]; rfl)
      have HC1 := Aside0.mk (Kd.C_below hC1 (below_drew1 HB.out))
      have p1' := eq_true p1
      have q1' := eq_true q1
      have hw1 : wrap64 (xi + 1) = xi + 1 := by have := HN.out; unfold wrap64; omega
      have hlen := Aside0.mk hi
      have hS0 : wr.cell? ⟨w.heap.size + 2, 3, none⟩ = some v3 := (blk_cell BO.out 3).trans rfl
      clear hi hxe hgx p1 q1 hC1
      go_upto_region 11 with fail
      have n0_ := Aside0.mk (below_drew1 HB.out)
      have n1_ := Aside0.mk (Kd.R_drew HO.out)
      have n2_ := Aside0.mk (blk_drew BA.out)
      have n3_ := Aside0.mk (blk_drew BR.out)
      have n4_ := Aside0.mk (blk_drew BO.out)
      clear HB HO BA BR BO
      have HB := n0_
      have HO := n1_
      have BA := n2_
      have BR := n3_
      have BO := n4_
      clear n0_ n1_ n2_ n3_ n4_
      refine start_ (n := 12) (S := fun w' => w'.cell? ⟨w.heap.size + 2, 3, none⟩ = some v3 ∧ w'.cell? ⟨w.heap.size, 4, none⟩ = some (.slice (some ad1) xs.length c) ∧ w'.cell? (ad1.add xi.toNat) = some (.slice A1 1 c1)) (ds := [11]) #[false, false, false, false, false, false, false, false, false, false, false, false] (by kernel_rfl) rfl rfl ⟨hS0, hS1, hS2⟩ (fun hHeld => ?_)
      generalize wr.drew = w5 at HB HO BA BR BO HC1 hHeld ⊢
      refine pure_ (i := 0) (N := some 37) (v := ?_) (a' := ?_) #[true, false, false, false, false, false, false, false, false, false, false, false] rfl rfl (by kernel_rfl) (fun _ _ _ h => h) (Or.inl ⟨by rfl, ?_⟩) ?_ ?_
      rotate_left
      · intro w'
        go_simp
        with_reducible rfl
      rotate_left
      · simp only [Act.put, List.setIfInBounds_toArray, List.set_cons_zero, List.set_cons_succ, i64_w, i32_w]
        rfl
      refine pure_ (i := 2) (N := some 39) (v := ?_) (a' := ?_) #[true, false, true, false, false, false, false, false, false, false, false, false] rfl rfl (by kernel_rfl) (fun _ _ _ h => h) (Or.inl ⟨by rfl, ?_⟩) ?_ ?_
      rotate_left
      · intro w'
        go_simp
        with_reducible rfl
      rotate_left
      · simp only [Act.put, List.setIfInBounds_toArray, List.set_cons_zero, List.set_cons_succ, i64_w, i32_w]
        rfl
      refine pure_ (i := 4) (N := some 41) (v := ?_) (a' := ?_) #[true, false, true, false, true, false, false, false, false, false, false, false] rfl rfl (by kernel_rfl) (fun _ _ _ h => h) (Or.inl ⟨by rfl, ?_⟩) ?_ ?_
      rotate_left
      · intro w'
        go_simp
        with_reducible rfl
      rotate_left
      · simp only [Act.put, List.setIfInBounds_toArray, List.set_cons_zero, List.set_cons_succ, i64_w, i32_w]
        rfl
      refine take_ (i := 1) (N := some 38) (v := ?_) (a' := ?_) #[true, true, true, false, true, false, false, false, false, false, false, false] rfl rfl (by kernel_rfl) (fun _ _ _ h => h) (Or.inl ⟨by rfl, ?_⟩) hHeld ?_ ?_
      rotate_left
      · rintro w' ⟨s0, s1, s2⟩
        go_simp
        with_reducible rfl
      rotate_left
      · simp only [Act.put, List.setIfInBounds_toArray, List.set_cons_zero, List.set_cons_succ, i64_w, i32_w]
        rfl
      refine take_ (i := 3) (N := some 40) (v := ?_) (a' := ?_) #[true, true, true, true, true, false, false, false, false, false, false, false] rfl rfl (by kernel_rfl) (fun _ _ _ h => h) (Or.inl ⟨by rfl, ?_⟩) hHeld ?_ ?_
      rotate_left
      · rintro w' ⟨s0, s1, s2⟩
        go_simp
        with_reducible rfl
      rotate_left
      · simp only [Act.put, List.setIfInBounds_toArray, List.set_cons_zero, List.set_cons_succ, i64_w, i32_w]
        rfl
      refine pure_ (i := 5) (N := some 42) (v := ?_) (a' := ?_) #[true, true, true, true, true, true, false, false, false, false, false, false] rfl rfl (by kernel_rfl) (fun _ _ _ h => h) (Or.inl ⟨by rfl, ?_⟩) ?_ ?_
      rotate_left
      · intro w'
        go_simp
        with_reducible rfl
      rotate_left
      · simp only [Act.put, List.setIfInBounds_toArray, List.set_cons_zero, List.set_cons_succ, i64_w, i32_w]
        rfl
      refine take_ (i := 6) (N := some 43) (v := ?_) (a' := ?_) #[true, true, true, true, true, true, true, false, false, false, false, false] rfl rfl (by kernel_rfl) (fun _ _ _ h => h) (Or.inl ⟨by rfl, ?_⟩) hHeld ?_ ?_
      rotate_left
      · rintro w' ⟨s0, s1, s2⟩
        go_simp
        with_reducible rfl
      rotate_left
      · simp only [Act.put, List.setIfInBounds_toArray, List.set_cons_zero, List.set_cons_succ, i64_w, i32_w]
        rfl
      refine one_ (i := 7) (N := some 44) #[true, true, true, true, true, true, true, true, false, false, false, false] rfl rfl (by kernel_rfl) (by decide) (fun K hK => ?_)
      refine goes_ Try.func18 (by kernel_rfl) rfl #[.slice A1 1 c1] (by rfl) rfl rfl (by (try simp only [List.map_toArray, List.map_cons, List.map_nil]); rfl) ?_
      refine (all_nums [x] (fun y hy => by have := HX1.out; simp at hy; rw [hy]; exact this) (by simp) A1 c1 _ HC1.out).mono ?_
      rintro e w6 ⟨v6, rfl, ho6, hb⟩
      obtain ⟨A6, c6, e6⟩ := Kd.R_slice ho6
      replace e6 : v6 = .slice A6 1 c6 := e6
      subst e6
      have E0 := (hb.cell (World.block_lt_of_cell? _ _ (hHeld.1))).trans (hHeld.1)
      have E1 := (hb.cell (World.block_lt_of_cell? _ _ (hHeld.2.1))).trans (hHeld.2.1)
      have E2 := (hb.cell (World.block_lt_of_cell? _ _ (hHeld.2.2))).trans (hHeld.2.2)
      have GT := Aside0.mk (show w.heap.size + 2 < w5.heap.size from blk_lt BO.out)
      have LT := Aside0.mk (Kd.R_lt HO.out)
      have LB := Aside0.mk (below_size HB.out)
      have n0_ := Aside0.mk (below_step (by repeat (first | (with_reducible first | exact HB.out | apply below_alloc | apply pw_below_drewN | apply below_drew1) | exact HB.out)) hb); have n1_ := Aside0.mk (Kd.R_below (by (with_reducible repeat (first | apply Kd.R_alloc | apply Kd.R_drewN | apply Kd.R_drew)); exact HO.out) hb); have n2_ := Aside0.mk (blk_below (by (with_reducible repeat (first | refine blk_drewN ?_ _ | refine blk_drew ?_ | refine blk_alloc ?_ _)); exact BA.out) hb); have n3_ := Aside0.mk (blk_below (by (with_reducible repeat (first | refine blk_drewN ?_ _ | refine blk_drew ?_ | refine blk_alloc ?_ _)); exact BR.out) hb); have n4_ := Aside0.mk (blk_below (by (with_reducible repeat (first | refine blk_drewN ?_ _ | refine blk_drew ?_ | refine blk_alloc ?_ _)); exact BO.out) hb); clear HB HO BA BR BO; have HB := n0_; have HO := n1_; have BA := n2_; have BR := n3_; have BO := n4_; clear n0_ n1_ n2_ n3_ n4_
      have HM := Aside0.mk (show (kCol 42 kI).M w6 w.heap.size (fun k => w5.heap.size ≤ k) [x] [.slice A6 1 c6] from ⟨_, rfl, Kd.R_lower (Kd.R_mono (Kd.R_bound ho6) (fun k hk => hk.2.1)) LB.out⟩)
      have G6 := Aside0.mk hb.size
      clear ho6 hb
      refine ⟨_, rfl, ?_⟩
      refine hK.out _ _ ⟨E0, E1, E2⟩ (fun hHeld => ?_)
      clear hK K
      refine norm_ (a' := ?_) ?_ ?_
      rotate_left
      · show Act.put _ (some 44) _ = _
        simp only [Act.put, List.setIfInBounds_toArray, List.set_cons_zero, List.set_cons_succ, i64_w, i32_w]
        rfl
      refine one_ (i := 8) (N := some 45) #[true, true, true, true, true, true, true, true, true, false, false, false] rfl rfl (by kernel_rfl) (by decide) (fun K hK => ?_)
      refine value_ (w1 := ?_) (v := ?_) (by rfl) rfl ?_ ?_
      rotate_left 2
      · go_simp
        constructor
        · rfl
        · rfl
      refine hK.out _ _ ⟨(Below.cell (below_alloc (Below.refl _ _) _) (World.block_lt_of_cell? _ _ (hHeld.1))).trans (hHeld.1), (Below.cell (below_alloc (Below.refl _ _) _) (World.block_lt_of_cell? _ _ (hHeld.2.1))).trans (hHeld.2.1), (Below.cell (below_alloc (Below.refl _ _) _) (World.block_lt_of_cell? _ _ (hHeld.2.2))).trans (hHeld.2.2)⟩ (fun hHeld => ?_)
      clear hK K
      refine norm_ (a' := ?_) ?_ ?_
      rotate_left
      · show Act.put _ (some 45) _ = _
        simp only [Act.put, List.setIfInBounds_toArray, List.set_cons_zero, List.set_cons_succ, i64_w, i32_w]
        rfl
      refine one_ (i := 9) (N := some 46) #[true, true, true, true, true, true, true, true, true, true, false, false] rfl rfl (by kernel_rfl) (by decide) (fun K hK => ?_)
      refine Kd.R_append_step (kCol 42 kI) (w0 := w) w.heap.size (by rfl) (.tmp 38) (.tmp 45) 40 44 (.slice none 0 0) 24 rfl Try.underlying40 info44 rfl (by decide) (by omega) v3 (rws (xs.take i)) [x] [.slice A6 1 c6] (fun k => w.heap.size + 2 < k) (fun k => w5.heap.size ≤ k) rfl rfl HM.out (fun k hk => ⟨Nat.lt_of_lt_of_le GT.out hk, fun he => Nat.lt_irrefl k (Nat.lt_of_lt_of_le (LT.out k he.symm) hk)⟩) (fun k hk => Nat.lt_of_lt_of_le GT.out (Nat.le_trans G6.out hk)) HO.out HB.out (below_size HB.out) (by have := HN.out; have := HI.out; simp [rws]; omega) ?_
      intro v7 w7 ho hb hg hat
      rw [← rws_snoc, ← HW.out] at ho
      obtain ⟨A7, c7, e7⟩ := Kd.R_slice ho
      subst e7
      have n0_ := Aside0.mk (blk_grown BA.out hg (fun he => absurd (HO.out.1 _ he.symm) (by simp)))
      have n1_ := Aside0.mk (blk_grown BR.out hg (fun he => absurd (HO.out.1 _ he.symm) (by simp)))
      have n2_ := Aside0.mk (blk_grown BO.out hg (fun he => absurd (HO.out.1 _ he.symm) (by simp)))
      clear BA BR BO HB HO HM
      have BA := n0_
      have BR := n1_
      have BO := n2_
      have HB := Aside0.mk hb
      have HO := Aside0.mk ho
      clear n0_ n1_ n2_ ho hb hg hat
      refine hK.out _ _ ⟨(blk_cell BO.out 3).trans rfl, (blk_cell BA.out 4).trans rfl, (HB.out.cell (World.block_lt_of_cell? w _ HS2.out)).trans HS2.out⟩ (fun hHeld => ?_)
      clear hK K
      refine norm_ (a' := ?_) ?_ ?_
      rotate_left
      · show Act.put _ (some 46) _ = _
        simp only [Act.put, List.setIfInBounds_toArray, List.set_cons_zero, List.set_cons_succ, i64_w, i32_w]
        rfl
      refine pure_ (i := 10) (N := some 47) (v := ?_) (a' := ?_) #[true, true, true, true, true, true, true, true, true, true, true, false] rfl rfl (by kernel_rfl) (fun _ _ _ h => h) (Or.inl ⟨by rfl, ?_⟩) ?_ ?_
      rotate_left
      · intro w'
        go_simp
        with_reducible rfl
      rotate_left
      · simp only [Act.put, List.setIfInBounds_toArray, List.set_cons_zero, List.set_cons_succ, i64_w, i32_w]
        rfl
      refine last_ (i := 11) (N := none) #[true, true, true, true, true, true, true, true, true, true, true, true] rfl rfl (by kernel_rfl) (by decide) (fun K hK => ?_)
      have cz := (blk_cell BO.out 3).trans rfl
      have fz := blk_frozen BO.out 3
      refine skip_ (w1 := ?_) (by rfl) rfl ?_ ?_
      rotate_left
      · go_simp
        rfl
      refine hK.out _ _ ?_
      clear hK K
      refine done_ (by kernel_rfl) ?_

      have n0_ := Aside0.mk (below_set (g := w.heap.size + 2) (j := 3) (v := Value.slice A7 (rws (List.take (i + 1) xs)).length c7) HB.out (Nat.le_add_right _ _))
      have n1_ := Aside0.mk (Kd.R_far HO.out (p := ⟨w.heap.size + 2, 3, none⟩) (fun k hk => Nat.ne_of_gt hk) (Value.slice A7 (rws (List.take (i + 1) xs)).length c7))
      have n2_ := Aside0.mk ((Below.heap_setCell w7 ⟨w.heap.size + 2, 3, none⟩ (Value.slice A7 (rws (List.take (i + 1) xs)).length c7) w.heap.size (by simp)).trans BA.out)
      have n3_ := Aside0.mk ((Below.heap_setCell w7 ⟨w.heap.size + 2, 3, none⟩ (Value.slice A7 (rws (List.take (i + 1) xs)).length c7) (w.heap.size + 1) (by simp)).trans BR.out)
      have n4_ := Aside0.mk (blk_put BO.out 3 (Value.slice A7 (rws (List.take (i + 1) xs)).length c7) rfl)
      clear HB HO BA BR BO
      have HB := n0_
      have HO := n1_
      have BA := n2_
      have BR := n3_
      have BO := n4_
      clear n0_ n1_ n2_ n3_ n4_
      go_wp2
      go_roundg (xs.length - (i + 1))
      case measure => have := hlen.out; have := HI.out; omega
      case rel => exact ⟨i + 1, xi + 1, _, by rw [hw1], ⟨⟨by have := HI.out; omega, by have := hlen.out; omega, rfl⟩⟩, HO, BA, BR, BO, HB⟩
    · have c1 : decide (xi < (xs.length : Int)) = false := decide_eq_false (by have := HI.out; omega)
      have HW := Aside0.mk (show xs.take i = xs from List.take_of_length_le (by omega))
      rw [HW.out] at HO
      obtain ⟨A3, c3, e3⟩ := Kd.R_slice HO.out
      subst e3
      clear hi HW
      have hce0 : wr.cell? ⟨w.heap.size + 2, 0, none⟩ = some (.int .i64 5) := (blk_cell BO.out 0).trans rfl; have hce1 : wr.cell? ⟨w.heap.size + 2, 1, none⟩ = some (.float .f64 0) := (blk_cell BO.out 1).trans rfl; have hce2 : wr.cell? ⟨w.heap.size + 2, 2, none⟩ = some (.string ⟨#[]⟩) := (blk_cell BO.out 2).trans rfl; have hce3 : wr.cell? ⟨w.heap.size + 2, 3, none⟩ = some (.slice A3 (rws xs).length c3) := (blk_cell BO.out 3).trans rfl; have hcr0 : wr.cell? ⟨w.heap.size + 1, 0, none⟩ = some (.int .i64 0) := (blk_cell BR.out 0).trans rfl; have hfr0 := blk_frozen BR.out 0; have hcr1 : wr.cell? ⟨w.heap.size + 1, 1, none⟩ = some (.float .f64 0) := (blk_cell BR.out 1).trans rfl; have hfr1 := blk_frozen BR.out 1; have hcr2 : wr.cell? ⟨w.heap.size + 1, 2, none⟩ = some (.string ⟨#[]⟩) := (blk_cell BR.out 2).trans rfl; have hfr2 := blk_frozen BR.out 2; have hcr3 : wr.cell? ⟨w.heap.size + 1, 3, none⟩ = some (.slice none 0 0) := (blk_cell BR.out 3).trans rfl; have hfr3 := blk_frozen BR.out 3
      go_wp2
      refine bodyPost_ret (results_cell_row rfl _ _ (w.heap.size + 1) 42 #[.int .i64 5, .float .f64 0, .string ⟨#[]⟩, .slice A3 (rws xs).length c3] (0, 0) _ rfl (show (Flt.sets wr (w.heap.size + 1) 0 [.int .i64 5, .float .f64 0, .string ⟨#[]⟩, .slice A3 (rws xs).length c3]).heap[w.heap.size + 1]? = some (.cells #[.int .i64 5, .float .f64 0, .string ⟨#[]⟩, .slice A3 (rws xs).length c3] 42 (0, 0)) from Flt.sets_all [.int .i64 5, .float .f64 0, .string ⟨#[]⟩, .slice A3 (rws xs).length c3] BR.out rfl) Try.underlying42 rfl (by kernel_rfl)) rfl ?_
      refine ⟨_, by rfl, ?_, (show Below w.heap.size w (Flt.sets wr (w.heap.size + 1) 0 [.int .i64 5, .float .f64 0, .string ⟨#[]⟩, .slice A3 (rws xs).length c3]) from Flt.sets_below (Nat.le_add_right _ _) _ _ _ HB.out)⟩
      exact (show (kCol 42 kI).R 44 (Flt.sets wr (w.heap.size + 1) 0 [.int .i64 5, .float .f64 0, .string ⟨#[]⟩, .slice A3 (rws xs).length c3]) _ _ _ _ from Kd.R_mono (Kd.R_step HO.out (fun k hk _ => Flt.sets_far (by omega) _ _ _)) (fun _ _ => trivial))
end Go.Proofs.Ytjefbpfpobgmaaa.FrN
