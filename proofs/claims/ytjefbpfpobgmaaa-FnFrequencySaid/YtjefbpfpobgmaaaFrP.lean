/- FnFrequency, walks: a list of columns becomes one of the package's. Conditions: the numbers' sizes. -/
import Derived.Test.YtjefbpfpobgmaaaFrO
namespace Go.Proofs.Ytjefbpfpobgmaaa.FrP
open Go.RowKit Go.Proofs.YtjefbpfpobgmaaaW.PrintWords Go.Proofs.YtjefbpfpobgmaaaW.PrintLast Go.Proofs.YtjefbpfpobgmaaaW.PrintMore Go.Proofs.Ytjefbpfpobgmaaa.FrA Go.Proofs.Ytjefbpfpobgmaaa.FrB Go.Proofs.Ytjefbpfpobgmaaa.FrK Go.Proofs.Ytjefbpfpobgmaaa.FrL Go.Proofs.Ytjefbpfpobgmaaa.FrM Go.Proofs.Ytjefbpfpobgmaaa.FrN Go.Proofs.Ytjefbpfpobgmaaa.FrO
set_option linter.unusedVariables false
set_option linter.unusedSimpArgs false
attribute [local go_sem] Flt.run_store_float
set_option maxHeartbeats 4000000 in
set_option maxRecDepth 100000 in
theorem in_cols (cs : List (List Int)) (hx : (∀ x ∈ cs, x.length ≤ 100 ∧ ∀ y ∈ x, -500 ≤ y ∧ y ≤ 500)) (hn : cs.length ≤ 100) (A : Option Addr) (c : Nat) (w : World) (hr0 : (kVI 44 42).C w A cs.length cs) :
    Calls Try.prog 30 #[.slice A cs.length c] w fun e w' => ∃ v, e = .returned v ∧ (kVI 64 62).R 62 w' w.heap.size (fun _ => True) v cs ∧ Below w.heap.size w w' := by
  have HR0 := Aside0.mk hr0
  have HX := Aside0.mk hx
  have HN := Aside0.mk hn
  clear hr0 hx hn
  have HB := Aside0.mk (Below.refl w.heap.size w)
  go_enter Try.func30, Try.ntmps30
  go_wp2
  go_loopg [3, 11] (cs.length) (fun kq v3 v11 w' => ∃ (i : Nat) (xi : Int), v11 = .int .i64 xi ∧ Aside0 (xi = i ∧ i ≤ cs.length ∧ kq = cs.length - i) ∧ Aside0 ((kVI 64 62).R 62 w' w.heap.size (fun _ => True) v3 (cs.take i)) ∧ Aside0 (Below w.heap.size w w'))
  case atStart => exact ⟨0, 0, rfl, ⟨⟨rfl, Nat.zero_le _, rfl⟩⟩, ⟨Kd.R_nil _ _ _ _ _⟩, ⟨by repeat (first | (with_reducible first | exact HB.out | apply below_alloc | apply pw_below_drewN | apply below_drew1) | exact HB.out)⟩⟩
  case round =>
    obtain ⟨i, xi, rfl, HI, HO, HB⟩ := hrel
    by_cases hi : i < cs.length
    · have q1 : xi < (cs.length : Int) := by have := HI.out; omega
      have p1 : 0 ≤ xi := by have := HI.out; omega
      have c1 : decide (xi < (cs.length : Int)) = true := decide_eq_true q1
      obtain ⟨ad1, A1, c1, rfl, hce0, hce1, hce2, hce3, hc1, hC1⟩ := at_VI HR0.out xi p1 q1
      obtain ⟨x, hxe⟩ : ∃ x, x = rdc cs xi := ⟨_, rfl⟩
      rw [← hxe] at hce3 hC1
      have hgx : cs[i]? = some x := by
        have h1 := HI.out.1
        subst h1
        rw [hxe, List.getElem?_eq_getElem hi]
        simp [rdc, List.getD_eq_getElem?_getD, hi]
      have HX1 := Aside0.mk (HX.out x (List.mem_of_getElem? hgx))
      have HW := Aside0.mk (show cs.take (i + 1) = cs.take i ++ [x] by rw [List.take_add_one, hgx]; rfl)
      have HC1 := Aside0.mk hC1
      replace hce0 := (HB.out.cell (World.block_lt_of_cell? w _ hce0)).trans hce0
      replace hce1 := (HB.out.cell (World.block_lt_of_cell? w _ hce1)).trans hce1
      replace hce2 := (HB.out.cell (World.block_lt_of_cell? w _ hce2)).trans hce2
      replace hce3 := (HB.out.cell (World.block_lt_of_cell? w _ hce3)).trans hce3
      have p1' := eq_true p1
      have q1' := eq_true q1
      have hw1 : wrap64 (xi + 1) = xi + 1 := by have := HN.out; unfold wrap64; omega
      have hlen := Aside0.mk hi
      obtain ⟨wo, hwo⟩ : ∃ wo, wo = wr := ⟨_, rfl⟩
      subst hwo
      obtain ⟨ko, hko⟩ : ∃ ko, ko = gk := ⟨_, rfl⟩
      subst hko
      have GO := Aside0.mk (below_size HB.out)
      clear hi hxe hgx p1 q1 hC1
      go_wp2
      go_loopg [25] (x.length) (fun kq v25 w' => ∃ (j : Nat) (xj : Int) (v3 : Value), v25 = .int .i64 xj ∧ Aside0 (xj = j ∧ j ≤ x.length ∧ kq = x.length - j) ∧ Aside0 ((kVI 64 62).R 62 w' w.heap.size (fun k => k < wo.heap.size) u3 (cs.take i)) ∧ Aside0 ((kCol 62 kI).R 64 w' w.heap.size (fun k => wo.heap.size + 1 < k) v3 (rws (x.take j))) ∧ Aside0 (w'.heap[wo.heap.size]? = some (.cells #[.int .i64 5, .float .f64 0, .string ⟨#[]⟩, .slice A1 x.length c1] 42 (0, 0))) ∧ Aside0 (w'.heap[wo.heap.size + 1]? = some (.cells #[.int .i64 5, .float .f64 0, .string ⟨#[]⟩, v3] 62 (0, 0))) ∧ Aside0 (Below w.heap.size w w'))
      case atStart =>
        refine ⟨0, 0, _, rfl, ⟨⟨rfl, Nat.zero_le _, rfl⟩⟩, ⟨?_⟩, ⟨Kd.R_nil _ _ _ _ _⟩, ⟨?_⟩, ⟨?_⟩, ⟨by repeat (first | (with_reducible first | exact HB.out | apply below_alloc | apply pw_below_drewN | apply below_drew1) | exact HB.out)⟩⟩
        · have h_ := Kd.R_mono (ok' := fun k => k < wo.heap.size) (Kd.R_bound HO.out) (fun k hk => hk.2.2.1)
          exact Kd.R_alloc (Kd.R_alloc h_ _) _
        · exact blk_alloc (blk_new _ _) _
        · have h_ := blk_new (wo.alloc (.cells #[.int .i64 5, .float .f64 0, .string ⟨#[]⟩, .slice A1 x.length c1] 42)) (.cells #[.int .i64 5, .float .f64 0, .string ⟨#[]⟩, .slice none 0 0] 62)
          rw [World.size_alloc] at h_
          exact h_
      case round =>
        clear HO HB
        obtain ⟨j, xj, v3, rfl, HJ, HO, HO3, BA, BO, HB⟩ := hrel
        by_cases hj : j < x.length
        · have q2 : xj < (x.length : Int) := by have := HJ.out; omega
          have p2 : 0 ≤ xj := by have := HJ.out; omega
          have c2 : decide (xj < (x.length : Int)) = true := decide_eq_true q2
          obtain ⟨ad2, A2, c2, rfl, hr2, hc2, hC2⟩ := row_at HC1.out xj p2 q2
          replace hr2 := (HB.out.cell (World.block_lt_of_cell? w _ hr2)).trans hr2
          obtain ⟨y, hye⟩ : ∃ y, y = x.getD xj.toNat 0 := ⟨_, rfl⟩
          rw [← hye] at hC2
          have hgy : x[j]? = some y := by
            have h1 := HJ.out.1
            subst h1
            rw [hye, List.getElem?_eq_getElem hj]
            simp [List.getD_eq_getElem?_getD, hj]
          have HY1 := Aside0.mk (HX1.out.2 y (List.mem_of_getElem? hgy))
          have HWj := Aside0.mk (show x.take (j + 1) = x.take j ++ [y] by rw [List.take_add_one, hgy]; rfl)
          have HC2 := Aside0.mk (Kd.C_below hC2 (below_drew1 HB.out))
          have p2' := eq_true p2
          have q2' := eq_true q2
          have hw2 : wrap64 (xj + 1) = xj + 1 := by have := HX1.out.1; unfold wrap64; omega
          have hlj := Aside0.mk hj
          have hS0 : wr.cell? ⟨wo.heap.size + 1, 3, none⟩ = some v3 := (blk_cell BO.out 3).trans rfl
          clear hj hye hgy p2 q2 hC2
          go_upto_region 9 with fail
          have n0_ := Aside0.mk (below_drew1 HB.out)
          have n1_ := Aside0.mk (Kd.R_drew HO.out)
          have n2_ := Aside0.mk (blk_drew BA.out)
          have n3_ := Aside0.mk (Kd.R_drew HO3.out)
          have n4_ := Aside0.mk (blk_drew BO.out)
          clear HB HO HO3 BA BO
          have HB := n0_
          have HO := n1_
          have BA := n2_
          have HO3 := n3_
          have BO := n4_
          clear n0_ n1_ n2_ n3_ n4_
          refine start_ (n := 8) (S := fun w' => w'.cell? ⟨wo.heap.size + 1, 3, none⟩ = some v3) (ds := [7]) #[false, false, false, false, false, false, false, false] (by kernel_rfl) rfl rfl (hS0) (fun hHeld => ?_)
          generalize wr.drew = w5 at HB HO HO3 BA BO HC2 hHeld ⊢
          refine pure_ (i := 0) (N := some 29) (v := ?_) (a' := ?_) #[true, false, false, false, false, false, false, false] rfl rfl (by kernel_rfl) (fun _ _ _ h => h) (Or.inl ⟨by rfl, ?_⟩) ?_ ?_
          rotate_left
          · intro w'
            go_simp
            with_reducible rfl
          rotate_left
          · simp only [Act.put, List.setIfInBounds_toArray, List.set_cons_zero, List.set_cons_succ, i64_w, i32_w]
            rfl
          refine pure_ (i := 2) (N := some 31) (v := ?_) (a' := ?_) #[true, false, true, false, false, false, false, false] rfl rfl (by kernel_rfl) (fun _ _ _ h => h) (Or.inl ⟨by rfl, ?_⟩) ?_ ?_
          rotate_left
          · intro w'
            go_simp
            with_reducible rfl
          rotate_left
          · simp only [Act.put, List.setIfInBounds_toArray, List.set_cons_zero, List.set_cons_succ, i64_w, i32_w]
            rfl
          refine take_ (i := 1) (N := some 30) (v := ?_) (a' := ?_) #[true, true, true, false, false, false, false, false] rfl rfl (by kernel_rfl) (fun _ _ _ h => h) (Or.inl ⟨by rfl, ?_⟩) hHeld ?_ ?_
          rotate_left
          · intro w' s0
            go_simp
            with_reducible rfl
          rotate_left
          · simp only [Act.put, List.setIfInBounds_toArray, List.set_cons_zero, List.set_cons_succ, i64_w, i32_w]
            rfl
          refine one_ (i := 3) (N := some 32) #[true, true, true, true, false, false, false, false] rfl rfl (by kernel_rfl) (by decide) (fun K hK => ?_)
          refine goes_ Try.func30 (by kernel_rfl) rfl #[.slice A2 1 c2] (by rfl) rfl rfl (by (try simp only [List.map_toArray, List.map_cons, List.map_nil]); rfl) ?_
          refine (in_nums [y] (fun z hz => by have := HY1.out; simp at hz; rw [hz]; exact this) (by simp) A2 c2 _ HC2.out).mono ?_
          rintro e w6 ⟨v6, rfl, ho6, hb⟩
          obtain ⟨A6, c6, e6⟩ := Kd.R_slice ho6
          replace e6 : v6 = .slice A6 1 c6 := e6
          subst e6
          have E0 := (hb.cell (World.block_lt_of_cell? _ _ (hHeld))).trans (hHeld)
          have GT := Aside0.mk (show wo.heap.size + 1 < w5.heap.size from blk_lt BO.out)
          have LT := Aside0.mk (Kd.R_lt HO3.out)
          have LB := Aside0.mk (below_size HB.out)
          have n0_ := Aside0.mk (below_step (by repeat (first | (with_reducible first | exact HB.out | apply below_alloc | apply pw_below_drewN | apply below_drew1) | exact HB.out)) hb); have n1_ := Aside0.mk (Kd.R_below (by (with_reducible repeat (first | apply Kd.R_alloc | apply Kd.R_drewN | apply Kd.R_drew)); exact HO.out) hb); have n2_ := Aside0.mk (Kd.R_below (by (with_reducible repeat (first | apply Kd.R_alloc | apply Kd.R_drewN | apply Kd.R_drew)); exact HO3.out) hb); have n3_ := Aside0.mk (blk_below (by (with_reducible repeat (first | refine blk_drewN ?_ _ | refine blk_drew ?_ | refine blk_alloc ?_ _)); exact BA.out) hb); have n4_ := Aside0.mk (blk_below (by (with_reducible repeat (first | refine blk_drewN ?_ _ | refine blk_drew ?_ | refine blk_alloc ?_ _)); exact BO.out) hb); clear HB HO HO3 BA BO; have HB := n0_; have HO := n1_; have HO3 := n2_; have BA := n3_; have BO := n4_; clear n0_ n1_ n2_ n3_ n4_
          have HM := Aside0.mk (show (kCol 62 kI).M w6 w.heap.size (fun k => w5.heap.size ≤ k) [y] [.slice A6 1 c6] from ⟨_, rfl, Kd.R_lower (Kd.R_mono (Kd.R_bound ho6) (fun k hk => hk.2.1)) LB.out⟩)
          have G6 := Aside0.mk hb.size
          clear ho6 hb
          refine ⟨_, rfl, ?_⟩
          refine hK.out _ _ (E0) (fun hHeld => ?_)
          clear hK K
          refine norm_ (a' := ?_) ?_ ?_
          rotate_left
          · show Act.put _ (some 32) _ = _
            simp only [Act.put, List.setIfInBounds_toArray, List.set_cons_zero, List.set_cons_succ, i64_w, i32_w]
            rfl
          refine one_ (i := 4) (N := some 33) #[true, true, true, true, true, false, false, false] rfl rfl (by kernel_rfl) (by decide) (fun K hK => ?_)
          refine value_ (w1 := ?_) (v := ?_) (by rfl) rfl ?_ ?_
          rotate_left 2
          · go_simp
            constructor
            · rfl
            · rfl
          refine hK.out _ _ ((Below.cell (below_alloc (Below.refl _ _) _) (World.block_lt_of_cell? _ _ (hHeld))).trans (hHeld)) (fun hHeld => ?_)
          clear hK K
          refine norm_ (a' := ?_) ?_ ?_
          rotate_left
          · show Act.put _ (some 33) _ = _
            simp only [Act.put, List.setIfInBounds_toArray, List.set_cons_zero, List.set_cons_succ, i64_w, i32_w]
            rfl
          refine one_ (i := 5) (N := some 34) #[true, true, true, true, true, true, false, false] rfl rfl (by kernel_rfl) (by decide) (fun K hK => ?_)
          refine Kd.R_append_step (kCol 62 kI) (w0 := w) w.heap.size (by rfl) (.tmp 30) (.tmp 33) 60 64 (.slice none 0 0) 24 rfl Try.underlying60 info64 rfl (by decide) (by omega) v3 (rws (x.take j)) [y] [.slice A6 1 c6] (fun k => wo.heap.size + 1 < k) (fun k => w5.heap.size ≤ k) rfl rfl HM.out (fun k hk => ⟨Nat.lt_of_lt_of_le GT.out hk, fun he => Nat.lt_irrefl k (Nat.lt_of_lt_of_le (LT.out k he.symm) hk)⟩) (fun k hk => Nat.lt_of_lt_of_le GT.out (Nat.le_trans G6.out hk)) HO3.out HB.out (below_size HB.out) (by have := HX1.out.1; have := HJ.out; simp [rws]; omega) ?_
          intro v7 w7 ho hb hg hat
          rw [← rws_snoc, ← HWj.out] at ho
          obtain ⟨A7, c7, e7⟩ := Kd.R_slice ho
          subst e7
          have n0_ := Aside0.mk (blk_grown BA.out hg (fun he => absurd (HO3.out.1 _ he.symm) (by simp)))
          have n1_ := Aside0.mk (blk_grown BO.out hg (fun he => absurd (HO3.out.1 _ he.symm) (by simp)))
          have n2_ := Aside0.mk (Kd.R_grown HO.out hg (fun k hk he => absurd (HO3.out.1 _ he.symm) (by have : k < wo.heap.size := hk; omega)))
          clear BA BO HB HO HO3 HM
          have BA := n0_
          have BO := n1_
          have HO := n2_
          have HB := Aside0.mk hb
          have HO3 := Aside0.mk ho
          clear n0_ n1_ n2_ ho hb hg hat
          refine hK.out _ _ ((blk_cell BO.out 3).trans rfl) (fun hHeld => ?_)
          clear hK K
          refine norm_ (a' := ?_) ?_ ?_
          rotate_left
          · show Act.put _ (some 34) _ = _
            simp only [Act.put, List.setIfInBounds_toArray, List.set_cons_zero, List.set_cons_succ, i64_w, i32_w]
            rfl
          refine pure_ (i := 6) (N := some 35) (v := ?_) (a' := ?_) #[true, true, true, true, true, true, true, false] rfl rfl (by kernel_rfl) (fun _ _ _ h => h) (Or.inl ⟨by rfl, ?_⟩) ?_ ?_
          rotate_left
          · intro w'
            go_simp
            with_reducible rfl
          rotate_left
          · simp only [Act.put, List.setIfInBounds_toArray, List.set_cons_zero, List.set_cons_succ, i64_w, i32_w]
            rfl
          refine last_ (i := 7) (N := none) #[true, true, true, true, true, true, true, true] rfl rfl (by kernel_rfl) (by decide) (fun K hK => ?_)
          have cz := (blk_cell BO.out 3).trans rfl
          have fz := blk_frozen BO.out 3
          refine skip_ (w1 := ?_) (by rfl) rfl ?_ ?_
          rotate_left
          · go_simp
            rfl
          refine hK.out _ _ ?_
          clear hK K
          refine done_ (by kernel_rfl) ?_

          have n0_ := Aside0.mk (below_set (g := wo.heap.size + 1) (j := 3) (v := Value.slice A7 (rws (x.take (j + 1))).length c7) HB.out (by have := GO.out; omega))
          have n1_ := Aside0.mk (Kd.R_far HO3.out (p := ⟨wo.heap.size + 1, 3, none⟩) (fun k hk => Nat.ne_of_gt hk) (Value.slice A7 (rws (x.take (j + 1))).length c7))
          have n2_ := Aside0.mk ((Below.heap_setCell w7 ⟨wo.heap.size + 1, 3, none⟩ (Value.slice A7 (rws (x.take (j + 1))).length c7) wo.heap.size (by simp)).trans BA.out)
          have n3_ := Aside0.mk (Kd.R_far HO.out (p := ⟨wo.heap.size + 1, 3, none⟩) (fun k hk => by have : k < wo.heap.size := hk; show k ≠ wo.heap.size + 1; omega) (Value.slice A7 (rws (x.take (j + 1))).length c7))
          have n4_ := Aside0.mk (blk_put BO.out 3 (Value.slice A7 (rws (x.take (j + 1))).length c7) rfl)
          clear HB HO HO3 BA BO
          have HB := n0_
          have HO3 := n1_
          have BA := n2_
          have HO := n3_
          have BO := n4_
          clear n0_ n1_ n2_ n3_ n4_
          go_wp2
          go_roundg (x.length - (j + 1))
          case measure => have := hlj.out; have := HJ.out; omega
          case rel => exact ⟨j + 1, xj + 1, _, by rw [hw2], ⟨⟨by have := HJ.out; omega, by have := hlj.out; omega, rfl⟩⟩, HO, HO3, BA, BO, HB⟩
        · have c2 : decide (xj < (x.length : Int)) = false := decide_eq_false (by have := HJ.out; omega)
          have HWj := Aside0.mk (show x.take j = x from List.take_of_length_le (by omega))
          rw [HWj.out] at HO3
          obtain ⟨A3, c3, e3⟩ := Kd.R_slice HO3.out
          subst e3
          replace HO3 : Aside0 ((kCol 62 kI).R 64 wr w.heap.size (fun k => wo.heap.size + 1 < k) (.slice A3 x.length c3) (rws x)) := by rw [rws_len] at HO3; exact HO3
          replace BO : Aside0 (wr.heap[wo.heap.size + 1]? = some (.cells #[.int .i64 5, .float .f64 0, .string ⟨#[]⟩, .slice A3 x.length c3] 62 (0, 0))) := by rw [rws_len] at BO; exact BO
          clear hj HWj
          have hcf0 : wr.cell? ⟨wo.heap.size + 1, 0, none⟩ = some (.int .i64 5) := (blk_cell BO.out 0).trans rfl; have hcf1 : wr.cell? ⟨wo.heap.size + 1, 1, none⟩ = some (.float .f64 0) := (blk_cell BO.out 1).trans rfl; have hcf2 : wr.cell? ⟨wo.heap.size + 1, 2, none⟩ = some (.string ⟨#[]⟩) := (blk_cell BO.out 2).trans rfl; have hcf3 : wr.cell? ⟨wo.heap.size + 1, 3, none⟩ = some (.slice A3 x.length c3) := (blk_cell BO.out 3).trans rfl
          have HM := Aside0.mk (show (kVI 64 62).M wr w.heap.size (fun k => wo.heap.size + 1 < k) x [.int .i64 5, .float .f64 0, .string ⟨#[]⟩, .slice A3 x.length c3] from ⟨[.slice A3 x.length c3], rfl, _, rfl, HO3.out⟩)
          have LT := Aside0.mk (HO.out.1)
          have n0_ := Aside0.mk (Kd.R_mono (ok' := fun _ => True) HO.out (fun _ _ => trivial))
          clear HO
          have HO := n0_
          clear n0_
          go_wp2_with ((with_reducible refine gate_builtin (b := .append) (xs := #[.tmp 37, .tmp 39]) rfl ?_); at_builtin; refine Kd.R_append (kVI 64 62) (w0 := w) (w.heap.size) rfl (.tmp 37) (.tmp 39) 64 62 (.agg #[.int .i64 0, .float .f64 0, .string ⟨#[]⟩, .slice none 0 0]) 56 rfl Try.underlying64 info62 rfl (by decide) (by omega) u3 (cs.take i) x [.int .i64 5, .float .f64 0, .string ⟨#[]⟩, .slice A3 x.length c3] (fun _ => True) (fun k => wo.heap.size + 1 < k) rfl (by first | (go_simp; done) | (go_simp; rfl)) (HM.out) (fun k hk => ⟨trivial, fun he => by have h1 : k < wo.heap.size := LT.out k he.symm; have h2 : wo.heap.size + 1 < k := hk; omega⟩) (fun _ _ => trivial) (HO.out) (HB.out) (below_size (HB.out)) ?aL ?_; (case aL => have := HN.out; have := HI.out; have := List.length_take_le i cs; omega); intro v1 w3 ho hb hg hat; rw [← HW.out] at ho; have n0_ := Aside0.mk (hb); have n1_ := Aside0.mk (ho); clear HB HO; have HB := n0_; have HO := n1_; clear n0_ n1_; clear hb ho hg hat)
          go_roundg (cs.length - (i + 1))
          case measure => have := hlen.out; have := HI.out; omega
          case rel => exact ⟨i + 1, xi + 1, by first | rfl | rw [hw1], ⟨⟨by have := HI.out; omega, by have := hlen.out; omega, rfl⟩⟩, HO, HB⟩
    · have c1 : decide (xi < (cs.length : Int)) = false := decide_eq_false (by have := HI.out; omega)
      have HW := Aside0.mk (show cs.take i = cs from List.take_of_length_le (by omega))
      rw [HW.out] at HO
      clear hi HW
      go_wp2
      go_ret
      exact ⟨_, by rfl, HO.out, HB.out⟩
end Go.Proofs.Ytjefbpfpobgmaaa.FrP
