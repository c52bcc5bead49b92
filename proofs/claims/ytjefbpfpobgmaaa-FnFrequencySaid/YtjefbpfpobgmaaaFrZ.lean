/- FnFrequency, walks: a column of the package as one of the thin package's results. Conditions: the numbers' sizes. -/
import Derived.Test.YtjefbpfpobgmaaaFrY
namespace Go.Proofs.Ytjefbpfpobgmaaa.FrZ
open Go.RowKit Go.Proofs.YtjefbpfpobgmaaaW.PrintWords Go.Proofs.YtjefbpfpobgmaaaW.PrintLast Go.Proofs.YtjefbpfpobgmaaaW.PrintMore Go.Proofs.Ytjefbpfpobgmaaa.FrA Go.Proofs.Ytjefbpfpobgmaaa.FrB Go.Proofs.Ytjefbpfpobgmaaa.FrC Go.Proofs.Ytjefbpfpobgmaaa.FrD Go.Proofs.Ytjefbpfpobgmaaa.FrK Go.Proofs.Ytjefbpfpobgmaaa.FrL Go.Proofs.Ytjefbpfpobgmaaa.FrM Go.Proofs.Ytjefbpfpobgmaaa.FrN Go.Proofs.Ytjefbpfpobgmaaa.FrR Go.Proofs.Ytjefbpfpobgmaaa.FrY
set_option linter.unusedVariables false
set_option linter.unusedSimpArgs false
attribute [local go_sem] Flt.run_store_float
set_option maxHeartbeats 4000000 in
set_option maxRecDepth 100000 in
theorem out_col (xs : List Int) (hx : ∀ x ∈ xs, -500 ≤ x ∧ x ≤ 500) (hn : xs.length ≤ 101) (A : Option Addr) (c : Nat) (w : World) (hr0 : (kCol 62 kI).C w A xs.length (rws xs)) :
    Calls Try.prog 28 #[.agg #[.int .i64 5, .float .f64 0, .string ⟨#[]⟩, .slice A xs.length c]] w fun e w' => ∃ A' c', e = .returned (.agg #[.int .i64 5, .float .f64 0, .string ⟨#[]⟩, .slice A' xs.length c']) ∧ (kCol 42 kI).R 44 w' w.heap.size (fun _ => True) (.slice A' xs.length c') (rws xs) ∧ Below w.heap.size w w' := by
  have HR0 := Aside0.mk hr0
  have HX := Aside0.mk hx
  have HN := Aside0.mk hn
  clear hr0 hx hn
  have HB := Aside0.mk (Below.refl w.heap.size w)
  go_enter Try.func28, Try.ntmps28
  go_wp2
  go_loopg [19] (xs.length) (fun kq v19 w' => ∃ (i : Nat) (xi : Int) (A3 : Option Addr) (c3 : Nat), v19 = .int .i64 xi ∧ Aside0 (xi = i ∧ i ≤ xs.length ∧ kq = xs.length - i) ∧ Aside0 ((kCol 42 kI).R 44 w' w.heap.size (fun k => w.heap.size + 2 < k) (.slice A3 i c3) (rws (xs.take i))) ∧ Aside0 (w'.heap[w.heap.size]? = some (.cells #[.int .i64 5, .float .f64 0, .string ⟨#[]⟩, .slice A xs.length c] 62 (0, 0))) ∧ Aside0 (w'.heap[w.heap.size + 1]? = some (.cells #[.int .i64 0, .float .f64 0, .string ⟨#[]⟩, .slice none 0 0] 42 (0, 0))) ∧ Aside0 (w'.heap[w.heap.size + 2]? = some (.cells #[.int .i64 5, .float .f64 0, .string ⟨#[]⟩, .slice A3 i c3] 42 (0, 0))) ∧ Aside0 (Below w.heap.size w w'))
  case atStart =>
    refine ⟨0, 0, none, 0, rfl, ⟨⟨rfl, Nat.zero_le _, rfl⟩⟩, ⟨Kd.R_nil _ _ _ _ _⟩, ⟨?_⟩, ⟨?_⟩, ⟨?_⟩, ⟨by repeat (first | (with_reducible first | exact HB.out | apply below_alloc | apply pw_below_drewN | apply below_drew1) | exact HB.out)⟩⟩
    · exact blk_alloc (blk_alloc (blk_new _ _) _) _
    · have h_ := blk_new (w.alloc (.cells #[.int .i64 5, .float .f64 0, .string ⟨#[]⟩, .slice A xs.length c] 62)) (.cells #[.int .i64 0, .float .f64 0, .string ⟨#[]⟩, .slice none 0 0] 42)
      rw [World.size_alloc] at h_
      exact blk_alloc h_ _
    · have h_ := blk_new ((w.alloc (.cells #[.int .i64 5, .float .f64 0, .string ⟨#[]⟩, .slice A xs.length c] 62)).alloc (.cells #[.int .i64 0, .float .f64 0, .string ⟨#[]⟩, .slice none 0 0] 42)) (.cells #[.int .i64 5, .float .f64 0, .string ⟨#[]⟩, .slice none 0 0] 42)
      rw [World.size_alloc, World.size_alloc] at h_
      exact h_
  case round =>
    obtain ⟨i, xi, A3, c3, rfl, HI, HO, BA, BR, BO, HB⟩ := hrel
    by_cases hi : i < xs.length
    · have q1 : xi < (xs.length : Int) := by have := HI.out; omega
      have p1 : 0 ≤ xi := by have := HI.out; omega
      have c1 : decide (xi < (xs.length : Int)) = true := decide_eq_true q1
      obtain ⟨ad1, A1, c1, rfl, hr2, hc1, hC1⟩ := row_at HR0.out xi p1 q1
      replace hr2 := (HB.out.cell (World.block_lt_of_cell? w _ hr2)).trans hr2
      obtain ⟨x, hxe⟩ : ∃ x, x = xs.getD xi.toNat 0 := ⟨_, rfl⟩
      rw [← hxe] at hC1
      have hgx : xs[i]? = some x := by
        have h1 := HI.out.1
        subst h1
        rw [hxe, List.getElem?_eq_getElem hi]
        simp [List.getD_eq_getElem?_getD, hi]
      have HX1 := Aside0.mk (HX.out x (List.mem_of_getElem? hgx))
      have HW := Aside0.mk (show xs.take (i + 1) = xs.take i ++ [x] by rw [List.take_add_one, hgx]; rfl)
      have HC1 := Aside0.mk (Kd.C_below hC1 HB.out)
      obtain ⟨ad2, e2, hx2⟩ := cell_one HC1.out
      subst e2
      have hce0 : wr.cell? ad2 = some (.int .i64 1) := hx2.1 _ rfl
      have hce1 : wr.cell? ⟨ad2.block, ad2.off + 1, none⟩ = some (.float .f64 (fl x)) := hx2.2 1 _ (by decide) rfl
      have hce2 : wr.cell? ⟨ad2.block, ad2.off + 2, none⟩ = some (.string ⟨#[]⟩) := hx2.2 2 _ (by decide) rfl
      have hce3 : wr.cell? ⟨ad2.block, ad2.off + 3, none⟩ = some (.slice none 0 0) := hx2.2 3 _ (by decide) rfl
      have LT := Aside0.mk (Kd.R_lt HO.out)
      have GW := Aside0.mk (show w.heap.size + 2 < wr.heap.size from blk_lt BO.out)
      have p1' := eq_true p1
      have q1' := eq_true q1
      have hw1 : wrap64 (xi + 1) = xi + 1 := by have := HN.out; unfold wrap64; omega
      have hlen := Aside0.mk hi
      clear hi hxe hgx p1 q1 hC1 hx2
      go_wp2
      refine wp_loop_rounds 2 ?_
      rw [rounds_succ]
      go_wp2_with (first
        | (go_at_call 28; refine (out_num x _).mono ?_; rintro e w2 ⟨rfl, hb⟩; have G2 := Aside0.mk (show wr.heap.size ≤ w2.heap.size by have h_ := hb.size; rw [World.size_alloc] at h_; omega); have n0_ := Aside0.mk (below_step (below_alloc (HB.out) _) hb); have n1_ := Aside0.mk (Kd.R_below (Kd.R_alloc (HO.out) _) hb); have n2_ := Aside0.mk (blk_below (blk_alloc (BA.out) _) hb); have n3_ := Aside0.mk (blk_below (blk_alloc (BR.out) _) hb); have n4_ := Aside0.mk (blk_below (blk_alloc (BO.out) _) hb); clear HB HO BA BR BO; have HB := n0_; have HO := n1_; have BA := n2_; have BR := n3_; have BO := n4_; clear n0_ n1_ n2_ n3_ n4_; clear hb)
        | ((with_reducible refine gate_builtin (b := .append) (xs := #[.tmp 29, .tmp 32]) rfl ?_); at_builtin; refine Kd.R_append kI (w0 := w) w.heap.size rfl (.tmp 29) (.tmp 32) 44 42 (.agg #[.int .i64 0, .float .f64 0, .string ⟨#[]⟩, .slice none 0 0]) 56 rfl Try.underlying44 info42 rfl (by decide) (by omega) (.slice none 0 0) ([] : List Int) x (eI x) (fun k => wr.heap.size ≤ k) (fun _ => False) rfl (by first | (go_simp; done) | (go_simp; rfl)) (show kI.M _ _ _ x (eI x) from rfl) (fun k hk => hk.elim) (fun k hk => Nat.le_trans G2.out hk) (Kd.R_nil _ _ _ _ _) HB.out (below_size HB.out) (by simp) ?_; intro v1 w3 ho hb hg hat; have n0_ := Aside0.mk (Kd.R_grown HO.out hg (fun k _ he => by simp [Value.ownBlock] at he)); have n1_ := Aside0.mk (blk_grown BA.out hg (fun he => by simp [Value.ownBlock] at he)); have n2_ := Aside0.mk (blk_grown BR.out hg (fun he => by simp [Value.ownBlock] at he)); have n3_ := Aside0.mk (blk_grown BO.out hg (fun he => by simp [Value.ownBlock] at he)); clear HB HO BA BR BO; have HB := Aside0.mk hb; have HO := n0_; have BA := n1_; have BR := n2_; have BO := n3_; clear n0_ n1_ n2_ n3_; obtain ⟨A9, c9, e9⟩ := Kd.R_slice ho; replace e9 : v1 = .slice A9 1 c9 := e9; subst e9; have HR := Aside0.mk (show kI.R 42 w3 w.heap.size (fun k => wr.heap.size ≤ k) (.slice A9 1 c9) [x] from ho); have G3 := Aside0.mk hg.size; clear ho hb hg hat; have hb3 : w3.cell? ⟨w.heap.size + 2, 3, none⟩ = some (.slice A3 i c3) := (blk_cell BO.out 3).trans rfl))
      rw [rounds_succ]
      go_upto_region 12 with ((with_reducible refine gate_builtin (b := .append) (xs := #[.tmp 36, .tmp 38]) rfl ?_); at_builtin; refine Kd.R_append (kCol 42 kI) (w0 := w) (w.heap.size) rfl (.tmp 36) (.tmp 38) 40 44 (.slice none 0 0) 24 rfl Try.underlying40 info44 rfl (by decide) (by omega) (.slice A3 i c3) (rws (xs.take i)) [x] [.slice A9 1 c9] (fun k => w.heap.size + 2 < k) (fun k => wr.heap.size ≤ k) rfl (by first | (go_simp; done) | (go_simp; rfl)) (⟨_, rfl, HR.out⟩) (fun k hk => ⟨Nat.lt_of_lt_of_le GW.out hk, fun he => Nat.lt_irrefl k (Nat.lt_of_lt_of_le (LT.out k he.symm) hk)⟩) (fun k hk => by have h1 := GW.out; have h2 := G2.out; have h4 := G3.out; omega) (HO.out) (HB.out) (below_size (HB.out)) ?aL ?_; (case aL => have := HN.out; have := HI.out; simp [rws]; omega); intro v1 w4 ho hb hg hat; rw [← rws_snoc, ← HW.out] at ho; obtain ⟨A4, c4, e4⟩ := Kd.R_slice ho; rw [rws_len, List.length_take, Nat.min_eq_left (show i + 1 ≤ xs.length from hlen.out)] at e4; subst e4; have n0_ := Aside0.mk (hb); have n1_ := Aside0.mk (ho); have n2_ := Aside0.mk (blk_grown (BA.out) hg (fun he => absurd (HO.out.1 _ he.symm) (by omega))); have n3_ := Aside0.mk (blk_grown (BR.out) hg (fun he => absurd (HO.out.1 _ he.symm) (by omega))); have n4_ := Aside0.mk (blk_grown (BO.out) hg (fun he => absurd (HO.out.1 _ he.symm) (by omega))); clear HB HO BA BR BO; have HB := n0_; have HO := n1_; have BA := n2_; have BR := n3_; have BO := n4_; clear n0_ n1_ n2_ n3_ n4_; clear hb ho hg hat; have hb4 : w4.cell? ⟨w.heap.size + 2, 3, none⟩ = some (.slice A3 i c3) := (blk_cell BO.out 3).trans rfl; have hf4 : w4.frozen? ⟨w.heap.size + 2, 3, none⟩ = false := blk_frozen BO.out 3)
      have n0_ := Aside0.mk (below_set (g := w.heap.size + 2) (j := 3) (v := .slice A4 (i + 1) c4) HB.out (by omega))
      have n1_ := Aside0.mk (Kd.R_far HO.out (p := ⟨w.heap.size + 2, 3, none⟩) (fun k hk => Nat.ne_of_gt hk) (.slice A4 (i + 1) c4))
      have n2_ := Aside0.mk ((Below.heap_setCell w4 ⟨w.heap.size + 2, 3, none⟩ (.slice A4 (i + 1) c4) w.heap.size (by simp)).trans BA.out)
      have n4_ := Aside0.mk ((Below.heap_setCell w4 ⟨w.heap.size + 2, 3, none⟩ (.slice A4 (i + 1) c4) (w.heap.size + 1) (by simp)).trans BR.out)
      have n3_ := Aside0.mk (blk_put BO.out 3 (.slice A4 (i + 1) c4) rfl)
      clear HB HO BA BR BO hb3 hb4 hf4
      have HB := n0_
      have HO := n1_
      have BA := n2_
      have BO := n3_
      have BR := n4_
      clear n0_ n1_ n2_ n3_ n4_
      go_wp2
      go_roundg (xs.length - (i + 1))
      case measure => have := hlen.out; have := HI.out; omega
      case rel => exact ⟨i + 1, xi + 1, A4, c4, by first | rfl | rw [hw1], ⟨⟨by have := HI.out; omega, by have := hlen.out; omega, rfl⟩⟩, HO, BA, BR, BO, HB⟩
    · have c1 : decide (xi < (xs.length : Int)) = false := decide_eq_false (by have := HI.out; omega)
      have hi2 : i = xs.length := by have := HI.out; omega
      subst hi2
      have HW := Aside0.mk (show xs.take xs.length = xs from List.take_length)
      rw [HW.out] at HO
      clear hi HW
      have hce0 : wr.cell? ⟨w.heap.size + 2, 0, none⟩ = some (.int .i64 5) := (blk_cell BO.out 0).trans rfl; have hce1 : wr.cell? ⟨w.heap.size + 2, 1, none⟩ = some (.float .f64 0) := (blk_cell BO.out 1).trans rfl; have hce2 : wr.cell? ⟨w.heap.size + 2, 2, none⟩ = some (.string ⟨#[]⟩) := (blk_cell BO.out 2).trans rfl; have hce3 : wr.cell? ⟨w.heap.size + 2, 3, none⟩ = some (.slice A3 xs.length c3) := (blk_cell BO.out 3).trans rfl; have hcr0 : wr.cell? ⟨w.heap.size + 1, 0, none⟩ = some (.int .i64 0) := (blk_cell BR.out 0).trans rfl; have hfr0 : wr.frozen? ⟨w.heap.size + 1, 0, none⟩ = false := blk_frozen BR.out 0; have hcr1 : wr.cell? ⟨w.heap.size + 1, 1, none⟩ = some (.float .f64 0) := (blk_cell BR.out 1).trans rfl; have hfr1 : wr.frozen? ⟨w.heap.size + 1, 1, none⟩ = false := blk_frozen BR.out 1; have hcr2 : wr.cell? ⟨w.heap.size + 1, 2, none⟩ = some (.string ⟨#[]⟩) := (blk_cell BR.out 2).trans rfl; have hfr2 : wr.frozen? ⟨w.heap.size + 1, 2, none⟩ = false := blk_frozen BR.out 2; have hcr3 : wr.cell? ⟨w.heap.size + 1, 3, none⟩ = some (.slice none 0 0) := (blk_cell BR.out 3).trans rfl; have hfr3 : wr.frozen? ⟨w.heap.size + 1, 3, none⟩ = false := blk_frozen BR.out 3
      go_wp2
      refine bodyPost_ret (results_cell_row rfl _ _ (w.heap.size + 1) 42 #[.int .i64 5, .float .f64 0, .string ⟨#[]⟩, .slice A3 xs.length c3] (0, 0) _ rfl (show (Flt.sets wr (w.heap.size + 1) 0 [.int .i64 5, .float .f64 0, .string ⟨#[]⟩, .slice A3 xs.length c3]).heap[w.heap.size + 1]? = some (.cells #[.int .i64 5, .float .f64 0, .string ⟨#[]⟩, .slice A3 xs.length c3] 42 (0, 0)) from Flt.sets_all [.int .i64 5, .float .f64 0, .string ⟨#[]⟩, .slice A3 xs.length c3] BR.out rfl) Try.underlying42 rfl (by kernel_rfl)) rfl ?_
      refine ⟨_, _, by rfl, ?_, (show Below w.heap.size w (Flt.sets wr (w.heap.size + 1) 0 [.int .i64 5, .float .f64 0, .string ⟨#[]⟩, .slice A3 xs.length c3]) from Flt.sets_below (Nat.le_succ _) _ _ _ HB.out)⟩
      exact (show (kCol 42 kI).R 44 (Flt.sets wr (w.heap.size + 1) 0 [.int .i64 5, .float .f64 0, .string ⟨#[]⟩, .slice A3 xs.length c3]) _ _ _ _ from Kd.R_mono (Kd.R_step HO.out (fun k hk _ => Flt.sets_far (by have h_ : w.heap.size + 2 < k := hk; omega) _ _ _)) (fun _ _ => trivial))
end Go.Proofs.Ytjefbpfpobgmaaa.FrZ
