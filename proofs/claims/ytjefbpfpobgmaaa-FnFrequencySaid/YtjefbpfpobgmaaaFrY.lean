/- FnFrequency, walks: the package's matrix as a column of the thin package. Conditions: the numbers' sizes. -/
import Derived.Test.YtjefbpfpobgmaaaFrX
namespace Go.Proofs.Ytjefbpfpobgmaaa.FrY
open Go.RowKit Go.Proofs.YtjefbpfpobgmaaaW.PrintWords Go.Proofs.YtjefbpfpobgmaaaW.PrintLast Go.Proofs.YtjefbpfpobgmaaaW.PrintMore Go.Proofs.Ytjefbpfpobgmaaa.FrA Go.Proofs.Ytjefbpfpobgmaaa.FrB Go.Proofs.Ytjefbpfpobgmaaa.FrC Go.Proofs.Ytjefbpfpobgmaaa.FrD Go.Proofs.Ytjefbpfpobgmaaa.FrK Go.Proofs.Ytjefbpfpobgmaaa.FrL Go.Proofs.Ytjefbpfpobgmaaa.FrM Go.Proofs.Ytjefbpfpobgmaaa.FrN Go.Proofs.Ytjefbpfpobgmaaa.FrR
set_option linter.unusedVariables false
set_option linter.unusedSimpArgs false
attribute [local go_sem] Flt.run_store_float
set_option maxHeartbeats 4000000 in
set_option maxRecDepth 100000 in
theorem door_rows (xs : List Int) (hx : ∀ x ∈ xs, -500 ≤ x ∧ x ≤ 500) (hn : xs.length ≤ 101) (A : Option Addr) (c : Nat) (w : World) (hr0 : (kCol 96 kA).C w A xs.length (rws xs)) :
    Calls Try.prog 47 #[.slice A xs.length c] w fun e w' => ∃ v, e = .returned v ∧ (kCol 62 kI).R 64 w' w.heap.size (fun _ => True) v (rws xs) ∧ Below w.heap.size w w' := by
  have HR0 := Aside0.mk hr0
  have HX := Aside0.mk hx
  have HN := Aside0.mk hn
  clear hr0 hx hn
  have HB := Aside0.mk (Below.refl w.heap.size w)
  go_enter Try.func47, Try.ntmps47
  go_wp2
  go_loopg [3, 11] (xs.length) (fun kq v3 v11 w' => ∃ (i : Nat) (xi : Int), v11 = .int .i64 xi ∧ Aside0 (xi = i ∧ i ≤ xs.length ∧ kq = xs.length - i) ∧ Aside0 ((kCol 62 kI).R 64 w' w.heap.size (fun _ => True) v3 (rws (xs.take i))) ∧ Aside0 (Below w.heap.size w w'))
  case atStart => exact ⟨0, 0, rfl, ⟨⟨rfl, Nat.zero_le _, rfl⟩⟩, ⟨Kd.R_nil _ _ _ _ _⟩, ⟨by repeat (first | (with_reducible first | exact HB.out | apply below_alloc | apply pw_below_drewN | apply below_drew1) | exact HB.out)⟩⟩
  case round =>
    obtain ⟨i, xi, rfl, HI, HO, HB⟩ := hrel
    by_cases hi : i < xs.length
    · have q1 : xi < (xs.length : Int) := by have := HI.out; omega
      have p1 : 0 ≤ xi := by have := HI.out; omega
      have c1 : decide (xi < (xs.length : Int)) = true := decide_eq_true q1
      obtain ⟨ad1, A1, c1, rfl, hr2, hc1, hC1⟩ := row_at HR0.out xi p1 q1
      replace hr2 := (HB.out.cell (World.block_lt_of_cell? w _ hr2)).trans hr2
      obtain ⟨x, hxe⟩ : ∃ x, x = xs.getD xi.toNat 0 := ⟨_, rfl⟩
      rw [← hxe] at hC1
      have hgx : xs[i]? = some x := by
        have h1 := HI.out.1
        subst h1
        rw [hxe, List.getElem?_eq_getElem hi]
        simp [List.getD_eq_getElem?_getD, hi]
      have HX1 := Aside0.mk (HX.out x (List.mem_of_getElem? hgx))
      have HW := Aside0.mk (show xs.take (i + 1) = xs.take i ++ [x] by rw [List.take_add_one, hgx]; rfl)
      have HC1 := Aside0.mk (Kd.C_below hC1 HB.out)
      obtain ⟨ad2, e2, hx2⟩ := cell_one HC1.out
      subst e2
      have hce0 : wr.cell? ad2 = some (.string ⟨#[]⟩) := hx2.1 _ rfl
      have hce1 : wr.cell? ⟨ad2.block, ad2.off + 1, none⟩ = some (.float .f64 (fl x)) := hx2.2 1 _ (by decide) rfl
      have hce2 : wr.cell? ⟨ad2.block, ad2.off + 2, none⟩ = some (.string ⟨#[]⟩) := hx2.2 2 _ (by decide) rfl
      have hce3 : wr.cell? ⟨ad2.block, ad2.off + 3, none⟩ = some (.slice none 0 0) := hx2.2 3 _ (by decide) rfl
      have hce4 : wr.cell? ⟨ad2.block, ad2.off + 4, none⟩ = some (.slice none 0 0) := hx2.2 4 _ (by decide) rfl
      have hce5 : wr.cell? ⟨ad2.block, ad2.off + 5, none⟩ = some (.bool false) := hx2.2 5 _ (by decide) rfl
      have hce6 : wr.cell? ⟨ad2.block, ad2.off + 6, none⟩ = some (.string ⟨#[]⟩) := hx2.2 6 _ (by decide) rfl
      have hce7 : wr.cell? ⟨ad2.block, ad2.off + 7, none⟩ = some (.int .u8 1) := hx2.2 7 _ (by decide) rfl
      have hce8 : wr.cell? ⟨ad2.block, ad2.off + 8, none⟩ = some (.pointer none) := hx2.2 8 _ (by decide) rfl
      have hce9 : wr.cell? ⟨ad2.block, ad2.off + 9, none⟩ = some (.pointer none) := hx2.2 9 _ (by decide) rfl
      have LT := Aside0.mk (Kd.R_lt HO.out)
      have GW := Aside0.mk (below_size HB.out)
      have p1' := eq_true p1
      have q1' := eq_true q1
      have hw1 : wrap64 (xi + 1) = xi + 1 := by have := HN.out; unfold wrap64; omega
      have hlen := Aside0.mk hi
      clear hi hxe hgx p1 q1 hC1 hx2
      go_wp2
      refine wp_loop_rounds 2 ?_
      rw [rounds_succ]
      go_wp2_with (first
        | (go_at_call 39; refine (door_num x _).mono ?_; rintro e w2 ⟨rfl, hb⟩; have G2 := Aside0.mk (show wr.heap.size ≤ w2.heap.size by have h_ := hb.size; rw [World.size_alloc] at h_; omega); have n0_ := Aside0.mk (below_step (below_alloc (HB.out) _) hb); have n1_ := Aside0.mk (Kd.R_below (Kd.R_alloc (HO.out) _) hb); clear HB HO; have HB := n0_; have HO := n1_; clear n0_ n1_; clear hb)
        | ((with_reducible refine gate_builtin (b := .append) (xs := #[.tmp 21, .tmp 24]) rfl ?_); at_builtin; refine Kd.R_append kI (w0 := w) w.heap.size rfl (.tmp 21) (.tmp 24) 64 62 (.agg #[.int .i64 0, .float .f64 0, .string ⟨#[]⟩, .slice none 0 0]) 56 rfl Try.underlying64 info62 rfl (by decide) (by omega) (.slice none 0 0) ([] : List Int) x (eI x) (fun k => wr.heap.size ≤ k) (fun _ => False) rfl (by first | (go_simp; done) | (go_simp; rfl)) (show kI.M _ _ _ x (eI x) from rfl) (fun k hk => hk.elim) (fun k hk => Nat.le_trans G2.out hk) (Kd.R_nil _ _ _ _ _) HB.out (below_size HB.out) (by simp) ?_; intro v1 w3 ho hb hg hat; have n0_ := Aside0.mk (Kd.R_grown HO.out hg (fun k _ he => by simp [Value.ownBlock] at he)); clear HB HO; have HB := Aside0.mk hb; have HO := n0_; clear n0_; obtain ⟨A9, c9, e9⟩ := Kd.R_slice ho; replace e9 : v1 = .slice A9 1 c9 := e9; subst e9; have HR := Aside0.mk (show kI.R 62 w3 w.heap.size (fun k => wr.heap.size ≤ k) (.slice A9 1 c9) [x] from ho); clear ho hb hg hat))
      rw [rounds_succ]
      go_wp2_with ((with_reducible refine gate_builtin (b := .append) (xs := #[.tmp 27, .tmp 29]) rfl ?_); at_builtin; refine Kd.R_append (kCol 62 kI) (w0 := w) (w.heap.size) rfl (.tmp 27) (.tmp 29) 60 64 (.slice none 0 0) 24 rfl Try.underlying60 info64 rfl (by decide) (by omega) u3 (rws (xs.take i)) [x] [.slice A9 1 c9] (fun _ => True) (fun k => wr.heap.size ≤ k) rfl (by first | (go_simp; done) | (go_simp; rfl)) (⟨_, rfl, HR.out⟩) (fun k hk => ⟨trivial, fun he => Nat.lt_irrefl k (Nat.lt_of_lt_of_le (LT.out k he.symm) hk)⟩) (fun _ _ => trivial) (HO.out) (HB.out) (below_size (HB.out)) ?aL ?_; (case aL => have := HN.out; have := HI.out; simp [rws]; omega); intro v1 w4 ho hb hg hat; rw [← rws_snoc, ← HW.out] at ho; have n0_ := Aside0.mk (hb); have n1_ := Aside0.mk (ho); clear HB HO; have HB := n0_; have HO := n1_; clear n0_ n1_; clear hb ho hg hat)
      go_roundg (xs.length - (i + 1))
      case measure => have := hlen.out; have := HI.out; omega
      case rel => exact ⟨i + 1, xi + 1, by first | rfl | rw [hw1], ⟨⟨by have := HI.out; omega, by have := hlen.out; omega, rfl⟩⟩, HO, HB⟩
    · have c1 : decide (xi < (xs.length : Int)) = false := decide_eq_false (by have := HI.out; omega)
      have HW := Aside0.mk (show xs.take i = xs from List.take_of_length_le (by omega))
      rw [HW.out] at HO
      clear hi HW
      go_wp2
      go_ret
      exact ⟨_, by rfl, HO.out, HB.out⟩
set_option maxHeartbeats 4000000 in
set_option maxRecDepth 100000 in
theorem door_mat (xs : List Int) (hx : ∀ x ∈ xs, -500 ≤ x ∧ x ≤ 500) (hn : xs.length ≤ 101) (A : Option Addr) (c : Nat) (w : World) (hr0 : (kCol 96 kA).C w A xs.length (rws xs)) :
    Calls Try.prog 39 #[.agg (argM (.slice A xs.length c))] w fun e w' => ∃ v, e = .returned (.agg #[.int .i64 5, .float .f64 0, .string ⟨#[]⟩, v]) ∧ (kCol 62 kI).R 64 w' w.heap.size (fun _ => True) v (rws xs) ∧ Below w.heap.size w w' := by
  have HX := Aside0.mk (And.intro hx hn)
  have HC := Aside0.mk (Kd.C_alloc (Kd.C_alloc hr0 (.cells (argM (.slice A xs.length c)) 96)) (.cells #[.int .i64 0, .float .f64 0, .string ⟨#[]⟩, .slice none 0 0] 62))
  have BR := Aside0.mk (show ((w.alloc (.cells (argM (.slice A xs.length c)) 96)).alloc (.cells #[.int .i64 0, .float .f64 0, .string ⟨#[]⟩, .slice none 0 0] 62)).heap[w.heap.size + 1]? = some (.cells #[.int .i64 0, .float .f64 0, .string ⟨#[]⟩, .slice none 0 0] 62 (0, 0)) by
    have h_ := blk_new (w.alloc (.cells (argM (.slice A xs.length c)) 96)) (.cells #[.int .i64 0, .float .f64 0, .string ⟨#[]⟩, .slice none 0 0] 62)
    rw [World.size_alloc] at h_
    exact h_)
  have HB := Aside0.mk (below_alloc (below_alloc (Below.refl w.heap.size w) (.cells (argM (.slice A xs.length c)) 96)) (.cells #[.int .i64 0, .float .f64 0, .string ⟨#[]⟩, .slice none 0 0] 62))
  have HSZ := Aside0.mk (show ((w.alloc (.cells (argM (.slice A xs.length c)) 96)).alloc (.cells #[.int .i64 0, .float .f64 0, .string ⟨#[]⟩, .slice none 0 0] 62)).heap.size = w.heap.size + 2 by rw [World.size_alloc, World.size_alloc])
  clear hx hn hr0
  go_enter Try.func39, Try.ntmps39
  go_wp2_with (go_at_call 47; (with_reducible refine (door_rows xs HX.out.1 HX.out.2 A c _ HC.out).mono ?_); rintro e w2 ⟨v, rfl, ho, hb⟩; obtain ⟨A3, c3, e3⟩ := Kd.R_slice ho; rw [rws_len] at e3; subst e3; have n0_ := Aside0.mk (below_step HB.out hb); have n1_ := Aside0.mk (blk_below BR.out hb); have HO := Aside0.mk (Kd.R_mono (ok' := fun k => w.heap.size + 2 ≤ k) (Kd.R_lower (Kd.R_bound ho) (below_size HB.out)) (fun k hk => by have h_ := hk.2.1; rw [HSZ.out] at h_; exact h_)); clear HB BR ho hb; have HB := n0_; have BR := n1_; clear n0_ n1_; have hcr0 : w2.cell? ⟨w.heap.size + 1, 0, none⟩ = some (.int .i64 0) := (blk_cell BR.out 0).trans rfl; have hfr0 : w2.frozen? ⟨w.heap.size + 1, 0, none⟩ = false := blk_frozen BR.out 0; have hcr1 : w2.cell? ⟨w.heap.size + 1, 1, none⟩ = some (.float .f64 0) := (blk_cell BR.out 1).trans rfl; have hfr1 : w2.frozen? ⟨w.heap.size + 1, 1, none⟩ = false := blk_frozen BR.out 1; have hcr2 : w2.cell? ⟨w.heap.size + 1, 2, none⟩ = some (.string ⟨#[]⟩) := (blk_cell BR.out 2).trans rfl; have hfr2 : w2.frozen? ⟨w.heap.size + 1, 2, none⟩ = false := blk_frozen BR.out 2; have hcr3 : w2.cell? ⟨w.heap.size + 1, 3, none⟩ = some (.slice none 0 0) := (blk_cell BR.out 3).trans rfl; have hfr3 : w2.frozen? ⟨w.heap.size + 1, 3, none⟩ = false := blk_frozen BR.out 3)
  refine bodyPost_ret (results_cell_row rfl _ _ (w.heap.size + 1) 62 #[.int .i64 5, .float .f64 0, .string ⟨#[]⟩, .slice A3 xs.length c3] (0, 0) _ rfl (show (Flt.sets w2 (w.heap.size + 1) 0 [.int .i64 5, .float .f64 0, .string ⟨#[]⟩, .slice A3 xs.length c3]).heap[w.heap.size + 1]? = some (.cells #[.int .i64 5, .float .f64 0, .string ⟨#[]⟩, .slice A3 xs.length c3] 62 (0, 0)) from Flt.sets_all [.int .i64 5, .float .f64 0, .string ⟨#[]⟩, .slice A3 xs.length c3] BR.out rfl) Try.underlying62 rfl (by kernel_rfl)) rfl ?_
  refine ⟨_, by rfl, ?_, (show Below w.heap.size w (Flt.sets w2 (w.heap.size + 1) 0 [.int .i64 5, .float .f64 0, .string ⟨#[]⟩, .slice A3 xs.length c3]) from Flt.sets_below (Nat.le_succ _) _ _ _ HB.out)⟩
  exact (show (kCol 62 kI).R 64 (Flt.sets w2 (w.heap.size + 1) 0 [.int .i64 5, .float .f64 0, .string ⟨#[]⟩, .slice A3 xs.length c3]) _ _ _ _ from Kd.R_mono (Kd.R_step HO.out (fun k hk _ => Flt.sets_far (by have h_ : w.heap.size + 2 ≤ k := hk; omega) _ _ _)) (fun _ _ => trivial))
end Go.Proofs.Ytjefbpfpobgmaaa.FrY
