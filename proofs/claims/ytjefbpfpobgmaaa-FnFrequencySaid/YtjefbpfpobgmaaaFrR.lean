/- FnFrequency, walks: a column as one of the package's arguments. Conditions: the numbers' sizes, a column that is not empty. -/
import Derived.Test.YtjefbpfpobgmaaaFrP
import Derived.Test.YtjefbpfpobgmaaaFrQ
namespace Go.Proofs.Ytjefbpfpobgmaaa.FrR
open Go.RowKit Go.Proofs.YtjefbpfpobgmaaaW.PrintWords Go.Proofs.YtjefbpfpobgmaaaW.PrintLast Go.Proofs.YtjefbpfpobgmaaaW.PrintMore Go.Proofs.Ytjefbpfpobgmaaa.FrA Go.Proofs.Ytjefbpfpobgmaaa.FrB Go.Proofs.Ytjefbpfpobgmaaa.FrC Go.Proofs.Ytjefbpfpobgmaaa.FrK Go.Proofs.Ytjefbpfpobgmaaa.FrL Go.Proofs.Ytjefbpfpobgmaaa.FrM Go.Proofs.Ytjefbpfpobgmaaa.FrN Go.Proofs.Ytjefbpfpobgmaaa.FrO Go.Proofs.Ytjefbpfpobgmaaa.FrP Go.Proofs.Ytjefbpfpobgmaaa.FrQ
set_option linter.unusedVariables false
set_option linter.unusedSimpArgs false
attribute [local go_sem] Flt.run_store_float
theorem cell_one {α : Type} {w : World} {A : Option Addr} {sz : Nat} {enc : α → List Value} {hl h1} {x : α} (h : (kc sz enc hl h1).C w A 1 [x]) : ∃ ad, A = some ad ∧ (∀ u, (enc x)[0]? = some u → w.cell? ad = some u) ∧ ∀ j u, 0 < j → (enc x)[j]? = some u → w.cell? ⟨ad.block, ad.off + j, none⟩ = some u := by
  obtain ⟨ad, e1, hc⟩ := one_at h
  refine ⟨ad, e1, fun u hu => ?_, fun j u hj hu => ?_⟩
  · have := hc 0 u hu
    rwa [add0] at this
  · have h2 := hc j u hu
    have h3 := add_field ad 0 j hj
    rw [Nat.zero_add, add0] at h3
    rwa [h3] at h2
set_option maxHeartbeats 4000000 in
set_option maxRecDepth 100000 in
theorem inner_col (xs : List Int) (hx : ∀ x ∈ xs, -500 ≤ x ∧ x ≤ 500) (hn : xs.length ≤ 100) (hp : xs ≠ []) (A : Option Addr) (c : Nat) (w : World) (hr0 : (kCol 62 kI).C w A xs.length (rws xs)) :
    Calls Try.prog 57 #[.agg #[.int .i64 5, .float .f64 0, .string ⟨#[]⟩, .slice A xs.length c]] w fun e w' => ∃ v p q, e = .returned (.agg #[.string ⟨#[]⟩, .float .f64 0, .string ⟨#[]⟩, .slice none 0 0, v, .bool false, .string ⟨#[]⟩, .int .u8 4, .pointer p, .pointer q]) ∧ (kCol 96 kA).R 91 w' w.heap.size (fun _ => True) v (rws xs) ∧ Below w.heap.size w w' := by
  have HR0 := Aside0.mk hr0
  have HX := Aside0.mk hx
  have HN := Aside0.mk hn
  have HP := Aside0.mk hp
  clear hr0 hx hn hp
  have HB := Aside0.mk (Below.refl w.heap.size w)
  go_enter Try.func57, Try.ntmps57
  go_wp2
  go_loopg [3, 40] (xs.length) (fun kq v3 v40 w' => ∃ (i : Nat) (xi : Int), v40 = .int .i64 xi ∧ Aside0 (xi = i ∧ i ≤ xs.length ∧ kq = xs.length - i) ∧ Aside0 ((kCol 96 kA).R 91 w' w.heap.size (fun k => w.heap.size + 1 < k) v3 (rws (xs.take i))) ∧ Aside0 (w'.heap[w.heap.size]? = some (.cells #[.int .i64 5, .float .f64 0, .string ⟨#[]⟩, .slice A xs.length c] 62 (0, 0))) ∧ Aside0 (w'.heap[w.heap.size + 1]? = some (.cells #[.string ⟨#[]⟩, .float .f64 0, .string ⟨#[]⟩, .slice none 0 0, .slice none 0 0, .bool false, .string ⟨#[]⟩, .int .u8 0, .pointer none, .pointer none] 96 (0, 0))) ∧ Aside0 (Below w.heap.size w w'))
  case atStart =>
    refine ⟨0, 0, rfl, ⟨⟨rfl, Nat.zero_le _, rfl⟩⟩, ⟨Kd.R_nil _ _ _ _ _⟩, ⟨?_⟩, ⟨?_⟩, ⟨by repeat (first | (with_reducible first | exact HB.out | apply below_alloc | apply pw_below_drewN | apply below_drew1) | exact HB.out)⟩⟩
    · exact blk_alloc (blk_new _ _) _
    · have h_ := blk_new (w.alloc (.cells #[.int .i64 5, .float .f64 0, .string ⟨#[]⟩, .slice A xs.length c] 62)) (.cells #[.string ⟨#[]⟩, .float .f64 0, .string ⟨#[]⟩, .slice none 0 0, .slice none 0 0, .bool false, .string ⟨#[]⟩, .int .u8 0, .pointer none, .pointer none] 96)
      rw [World.size_alloc] at h_
      exact h_
  case round =>
    obtain ⟨i, xi, rfl, HI, HO, BA, BR, HB⟩ := hrel
    have hS1 : wr.cell? ⟨w.heap.size, 3, none⟩ = some (.slice A xs.length c) := (blk_cell BA.out 3).trans rfl
    by_cases hi : i < xs.length
    · have q1 : xi < (xs.length : Int) := by have := HI.out; omega
      have p1 : 0 ≤ xi := by have := HI.out; omega
      have c1 : decide (xi < (xs.length : Int)) = true := decide_eq_true q1
      obtain ⟨ad1, A1, c1, rfl, hr2, hc1, hC1⟩ := row_at HR0.out xi p1 q1
      replace hr2 := (HB.out.cell (World.block_lt_of_cell? w _ hr2)).trans hr2
      obtain ⟨x, hxe⟩ : ∃ x, x = xs.getD xi.toNat 0 := ⟨_, rfl⟩
      rw [← hxe] at hC1
      have hgx : xs[i]? = some x := by
        have h1 := HI.out.1
        subst h1
        rw [hxe, List.getElem?_eq_getElem hi]
        simp [List.getD_eq_getElem?_getD, hi]
      have HX1 := Aside0.mk (HX.out x (List.mem_of_getElem? hgx))
      have HW := Aside0.mk (show xs.take (i + 1) = xs.take i ++ [x] by rw [List.take_add_one, hgx]; rfl)
      have HC1 := Aside0.mk (Kd.C_below hC1 HB.out)
      obtain ⟨ad2, e2, hx2⟩ := cell_one HC1.out
      subst e2
      have hce0 : wr.cell? ad2 = some (.int .i64 1) := hx2.1 _ rfl
      have hce1 : wr.cell? ⟨ad2.block, ad2.off + 1, none⟩ = some (.float .f64 (fl x)) := hx2.2 1 _ (by decide) rfl
      have hce2 : wr.cell? ⟨ad2.block, ad2.off + 2, none⟩ = some (.string ⟨#[]⟩) := hx2.2 2 _ (by decide) rfl
      have hce3 : wr.cell? ⟨ad2.block, ad2.off + 3, none⟩ = some (.slice none 0 0) := hx2.2 3 _ (by decide) rfl
      have LT := Aside0.mk (Kd.R_lt HO.out)
      have GW := Aside0.mk (show w.heap.size + 1 < wr.heap.size from blk_lt BR.out)
      clear hx2
      have p1' := eq_true p1
      have q1' := eq_true q1
      have hw1 : wrap64 (xi + 1) = xi + 1 := by have := HN.out; unfold wrap64; omega
      have hlen := Aside0.mk hi
      clear hi hxe hgx p1 q1 hC1
      go_wp2
      refine wp_loop_rounds 2 ?_
      rw [rounds_succ]
      go_wp2_with (first
        | (go_at_call 57; refine (inner_num x (by have := HX1.out; omega) _).mono ?_; rintro e w2 ⟨rfl, hb⟩; have G2 := Aside0.mk (show wr.heap.size ≤ w2.heap.size by have h_ := hb.size; rw [World.size_alloc] at h_; omega); have n0_ := Aside0.mk (below_step (below_alloc (HB.out) _) hb); have n1_ := Aside0.mk (Kd.R_below (Kd.R_alloc (HO.out) _) hb); have n2_ := Aside0.mk (blk_below (blk_alloc (BA.out) _) hb); have n3_ := Aside0.mk (blk_below (blk_alloc (BR.out) _) hb); clear HB HO BA BR; have HB := n0_; have HO := n1_; have BA := n2_; have BR := n3_; clear n0_ n1_ n2_ n3_; clear hb)
        | ((with_reducible refine gate_builtin (b := .append) (xs := #[.tmp 50, .tmp 53]) rfl ?_); at_builtin; refine Kd.R_append kA (w0 := w) w.heap.size rfl (.tmp 50) (.tmp 53) 91 96 (.agg #[.string ⟨#[]⟩, .float .f64 0, .string ⟨#[]⟩, .slice none 0 0, .slice none 0 0, .bool false, .string ⟨#[]⟩, .int .u8 0, .pointer none, .pointer none]) 136 rfl Try.underlying91 info96 rfl (by decide) (by omega) (.slice none 0 0) ([] : List Int) x (eA x) (fun k => wr.heap.size ≤ k) (fun _ => False) rfl (by first | (go_simp; done) | (go_simp; rfl)) (show kA.M _ _ _ x (eA x) from rfl) (fun k hk => hk.elim) (fun k hk => Nat.le_trans G2.out hk) (Kd.R_nil _ _ _ _ _) HB.out (below_size HB.out) (by simp) ?_; intro v1 w3 ho hb hg hat; have n0_ := Aside0.mk (Kd.R_grown HO.out hg (fun k _ he => by simp [Value.ownBlock] at he)); have n1_ := Aside0.mk (blk_grown BA.out hg (fun he => by simp [Value.ownBlock] at he)); have n2_ := Aside0.mk (blk_grown BR.out hg (fun he => by simp [Value.ownBlock] at he)); clear HB HO BA BR; have HB := Aside0.mk hb; have HO := n0_; have BA := n1_; have BR := n2_; clear n0_ n1_ n2_; obtain ⟨A9, c9, e9⟩ := Kd.R_slice ho; replace e9 : v1 = .slice A9 1 c9 := e9; subst e9; have G3 := Aside0.mk hg.size; have HR := Aside0.mk (show kA.R 96 w3 w.heap.size (fun k => wr.heap.size ≤ k) (.slice A9 1 c9) [x] from ho); clear ho hb hg hat))
      rw [rounds_succ]
      go_wp2_with ((with_reducible refine gate_builtin (b := .append) (xs := #[.tmp 56, .tmp 58]) rfl ?_); at_builtin; refine Kd.R_append (kCol 96 kA) (w0 := w) (w.heap.size) rfl (.tmp 56) (.tmp 58) 92 91 (.slice none 0 0) 24 rfl Try.underlying92 info91 rfl (by decide) (by omega) u3 (rws (xs.take i)) [x] [.slice A9 1 c9] (fun k => w.heap.size + 1 < k) (fun k => wr.heap.size ≤ k) rfl (by first | (go_simp; done) | (go_simp; rfl)) (⟨_, rfl, HR.out⟩) (fun k hk => ⟨Nat.lt_of_lt_of_le GW.out hk, fun he => Nat.lt_irrefl k (Nat.lt_of_lt_of_le (LT.out k he.symm) hk)⟩) (fun k hk => by have h1 := GW.out; have h2 := G2.out; have h3 := below_size HB.out; have h4 := G3.out; omega) (HO.out) (HB.out) (below_size (HB.out)) ?aL ?_; (case aL => have := HN.out; have := HI.out; simp [rws]; omega); intro v1 w4 ho hb hg hat; rw [← rws_snoc, ← HW.out] at ho; have n0_ := Aside0.mk (hb); have n1_ := Aside0.mk (ho); have n2_ := Aside0.mk (blk_grown (BA.out) hg (fun he => absurd (HO.out.1 _ he.symm) (by omega))); have n3_ := Aside0.mk (blk_grown (BR.out) hg (fun he => absurd (HO.out.1 _ he.symm) (by omega))); clear HB HO BA BR; have HB := n0_; have HO := n1_; have BA := n2_; have BR := n3_; clear n0_ n1_ n2_ n3_; clear hb ho hg hat)
      go_roundg (xs.length - (i + 1))
      case measure => have := hlen.out; have := HI.out; omega
      case rel => exact ⟨i + 1, xi + 1, by first | rfl | rw [hw1], ⟨⟨by have := HI.out; omega, by have := hlen.out; omega, rfl⟩⟩, HO, BA, BR, HB⟩
    · have c1 : decide (xi < (xs.length : Int)) = false := decide_eq_false (by have := HI.out; omega)
      have HW := Aside0.mk (show xs.take i = xs from List.take_of_length_le (by omega))
      have hl0 : 0 < xs.length := List.length_pos_iff.2 HP.out
      rw [HW.out] at HO
      obtain ⟨A3, c3, e3⟩ := Kd.R_slice HO.out
      rw [rws_len] at e3
      subst e3
      have cp : (0 < xs.length) = True := eq_true hl0
      have cp2 : decide (0 < (xs.length : Int)) = true := decide_eq_true (by omega)
      have HL0 := Aside0.mk hl0
      clear hi HW hl0
      go_upto_region 24 with (go_at_call 54; refine (matrix A3 xs.length c3 _).mono ?_; rintro e w2 ⟨rfl, hb⟩; have n0_ := Aside0.mk (below_step (HB.out) hb); have n1_ := Aside0.mk (Kd.R_below (HO.out) hb); have n2_ := Aside0.mk (blk_below (BA.out) hb); have n3_ := Aside0.mk (blk_below (BR.out) hb); clear HB HO BA BR; have HB := n0_; have HO := n1_; have BA := n2_; have BR := n3_; clear n0_ n1_ n2_ n3_; clear hb)
      have BO := Aside0.mk (blk_new w2 (.cells (argM (.slice A3 xs.length c3)) 96))
      have GO := Aside0.mk (show w.heap.size + 1 < w2.heap.size from blk_lt BR.out)
      have n0_ := Aside0.mk (below_alloc HB.out (.cells (argM (.slice A3 xs.length c3)) 96))
      have n1_ := Aside0.mk (Kd.R_alloc HO.out (.cells (argM (.slice A3 xs.length c3)) 96))
      have n2_ := Aside0.mk (blk_alloc BR.out (.cells (argM (.slice A3 xs.length c3)) 96))
      have n3_ := Aside0.mk (Kd.R_mono (ok' := fun k => k < w2.heap.size ∧ k ≠ w.heap.size + 1) (Kd.R_bound HO.out) (fun k hk => ⟨hk.2.2.1, by have h_ : w.heap.size + 1 < k := hk.1; omega⟩))
      have n1_ := Aside0.mk (Kd.R_alloc n3_.out (.cells (argM (.slice A3 xs.length c3)) 96))
      clear HB HO BR BA n3_
      have HB := n0_
      have HO := n1_
      have BR := n2_
      clear n0_ n1_ n2_
      generalize w2.alloc (.cells (argM (.slice A3 xs.length c3)) 96) = w3 at HB HO BR BO ⊢
      go_upto_region 26 with (first
        | (go_at_call 55; have hx_ := BL.out; clear hx_ BL hc8 hc9 hf8 hf9; obtain ⟨lq, hlq⟩ : ∃ lq, lq = l := ⟨_, rfl⟩; subst hlq; clear GL GB; refine (new_ _).mono ?_; rintro e w4 ⟨l, gl, rfl, hl, hb⟩; have GL := Aside0.mk (Nat.lt_of_lt_of_le (blk_lt BO.out) gl); have GB := Aside0.mk (Nat.le_trans (below_size HB.out) gl); have n0_ := Aside0.mk (below_step (HB.out) hb); have n1_ := Aside0.mk (Kd.R_below (HO.out) hb); have n2_ := Aside0.mk (blk_below (BR.out) hb); have n3_ := Aside0.mk (blk_below (BO.out) hb); clear HB HO BR BO; have HB := n0_; have HO := n1_; have BR := n2_; have BO := n3_; clear n0_ n1_ n2_ n3_; clear hb; have BL := Aside0.mk hl; clear hl gl; have hc8 : w4.cell? ⟨w2.heap.size, 8, none⟩ = some (.pointer none) := (blk_cell BO.out 8).trans rfl; have hc9 : w4.cell? ⟨w2.heap.size, 9, none⟩ = some (.pointer none) := (blk_cell BO.out 9).trans rfl; have hf8 := blk_frozen BO.out 8; have hf9 := blk_frozen BO.out 9)
        | (go_at_call 55; refine (new_ _).mono ?_; rintro e w4 ⟨l, gl, rfl, hl, hb⟩; have GL := Aside0.mk (Nat.lt_of_lt_of_le (blk_lt BO.out) gl); have GB := Aside0.mk (Nat.le_trans (below_size HB.out) gl); have n0_ := Aside0.mk (below_step (HB.out) hb); have n1_ := Aside0.mk (Kd.R_below (HO.out) hb); have n2_ := Aside0.mk (blk_below (BR.out) hb); have n3_ := Aside0.mk (blk_below (BO.out) hb); clear HB HO BR BO; have HB := n0_; have HO := n1_; have BR := n2_; have BO := n3_; clear n0_ n1_ n2_ n3_; clear hb; have BL := Aside0.mk hl; clear hl gl; have hc8 : w4.cell? ⟨w2.heap.size, 8, none⟩ = some (.pointer none) := (blk_cell BO.out 8).trans rfl; have hc9 : w4.cell? ⟨w2.heap.size, 9, none⟩ = some (.pointer none) := (blk_cell BO.out 9).trans rfl; have hf8 := blk_frozen BO.out 8; have hf9 := blk_frozen BO.out 9))
      clear hc8 hc9 hf8 hf9
      have n0_ := Aside0.mk (below_set (g := w2.heap.size) (j := 8) (v := .pointer (some ⟨lq, 0, none⟩)) HB.out (by have := GO.out; omega))
      have n1_ := Aside0.mk (Kd.R_far HO.out (p := ⟨w2.heap.size, 8, none⟩) (fun k hk => Nat.ne_of_lt hk.1) (.pointer (some ⟨lq, 0, none⟩)))
      have n2_ := Aside0.mk ((Below.heap_setCell w4 ⟨w2.heap.size, 8, none⟩ (.pointer (some ⟨lq, 0, none⟩)) (w.heap.size + 1) (Nat.ne_of_lt GO.out)).trans BR.out)
      have n3_ := Aside0.mk (blk_put BO.out 8 (.pointer (some ⟨lq, 0, none⟩)) rfl)
      have n5_ := Aside0.mk ((Below.heap_setCell w4 ⟨w2.heap.size, 8, none⟩ (.pointer (some ⟨lq, 0, none⟩)) l (Nat.ne_of_gt GL.out)).trans BL.out)
      clear HB HO BR BO BL
      have HB := n0_
      have HO := n1_
      have BR := n2_
      have BO := n3_
      have BL := n5_
      clear n0_ n1_ n2_ n3_ n5_
      have n0_ := Aside0.mk (below_set (g := w2.heap.size) (j := 9) (v := .pointer (some ⟨l, 0, none⟩)) HB.out (by have := GO.out; omega))
      have n1_ := Aside0.mk (Kd.R_far HO.out (p := ⟨w2.heap.size, 9, none⟩) (fun k hk => Nat.ne_of_lt hk.1) (.pointer (some ⟨l, 0, none⟩)))
      have n2_ := Aside0.mk ((Below.heap_setCell (w4.setCell ⟨w2.heap.size, 8, none⟩ (.pointer (some ⟨lq, 0, none⟩))) ⟨w2.heap.size, 9, none⟩ (.pointer (some ⟨l, 0, none⟩)) (w.heap.size + 1) (Nat.ne_of_lt GO.out)).trans BR.out)
      have n3_ := Aside0.mk (blk_put BO.out 9 (.pointer (some ⟨l, 0, none⟩)) rfl)
      have n5_ := Aside0.mk ((Below.heap_setCell (w4.setCell ⟨w2.heap.size, 8, none⟩ (.pointer (some ⟨lq, 0, none⟩))) ⟨w2.heap.size, 9, none⟩ (.pointer (some ⟨l, 0, none⟩)) l (Nat.ne_of_gt GL.out)).trans BL.out)
      clear HB HO BR BO BL
      have HB := n0_
      have HO := n1_
      have BR := n2_
      have BO := n3_
      have BL := n5_
      clear n0_ n1_ n2_ n3_ n5_
      generalize (w4.setCell ⟨w2.heap.size, 8, none⟩ (.pointer (some ⟨lq, 0, none⟩))).setCell ⟨w2.heap.size, 9, none⟩ (.pointer (some ⟨l, 0, none⟩)) = w4s at HB HO BR BO BL ⊢
      have n5_ := Aside0.mk (blk_drew BL.out)
      have n0_ := Aside0.mk (below_drew1 HB.out)
      have n1_ := Aside0.mk (Kd.R_drew HO.out)
      have n2_ := Aside0.mk (blk_drew BR.out)
      have n3_ := Aside0.mk (blk_drew BO.out)
      clear HB HO BR BO BL
      have HB := n0_
      have HO := n1_
      have BR := n2_
      have BO := n3_
      have BL := n5_
      clear n0_ n1_ n2_ n3_ n5_
      obtain ⟨ad3, A4, c4, e4, hr4, _, _⟩ := row_at (Kd.R_reads' HO.out).2.2 0 (by omega) (by have := HL0.out; rw [rws_len]; omega)
      subst e4
      have hS1 : w4s.drew.cell? ad3 = some (.slice A4 1 c4) := by
        have h_ := hr4
        rw [show ((0 : Int).toNat) = 0 from rfl, add0] at h_
        exact h_
      have hS0 : w4s.drew.cell? ⟨w2.heap.size, 9, none⟩ = some (.pointer (some ⟨l, 0, none⟩)) := (blk_cell BO.out 9).trans rfl
      clear hr4
      refine start_ (n := 13) (S := fun w' => w'.cell? ⟨w2.heap.size, 9, none⟩ = some (.pointer (some ⟨l, 0, none⟩)) ∧ w'.cell? ad3 = some (.slice A4 1 c4)) (ds := [12]) #[false, false, false, false, false, false, false, false, false, false, false, false, false] (by kernel_rfl) rfl rfl ⟨hS0, hS1⟩ (fun hHeld => ?_)
      generalize w4s.drew = w5 at HB HO BR BO BL hHeld ⊢
      refine pure_ (i := 0) (N := some 70) (v := ?_) (a' := ?_) #[true, false, false, false, false, false, false, false, false, false, false, false, false] rfl rfl (by kernel_rfl) (fun _ _ _ h => h) (Or.inl ⟨by rfl, ?_⟩) ?_ ?_
      rotate_left
      · intro w'
        go_simp
        with_reducible rfl
      rotate_left
      · simp only [Act.put, List.setIfInBounds_toArray, List.set_cons_zero, List.set_cons_succ, i64_w, i32_w]
        rfl
      refine pure_ (i := 2) (N := some 72) (v := ?_) (a' := ?_) #[true, false, true, false, false, false, false, false, false, false, false, false, false] rfl rfl (by kernel_rfl) (fun _ _ _ h => h) (Or.inl ⟨by rfl, ?_⟩) ?_ ?_
      rotate_left
      · intro w'
        go_simp
        with_reducible rfl
      rotate_left
      · simp only [Act.put, List.setIfInBounds_toArray, List.set_cons_zero, List.set_cons_succ, i64_w, i32_w]
        rfl
      refine pure_ (i := 3) (N := some 73) (v := ?_) (a' := ?_) #[true, false, true, true, false, false, false, false, false, false, false, false, false] rfl rfl (by kernel_rfl) (fun _ _ _ h => h) (Or.inl ⟨by rfl, ?_⟩) ?_ ?_
      rotate_left
      · intro w'
        go_simp
        with_reducible rfl
      rotate_left
      · simp only [Act.put, List.setIfInBounds_toArray, List.set_cons_zero, List.set_cons_succ, i64_w, i32_w]
        rfl
      refine pure_ (i := 4) (N := some 74) (v := ?_) (a' := ?_) #[true, false, true, true, true, false, false, false, false, false, false, false, false] rfl rfl (by kernel_rfl) (fun _ _ _ h => h) (Or.inl ⟨by rfl, ?_⟩) ?_ ?_
      rotate_left
      · intro w'
        go_simp
        with_reducible rfl
      rotate_left
      · simp only [Act.put, List.setIfInBounds_toArray, List.set_cons_zero, List.set_cons_succ, i64_w, i32_w]
        rfl
      refine pure_ (i := 7) (N := some 77) (v := ?_) (a' := ?_) #[true, false, true, true, true, false, false, true, false, false, false, false, false] rfl rfl (by kernel_rfl) (fun _ _ _ h => h) (Or.inl ⟨by rfl, ?_⟩) ?_ ?_
      rotate_left
      · intro w'
        go_simp
        with_reducible rfl
      rotate_left
      · simp only [Act.put, List.setIfInBounds_toArray, List.set_cons_zero, List.set_cons_succ, i64_w, i32_w]
        rfl
      refine pure_ (i := 8) (N := some 78) (v := ?_) (a' := ?_) #[true, false, true, true, true, false, false, true, true, false, false, false, false] rfl rfl (by kernel_rfl) (fun _ _ _ h => h) (Or.inl ⟨by rfl, ?_⟩) ?_ ?_
      rotate_left
      · intro w'
        go_simp
        with_reducible rfl
      rotate_left
      · simp only [Act.put, List.setIfInBounds_toArray, List.set_cons_zero, List.set_cons_succ, i64_w, i32_w]
        rfl
      refine take_ (i := 1) (N := some 71) (v := ?_) (a' := ?_) #[true, true, true, true, true, false, false, true, true, false, false, false, false] rfl rfl (by kernel_rfl) (fun _ _ _ h => h) (Or.inl ⟨by rfl, ?_⟩) hHeld ?_ ?_
      rotate_left
      · rintro w' ⟨s0, s1⟩
        go_simp
        with_reducible rfl
      rotate_left
      · simp only [Act.put, List.setIfInBounds_toArray, List.set_cons_zero, List.set_cons_succ, i64_w, i32_w]
        rfl
      refine take_ (i := 5) (N := some 75) (v := ?_) (a' := ?_) #[true, true, true, true, true, true, false, true, true, false, false, false, false] rfl rfl (by kernel_rfl) (fun _ _ _ h => h) (Or.inl ⟨by rfl, ?_⟩) hHeld ?_ ?_
      rotate_left
      · rintro w' ⟨s0, s1⟩
        go_simp
        with_reducible rfl
      rotate_left
      · simp only [Act.put, List.setIfInBounds_toArray, List.set_cons_zero, List.set_cons_succ, i64_w, i32_w]
        rfl
      refine pure_ (i := 6) (N := some 76) (v := ?_) (a' := ?_) #[true, true, true, true, true, true, true, true, true, false, false, false, false] rfl rfl (by kernel_rfl) (fun _ _ _ h => h) (Or.inl ⟨by rfl, ?_⟩) ?_ ?_
      rotate_left
      · intro w'
        go_simp
        with_reducible rfl
      rotate_left
      · simp only [Act.put, List.setIfInBounds_toArray, List.set_cons_zero, List.set_cons_succ, i64_w, i32_w]
        rfl
      refine pure_ (i := 9) (N := some 79) (v := ?_) (a' := ?_) #[true, true, true, true, true, true, true, true, true, true, false, false, false] rfl rfl (by kernel_rfl) (fun _ _ _ h => h) (Or.inl ⟨by rfl, ?_⟩) ?_ ?_
      rotate_left
      · intro w'
        go_simp
        with_reducible rfl
      rotate_left
      · simp only [Act.put, List.setIfInBounds_toArray, List.set_cons_zero, List.set_cons_succ, i64_w, i32_w]
        rfl
      refine pure_ (i := 10) (N := some 80) (v := ?_) (a' := ?_) #[true, true, true, true, true, true, true, true, true, true, true, false, false] rfl rfl (by kernel_rfl) (fun _ _ _ h => h) (Or.inl ⟨by rfl, ?_⟩) ?_ ?_
      rotate_left
      · intro w'
        go_simp
        with_reducible rfl
      rotate_left
      · simp only [Act.put, List.setIfInBounds_toArray, List.set_cons_zero, List.set_cons_succ, i64_w, i32_w]
        rfl
      refine pure_ (i := 11) (N := some 81) (v := ?_) (a' := ?_) #[true, true, true, true, true, true, true, true, true, true, true, true, false] rfl rfl (by kernel_rfl) (fun _ _ _ h => h) (Or.inl ⟨by rfl, ?_⟩) ?_ ?_
      rotate_left
      · intro w'
        go_simp
        with_reducible rfl
      rotate_left
      · simp only [Act.put, List.setIfInBounds_toArray, List.set_cons_zero, List.set_cons_succ, i64_w, i32_w]
        rfl
      refine last_ (i := 12) (N := some 82) #[true, true, true, true, true, true, true, true, true, true, true, true, true] rfl rfl (by kernel_rfl) (by decide) (fun K hK => ?_)
      refine goes_ Try.func56 (by kernel_rfl) rfl #[.pointer (some ⟨l, 0, none⟩), .iface 142 (.agg #[.int .i64 1, .int .i64 1, .string ⟨#[83, 104, 101, 101, 116, 49]⟩, .int .i64 1, .int .i64 (xs.length : Int), .string ⟨#[83, 104, 101, 101, 116, 49]⟩])] (by rfl) rfl rfl (by (try simp only [List.map_toArray, List.map_cons, List.map_nil]); rfl) ?_
      refine (pushA l 142 (.agg #[.int .i64 1, .int .i64 1, .string ⟨#[83, 104, 101, 101, 116, 49]⟩, .int .i64 1, .int .i64 (xs.length : Int), .string ⟨#[83, 104, 101, 101, 116, 49]⟩]) w _ BL.out GB.out HB.out).mono ?_
      rintro ex w6 ⟨el, ge, geb, nle, rfl, hl, he, hb, hk⟩
      have n0_ := Aside0.mk (hk.blk BO.out (Nat.ne_of_lt GL.out) (by simp))
      have n1_ := Aside0.mk (hk.blk BR.out (by have := GL.out; have := GO.out; omega) (by simp))
      have n2_ := Aside0.mk (Kd.R_keep HO.out hk (fun k hk2 => by have := GL.out; have h_ : k < w2.heap.size := hk2.1; omega))
      clear BO BR HO HB BL
      have BO := n0_
      have BR := n1_
      have HO := n2_
      have HB := Aside0.mk hb
      clear n0_ n1_ n2_ hb hk hl he
      refine ⟨_, rfl, ?_⟩
      refine hK.out _ _ ?_
      clear hK K
      refine norm_ (a' := ?_) ?_ ?_
      rotate_left
      · show Act.put _ (some 82) _ = _
        simp only [Act.put, List.setIfInBounds_toArray, List.set_cons_zero, List.set_cons_succ, i64_w, i32_w]
        rfl
      refine done_ (by kernel_rfl) ?_

      have hca0 : w6.cell? ⟨w2.heap.size, 0, none⟩ = some (.string ⟨#[]⟩) := (blk_cell BO.out 0).trans rfl
      have hca1 : w6.cell? ⟨w2.heap.size, 1, none⟩ = some (.float .f64 0) := (blk_cell BO.out 1).trans rfl
      have hca2 : w6.cell? ⟨w2.heap.size, 2, none⟩ = some (.string ⟨#[]⟩) := (blk_cell BO.out 2).trans rfl
      have hca3 : w6.cell? ⟨w2.heap.size, 3, none⟩ = some (.slice none 0 0) := (blk_cell BO.out 3).trans rfl
      have hca4 : w6.cell? ⟨w2.heap.size, 4, none⟩ = some (.slice (some ad3) xs.length c3) := (blk_cell BO.out 4).trans rfl
      have hca5 : w6.cell? ⟨w2.heap.size, 5, none⟩ = some (.bool false) := (blk_cell BO.out 5).trans rfl
      have hca6 : w6.cell? ⟨w2.heap.size, 6, none⟩ = some (.string ⟨#[]⟩) := (blk_cell BO.out 6).trans rfl
      have hca7 : w6.cell? ⟨w2.heap.size, 7, none⟩ = some (.int .u8 4) := (blk_cell BO.out 7).trans rfl
      have hca8 : w6.cell? ⟨w2.heap.size, 8, none⟩ = some (.pointer (some ⟨lq, 0, none⟩)) := (blk_cell BO.out 8).trans rfl
      have hca9 : w6.cell? ⟨w2.heap.size, 9, none⟩ = some (.pointer (some ⟨l, 0, none⟩)) := (blk_cell BO.out 9).trans rfl
      have hcb0 : w6.cell? ⟨w.heap.size + 1, 0, none⟩ = some (.string ⟨#[]⟩) := (blk_cell BR.out 0).trans rfl
      have hfb0 : w6.frozen? ⟨w.heap.size + 1, 0, none⟩ = false := blk_frozen BR.out 0
      have hcb1 : w6.cell? ⟨w.heap.size + 1, 1, none⟩ = some (.float .f64 0) := (blk_cell BR.out 1).trans rfl
      have hfb1 : w6.frozen? ⟨w.heap.size + 1, 1, none⟩ = false := blk_frozen BR.out 1
      have hcb2 : w6.cell? ⟨w.heap.size + 1, 2, none⟩ = some (.string ⟨#[]⟩) := (blk_cell BR.out 2).trans rfl
      have hfb2 : w6.frozen? ⟨w.heap.size + 1, 2, none⟩ = false := blk_frozen BR.out 2
      have hcb3 : w6.cell? ⟨w.heap.size + 1, 3, none⟩ = some (.slice none 0 0) := (blk_cell BR.out 3).trans rfl
      have hfb3 : w6.frozen? ⟨w.heap.size + 1, 3, none⟩ = false := blk_frozen BR.out 3
      have hcb4 : w6.cell? ⟨w.heap.size + 1, 4, none⟩ = some (.slice none 0 0) := (blk_cell BR.out 4).trans rfl
      have hfb4 : w6.frozen? ⟨w.heap.size + 1, 4, none⟩ = false := blk_frozen BR.out 4
      have hcb5 : w6.cell? ⟨w.heap.size + 1, 5, none⟩ = some (.bool false) := (blk_cell BR.out 5).trans rfl
      have hfb5 : w6.frozen? ⟨w.heap.size + 1, 5, none⟩ = false := blk_frozen BR.out 5
      have hcb6 : w6.cell? ⟨w.heap.size + 1, 6, none⟩ = some (.string ⟨#[]⟩) := (blk_cell BR.out 6).trans rfl
      have hfb6 : w6.frozen? ⟨w.heap.size + 1, 6, none⟩ = false := blk_frozen BR.out 6
      have hcb7 : w6.cell? ⟨w.heap.size + 1, 7, none⟩ = some (.int .u8 0) := (blk_cell BR.out 7).trans rfl
      have hfb7 : w6.frozen? ⟨w.heap.size + 1, 7, none⟩ = false := blk_frozen BR.out 7
      have hcb8 : w6.cell? ⟨w.heap.size + 1, 8, none⟩ = some (.pointer none) := (blk_cell BR.out 8).trans rfl
      have hfb8 : w6.frozen? ⟨w.heap.size + 1, 8, none⟩ = false := blk_frozen BR.out 8
      have hcb9 : w6.cell? ⟨w.heap.size + 1, 9, none⟩ = some (.pointer none) := (blk_cell BR.out 9).trans rfl
      have hfb9 : w6.frozen? ⟨w.heap.size + 1, 9, none⟩ = false := blk_frozen BR.out 9
      go_wp2
      refine bodyPost_ret (results_cell_row rfl _ _ (w.heap.size + 1) 96 #[.string ⟨#[]⟩, .float .f64 0, .string ⟨#[]⟩, .slice none 0 0, .slice (some ad3) xs.length c3, .bool false, .string ⟨#[]⟩, .int .u8 4, .pointer (some ⟨lq, 0, none⟩), .pointer (some ⟨l, 0, none⟩)] (0, 0) _ rfl (show (Flt.sets w6 (w.heap.size + 1) 0 [.string ⟨#[]⟩, .float .f64 0, .string ⟨#[]⟩, .slice none 0 0, .slice (some ad3) xs.length c3, .bool false, .string ⟨#[]⟩, .int .u8 4, .pointer (some ⟨lq, 0, none⟩), .pointer (some ⟨l, 0, none⟩)]).heap[w.heap.size + 1]? = some (.cells #[.string ⟨#[]⟩, .float .f64 0, .string ⟨#[]⟩, .slice none 0 0, .slice (some ad3) xs.length c3, .bool false, .string ⟨#[]⟩, .int .u8 4, .pointer (some ⟨lq, 0, none⟩), .pointer (some ⟨l, 0, none⟩)] 96 (0, 0)) from Flt.sets_all [.string ⟨#[]⟩, .float .f64 0, .string ⟨#[]⟩, .slice none 0 0, .slice (some ad3) xs.length c3, .bool false, .string ⟨#[]⟩, .int .u8 4, .pointer (some ⟨lq, 0, none⟩), .pointer (some ⟨l, 0, none⟩)] BR.out rfl) Try.underlying96 rfl (by kernel_rfl)) rfl ?_
      refine ⟨_, _, _, by rfl, ?_, (show Below w.heap.size w (Flt.sets w6 (w.heap.size + 1) 0 [.string ⟨#[]⟩, .float .f64 0, .string ⟨#[]⟩, .slice none 0 0, .slice (some ad3) xs.length c3, .bool false, .string ⟨#[]⟩, .int .u8 4, .pointer (some ⟨lq, 0, none⟩), .pointer (some ⟨l, 0, none⟩)]) from Flt.sets_below (Nat.le_succ _) _ _ _ HB.out)⟩
      exact (show (kCol 96 kA).R 91 (Flt.sets w6 (w.heap.size + 1) 0 [.string ⟨#[]⟩, .float .f64 0, .string ⟨#[]⟩, .slice none 0 0, .slice (some ad3) xs.length c3, .bool false, .string ⟨#[]⟩, .int .u8 4, .pointer (some ⟨lq, 0, none⟩), .pointer (some ⟨l, 0, none⟩)]) _ _ _ _ from Kd.R_mono (Kd.R_step (Kd.R_mono (ok' := fun k => k ≠ w.heap.size + 1) HO.out (fun k hk => hk.2)) (fun k hk _ => Flt.sets_far hk _ _ _)) (fun _ _ => trivial))
end Go.Proofs.Ytjefbpfpobgmaaa.FrR
