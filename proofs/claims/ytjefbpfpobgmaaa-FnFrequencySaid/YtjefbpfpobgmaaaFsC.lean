/- FnFrequency, walks: a column is compared with one of the reference: they are the same where they hold the same numbers. Conditions: the numbers' sizes. -/
import Derived.Test.YtjefbpfpobgmaaaFsA
namespace Go.Proofs.Ytjefbpfpobgmaaa.FsC
open Go.RowKit Go.Proofs.YtjefbpfpobgmaaaW.PrintWords Go.Proofs.YtjefbpfpobgmaaaW.PrintLast Go.Proofs.YtjefbpfpobgmaaaW.PrintMore Go.Proofs.Ytjefbpfpobgmaaa.FrA Go.Proofs.Ytjefbpfpobgmaaa.FrB Go.Proofs.Ytjefbpfpobgmaaa.FrK Go.Proofs.Ytjefbpfpobgmaaa.FrL Go.Proofs.Ytjefbpfpobgmaaa.FrM Go.Proofs.Ytjefbpfpobgmaaa.FrN Go.Proofs.Ytjefbpfpobgmaaa.FrR Go.Proofs.Ytjefbpfpobgmaaa.FsA
set_option linter.unusedVariables false
set_option linter.unusedSimpArgs false
attribute [local go_sem] Flt.run_store_float
set_option maxHeartbeats 4000000 in
set_option maxRecDepth 100000 in
theorem same_col (xs : List Int) (hx : ∀ x ∈ xs, -500 ≤ x ∧ x ≤ 500) (hn : xs.length ≤ 100) (A1 A2 : Option Addr) (c1 c2 : Nat) (w : World) (hr1 : (kCol 42 kI).C w A1 xs.length (rws xs)) (hr2 : (kCol 48 kS).C w A2 xs.length (rws xs)) :
    Calls Try.prog 16 #[.agg #[.int .i64 5, .float .f64 0, .string ⟨#[]⟩, .slice A1 xs.length c1], tabV (.slice A2 xs.length c2)] w fun e w' => e = .returned (.bool true) ∧ Below w.heap.size w w' := by
  have HX := Aside0.mk (And.intro hx hn)
  have HC1 := Aside0.mk (Kd.C_alloc (Kd.C_alloc hr1 (.cells #[.int .i64 5, .float .f64 0, .string ⟨#[]⟩, .slice A1 xs.length c1] 42)) (.cells #[.int .i64 5, .int .i64 0, .int .i64 0, .string ⟨#[]⟩, .slice A2 xs.length c2] 48))
  have HC2 := Aside0.mk (Kd.C_alloc (Kd.C_alloc hr2 (.cells #[.int .i64 5, .float .f64 0, .string ⟨#[]⟩, .slice A1 xs.length c1] 42)) (.cells #[.int .i64 5, .int .i64 0, .int .i64 0, .string ⟨#[]⟩, .slice A2 xs.length c2] 48))
  have HB := Aside0.mk (below_alloc (below_alloc (Below.refl w.heap.size w) (.cells #[.int .i64 5, .float .f64 0, .string ⟨#[]⟩, .slice A1 xs.length c1] 42)) (.cells #[.int .i64 5, .int .i64 0, .int .i64 0, .string ⟨#[]⟩, .slice A2 xs.length c2] 48))
  have B2 := Aside0.mk (blk_alloc (blk_new w (.cells #[.int .i64 5, .float .f64 0, .string ⟨#[]⟩, .slice A1 xs.length c1] 42)) (.cells #[.int .i64 5, .int .i64 0, .int .i64 0, .string ⟨#[]⟩, .slice A2 xs.length c2] 48))
  have B3 := Aside0.mk (show ((w.alloc (.cells #[.int .i64 5, .float .f64 0, .string ⟨#[]⟩, .slice A1 xs.length c1] 42)).alloc (.cells #[.int .i64 5, .int .i64 0, .int .i64 0, .string ⟨#[]⟩, .slice A2 xs.length c2] 48)).heap[w.heap.size + 1]? = some (.cells #[.int .i64 5, .int .i64 0, .int .i64 0, .string ⟨#[]⟩, .slice A2 xs.length c2] 48 (0, 0)) by
    have h_ := blk_new (w.alloc (.cells #[.int .i64 5, .float .f64 0, .string ⟨#[]⟩, .slice A1 xs.length c1] 42)) (.cells #[.int .i64 5, .int .i64 0, .int .i64 0, .string ⟨#[]⟩, .slice A2 xs.length c2] 48)
    rw [World.size_alloc] at h_
    exact h_)
  have oz : (FloatKind.f64.format.order 0 0) = some .eq := by decide +kernel
  clear hx hn hr1 hr2
  go_enter Try.func16, Try.ntmps16
  have hb3 : ∀ j u, #[.int .i64 5, .int .i64 0, .int .i64 0, .string ⟨#[]⟩, .slice A2 xs.length c2][j]? = some u → ((w.alloc (.cells #[.int .i64 5, .float .f64 0, .string ⟨#[]⟩, .slice A1 xs.length c1] 42)).alloc (.cells #[.int .i64 5, .int .i64 0, .int .i64 0, .string ⟨#[]⟩, .slice A2 xs.length c2] 48)).cell? ⟨w.heap.size + 1, j, none⟩ = some u := fun j u hu => (blk_cell B3.out j).trans hu
  go_upto_region 2 with (go_at_call 27; (with_reducible refine (of_col xs HX.out.1 HX.out.2 A2 c2 _ HC2.out).mono ?_); rintro e w2 ⟨v, rfl, ho, hb⟩; obtain ⟨A5, c5, e5⟩ := Kd.R_slice ho; rw [rws_len] at e5; subst e5; have n0_ := Aside0.mk (below_step HB.out hb); have n1_ := Aside0.mk (blk_below B2.out hb); have n2_ := Aside0.mk (blk_below B3.out hb); have n3_ := Aside0.mk (Kd.C_below HC1.out hb); have n4_ := Aside0.mk (Kd.C_below HC2.out hb); clear HB B2 B3 HC1 HC2 hb ho hb3; have HB := n0_; have B2 := n1_; have B3 := n2_; have HC1 := n3_; have HC2 := n4_; clear n0_ n1_ n2_ n3_ n4_)
  have B5 := Aside0.mk (blk_new w2 (.cells #[.int .i64 5, .float .f64 0, .string ⟨#[]⟩, .slice A5 xs.length c5] 42))
  have n0_ := Aside0.mk (below_alloc HB.out (.cells #[.int .i64 5, .float .f64 0, .string ⟨#[]⟩, .slice A5 xs.length c5] 42))
  have n1_ := Aside0.mk (blk_alloc B2.out (.cells #[.int .i64 5, .float .f64 0, .string ⟨#[]⟩, .slice A5 xs.length c5] 42))
  have n2_ := Aside0.mk (blk_alloc B3.out (.cells #[.int .i64 5, .float .f64 0, .string ⟨#[]⟩, .slice A5 xs.length c5] 42))
  have n3_ := Aside0.mk (Kd.C_alloc HC1.out (.cells #[.int .i64 5, .float .f64 0, .string ⟨#[]⟩, .slice A5 xs.length c5] 42))
  have n4_ := Aside0.mk (Kd.C_alloc HC2.out (.cells #[.int .i64 5, .float .f64 0, .string ⟨#[]⟩, .slice A5 xs.length c5] 42))
  clear HB B2 B3 HC1 HC2
  have HB := n0_
  have B2 := n1_
  have B3 := n2_
  have HC1 := n3_
  have HC2 := n4_
  clear n0_ n1_ n2_ n3_ n4_
  generalize w2.alloc (.cells #[.int .i64 5, .float .f64 0, .string ⟨#[]⟩, .slice A5 xs.length c5] 42) = w3 at HB B2 B3 B5 HC1 HC2 ⊢
  have hx0 : w3.cell? ⟨w.heap.size, 0, none⟩ = some (.int .i64 5) := (blk_cell B2.out 0).trans rfl
  have hx1 : w3.cell? ⟨w.heap.size, 1, none⟩ = some (.float .f64 0) := (blk_cell B2.out 1).trans rfl
  have hx2 : w3.cell? ⟨w.heap.size, 2, none⟩ = some (.string ⟨#[]⟩) := (blk_cell B2.out 2).trans rfl
  have hx3 : w3.cell? ⟨w.heap.size, 3, none⟩ = some (.slice A1 xs.length c1) := (blk_cell B2.out 3).trans rfl
  have hy0 : w3.cell? ⟨w2.heap.size, 0, none⟩ = some (.int .i64 5) := (blk_cell B5.out 0).trans rfl
  have hy1 : w3.cell? ⟨w2.heap.size, 1, none⟩ = some (.float .f64 0) := (blk_cell B5.out 1).trans rfl
  have hy2 : w3.cell? ⟨w2.heap.size, 2, none⟩ = some (.string ⟨#[]⟩) := (blk_cell B5.out 2).trans rfl
  have hy3 : w3.cell? ⟨w2.heap.size, 3, none⟩ = some (.slice A5 xs.length c5) := (blk_cell B5.out 3).trans rfl
  have HB3 := Aside0.mk (Below.refl w3.heap.size w3)
  go_wp2
  clear hx0 hy0 hx1 hy1 hx2 hy2 hx3 hy3
  go_loopg [6] (xs.length) (fun kq v6 w' => ∃ (i : Nat) (xi : Int), v6 = .int .i64 xi ∧ Aside0 (xi = i ∧ i ≤ xs.length ∧ kq = xs.length - i) ∧ Aside0 (Below w3.heap.size w3 w'))
  case atStart => exact ⟨0, 0, rfl, ⟨⟨rfl, Nat.zero_le _, rfl⟩⟩, HB3⟩
  case round =>
    clear HB3
    obtain ⟨i, xi, rfl, HI, HB3⟩ := hrel
    have hs0 : wr.cell? ⟨w.heap.size, 3, none⟩ = some (.slice A1 xs.length c1) := (blk_cell (blk_below B2.out HB3.out) 3).trans rfl
    by_cases hi : i < xs.length
    · have q1 : xi < (xs.length : Int) := by have := HI.out; omega
      have p1 : 0 ≤ xi := by have := HI.out; omega
      have cc : decide (xi < (xs.length : Int)) = true := decide_eq_true q1
      obtain ⟨ad1, R1, k1, e1, hr1, _, hC1⟩ := row_at HC1.out xi p1 q1
      cases e1
      obtain ⟨ad2, R2, k2, e2, hr2, _, hC2⟩ := row_at HC2.out xi p1 q1
      cases e2
      obtain ⟨x, hxe⟩ : ∃ x, x = xs.getD xi.toNat 0 := ⟨_, rfl⟩
      rw [← hxe] at hC1 hC2
      have hgx : xs[i]? = some x := by
        have h1 := HI.out.1
        subst h1
        rw [hxe, List.getElem?_eq_getElem hi]
        simp [List.getD_eq_getElem?_getD, hi]
      have HX1 := Aside0.mk (HX.out.1 x (List.mem_of_getElem? hgx))
      obtain ⟨r1, e3, hx1⟩ := cell_one hC1
      subst e3
      obtain ⟨r2, e4, hx2⟩ := cell_one hC2
      subst e4
      have Hs0 := Aside0.mk (show w3.cell? ⟨w.heap.size, 3, none⟩ = some (.slice (some ad1) xs.length c1) from (blk_cell B2.out 3).trans rfl)
      have Hs1 := Aside0.mk (show w3.cell? ⟨w.heap.size + 1, 4, none⟩ = some (.slice (some ad2) xs.length c2) from (blk_cell B3.out 4).trans rfl)
      have Hs2 := Aside0.mk hr1
      have Hs3 := Aside0.mk hr2
      have Ha0 := Aside0.mk (show w3.cell? r1 = some (.int .i64 1) from hx1.1 _ rfl)
      have Ha1 := Aside0.mk (show w3.cell? ⟨r1.block, r1.off + 1, none⟩ = some (.float .f64 (fl x)) from hx1.2 1 _ (by decide) rfl)
      have Ha2 := Aside0.mk (show w3.cell? ⟨r1.block, r1.off + 2, none⟩ = some (.string ⟨#[]⟩) from hx1.2 2 _ (by decide) rfl)
      have Ha3 := Aside0.mk (show w3.cell? ⟨r1.block, r1.off + 3, none⟩ = some (.slice none 0 0) from hx1.2 3 _ (by decide) rfl)
      have Hb0 := Aside0.mk (show w3.cell? r2 = some (.int .i64 1) from hx2.1 _ rfl)
      have Hb1 := Aside0.mk (show w3.cell? ⟨r2.block, r2.off + 1, none⟩ = some (.int .i64 x) from hx2.2 1 _ (by decide) rfl)
      have Hb2 := Aside0.mk (show w3.cell? ⟨r2.block, r2.off + 2, none⟩ = some (.int .i64 1) from hx2.2 2 _ (by decide) rfl)
      have Hb3 := Aside0.mk (show w3.cell? ⟨r2.block, r2.off + 3, none⟩ = some (.string ⟨#[]⟩) from hx2.2 3 _ (by decide) rfl)
      have Hb4 := Aside0.mk (show w3.cell? ⟨r2.block, r2.off + 4, none⟩ = some (.slice none 0 0) from hx2.2 4 _ (by decide) rfl)
      have p1' := eq_true p1
      have q1' := eq_true q1
      have hw1 : wrap64 (xi + 1) = xi + 1 := by have := HX.out.2; unfold wrap64; omega
      have hlen := Aside0.mk hi
      clear hi hxe hgx p1 q1 hC1 hC2 hx1 hx2 hr1 hr2
      go_upto_region 7 with fail
      clear hs0
      go_upto_region 7 with fail
      have n0_ := Aside0.mk (below_drew1 HB3.out)
      clear HB3
      have HB3 := n0_
      clear n0_
      have hs0 := (HB3.out.cell (World.block_lt_of_cell? w3 _ Hs0.out)).trans Hs0.out
      have hs1 := (HB3.out.cell (World.block_lt_of_cell? w3 _ Hs1.out)).trans Hs1.out
      have hs2 := (HB3.out.cell (World.block_lt_of_cell? w3 _ Hs2.out)).trans Hs2.out
      have hs3 := (HB3.out.cell (World.block_lt_of_cell? w3 _ Hs3.out)).trans Hs3.out
      refine start_ (n := 13) (S := fun w' => w'.cell? ⟨w.heap.size, 3, none⟩ = some (.slice (some ad1) xs.length c1) ∧ w'.cell? ⟨w.heap.size + 1, 4, none⟩ = some (.slice (some ad2) xs.length c2) ∧ w'.cell? (ad1.add xi.toNat) = some (.slice (some r1) 1 k1) ∧ w'.cell? (ad2.add xi.toNat) = some (.slice (some r2) 1 k2)) (ds := []) #[false, false, false, false, false, false, false, false, false, false, false, false, false] (by kernel_rfl) rfl rfl ⟨hs0, hs1, hs2, hs3⟩ (fun hHeld => ?_)
      refine pure_ (i := 0) (N := some 45) (v := ?_) (a' := ?_) #[true, false, false, false, false, false, false, false, false, false, false, false, false] rfl rfl (by kernel_rfl) (fun _ _ _ h => h) (Or.inl ⟨by rfl, ?_⟩) ?_ ?_
      rotate_left
      · intro w'
        go_simp
        with_reducible rfl
      rotate_left
      · simp only [Act.put, List.setIfInBounds_toArray, List.set_cons_zero, List.set_cons_succ, i64_w, i32_w]
        rfl
      refine pure_ (i := 2) (N := some 47) (v := ?_) (a' := ?_) #[true, false, true, false, false, false, false, false, false, false, false, false, false] rfl rfl (by kernel_rfl) (fun _ _ _ h => h) (Or.inl ⟨by rfl, ?_⟩) ?_ ?_
      rotate_left
      · intro w'
        go_simp
        with_reducible rfl
      rotate_left
      · simp only [Act.put, List.setIfInBounds_toArray, List.set_cons_zero, List.set_cons_succ, i64_w, i32_w]
        rfl
      refine pure_ (i := 6) (N := some 51) (v := ?_) (a' := ?_) #[true, false, true, false, false, false, true, false, false, false, false, false, false] rfl rfl (by kernel_rfl) (fun _ _ _ h => h) (Or.inl ⟨by rfl, ?_⟩) ?_ ?_
      rotate_left
      · intro w'
        go_simp
        with_reducible rfl
      rotate_left
      · simp only [Act.put, List.setIfInBounds_toArray, List.set_cons_zero, List.set_cons_succ, i64_w, i32_w]
        rfl
      refine pure_ (i := 8) (N := some 53) (v := ?_) (a' := ?_) #[true, false, true, false, false, false, true, false, true, false, false, false, false] rfl rfl (by kernel_rfl) (fun _ _ _ h => h) (Or.inl ⟨by rfl, ?_⟩) ?_ ?_
      rotate_left
      · intro w'
        go_simp
        with_reducible rfl
      rotate_left
      · simp only [Act.put, List.setIfInBounds_toArray, List.set_cons_zero, List.set_cons_succ, i64_w, i32_w]
        rfl
      refine take_ (i := 1) (N := some 46) (v := ?_) (a' := ?_) #[true, true, true, false, false, false, true, false, true, false, false, false, false] rfl rfl (by kernel_rfl) (fun _ _ _ h => h) (Or.inl ⟨by rfl, ?_⟩) hHeld ?_ ?_
      rotate_left
      · rintro w' ⟨s0, s1, s2, s3⟩
        go_simp
        with_reducible rfl
      rotate_left
      · simp only [Act.put, List.setIfInBounds_toArray, List.set_cons_zero, List.set_cons_succ, i64_w, i32_w]
        rfl
      refine pure_ (i := 3) (N := some 48) (v := ?_) (a' := ?_) #[true, true, true, true, false, false, true, false, true, false, false, false, false] rfl rfl (by kernel_rfl) (fun _ _ _ h => h) (Or.inl ⟨by rfl, ?_⟩) ?_ ?_
      rotate_left
      · intro w'
        go_simp
        with_reducible rfl
      rotate_left
      · simp only [Act.put, List.setIfInBounds_toArray, List.set_cons_zero, List.set_cons_succ, i64_w, i32_w]
        rfl
      refine take_ (i := 4) (N := some 49) (v := ?_) (a' := ?_) #[true, true, true, true, true, false, true, false, true, false, false, false, false] rfl rfl (by kernel_rfl) (fun _ _ _ h => h) (Or.inl ⟨by rfl, ?_⟩) hHeld ?_ ?_
      rotate_left
      · rintro w' ⟨s0, s1, s2, s3⟩
        go_simp
        with_reducible rfl
      rotate_left
      · simp only [Act.put, List.setIfInBounds_toArray, List.set_cons_zero, List.set_cons_succ, i64_w, i32_w]
        rfl
      refine pure_ (i := 5) (N := some 50) (v := ?_) (a' := ?_) #[true, true, true, true, true, true, true, false, true, false, false, false, false] rfl rfl (by kernel_rfl) (fun _ _ _ h => h) (Or.inl ⟨by rfl, ?_⟩) ?_ ?_
      rotate_left
      · intro w'
        go_simp
        with_reducible rfl
      rotate_left
      · simp only [Act.put, List.setIfInBounds_toArray, List.set_cons_zero, List.set_cons_succ, i64_w, i32_w]
        rfl
      refine take_ (i := 7) (N := some 52) (v := ?_) (a' := ?_) #[true, true, true, true, true, true, true, true, true, false, false, false, false] rfl rfl (by kernel_rfl) (fun _ _ _ h => h) (Or.inl ⟨by rfl, ?_⟩) hHeld ?_ ?_
      rotate_left
      · rintro w' ⟨s0, s1, s2, s3⟩
        go_simp
        with_reducible rfl
      rotate_left
      · simp only [Act.put, List.setIfInBounds_toArray, List.set_cons_zero, List.set_cons_succ, i64_w, i32_w]
        rfl
      refine pure_ (i := 9) (N := some 54) (v := ?_) (a' := ?_) #[true, true, true, true, true, true, true, true, true, true, false, false, false] rfl rfl (by kernel_rfl) (fun _ _ _ h => h) (Or.inl ⟨by rfl, ?_⟩) ?_ ?_
      rotate_left
      · intro w'
        go_simp
        with_reducible rfl
      rotate_left
      · simp only [Act.put, List.setIfInBounds_toArray, List.set_cons_zero, List.set_cons_succ, i64_w, i32_w]
        rfl
      refine take_ (i := 10) (N := some 55) (v := ?_) (a' := ?_) #[true, true, true, true, true, true, true, true, true, true, true, false, false] rfl rfl (by kernel_rfl) (fun _ _ _ h => h) (Or.inl ⟨by rfl, ?_⟩) hHeld ?_ ?_
      rotate_left
      · rintro w' ⟨s0, s1, s2, s3⟩
        go_simp
        with_reducible rfl
      rotate_left
      · simp only [Act.put, List.setIfInBounds_toArray, List.set_cons_zero, List.set_cons_succ, i64_w, i32_w]
        rfl
      refine pure_ (i := 11) (N := some 56) (v := ?_) (a' := ?_) #[true, true, true, true, true, true, true, true, true, true, true, true, false] rfl rfl (by kernel_rfl) (fun _ _ _ h => h) (Or.inl ⟨by rfl, ?_⟩) ?_ ?_
      rotate_left
      · intro w'
        go_simp
        with_reducible rfl
      rotate_left
      · simp only [Act.put, List.setIfInBounds_toArray, List.set_cons_zero, List.set_cons_succ, i64_w, i32_w]
        rfl
      refine pure_ (i := 12) (N := some 57) (v := ?_) (a' := ?_) #[true, true, true, true, true, true, true, true, true, true, true, true, true] rfl rfl (by kernel_rfl) (fun _ _ _ h => h) (Or.inl ⟨by rfl, ?_⟩) ?_ ?_
      rotate_left
      · intro w'
        go_simp
        with_reducible rfl
      rotate_left
      · simp only [Act.put, List.setIfInBounds_toArray, List.set_cons_zero, List.set_cons_succ, i64_w, i32_w]
        rfl
      refine done_ (by kernel_rfl) ?_
      
      clear hs0 hs1 hs2 hs3
      have hs0 := (HB3.out.cell (World.block_lt_of_cell? w3 _ Hs0.out)).trans Hs0.out
      have hs1 := (HB3.out.cell (World.block_lt_of_cell? w3 _ Hs1.out)).trans Hs1.out
      have hs2 := (HB3.out.cell (World.block_lt_of_cell? w3 _ Hs2.out)).trans Hs2.out
      have hs3 := (HB3.out.cell (World.block_lt_of_cell? w3 _ Hs3.out)).trans Hs3.out
      go_wp2
      refine wp_loop_rounds 2 ?_
      rw [rounds_succ]
      go_upto_region 12 with fail
      clear hs0 hs1 hs2 hs3
      go_upto_region 12 with fail
      have n0_ := Aside0.mk (below_drew1 HB3.out)
      clear HB3
      have HB3 := n0_
      clear n0_
      have hs0 := (HB3.out.cell (World.block_lt_of_cell? w3 _ Hs0.out)).trans Hs0.out
      have hs1 := (HB3.out.cell (World.block_lt_of_cell? w3 _ Hs1.out)).trans Hs1.out
      have hs2 := (HB3.out.cell (World.block_lt_of_cell? w3 _ Hs2.out)).trans Hs2.out
      have hs3 := (HB3.out.cell (World.block_lt_of_cell? w3 _ Hs3.out)).trans Hs3.out
      have ha0 := (HB3.out.cell (World.block_lt_of_cell? w3 _ Ha0.out)).trans Ha0.out
      have ha1 := (HB3.out.cell (World.block_lt_of_cell? w3 _ Ha1.out)).trans Ha1.out
      have ha2 := (HB3.out.cell (World.block_lt_of_cell? w3 _ Ha2.out)).trans Ha2.out
      have ha3 := (HB3.out.cell (World.block_lt_of_cell? w3 _ Ha3.out)).trans Ha3.out
      have hb0 := (HB3.out.cell (World.block_lt_of_cell? w3 _ Hb0.out)).trans Hb0.out
      have hb1 := (HB3.out.cell (World.block_lt_of_cell? w3 _ Hb1.out)).trans Hb1.out
      have hb2 := (HB3.out.cell (World.block_lt_of_cell? w3 _ Hb2.out)).trans Hb2.out
      have hb3 := (HB3.out.cell (World.block_lt_of_cell? w3 _ Hb3.out)).trans Hb3.out
      have hb4 := (HB3.out.cell (World.block_lt_of_cell? w3 _ Hb4.out)).trans Hb4.out
      refine start_ (n := 18) (S := fun w' => w'.cell? ⟨w.heap.size, 3, none⟩ = some (.slice (some ad1) xs.length c1) ∧ w'.cell? ⟨w.heap.size + 1, 4, none⟩ = some (.slice (some ad2) xs.length c2) ∧ w'.cell? (ad1.add xi.toNat) = some (.slice (some r1) 1 k1) ∧ w'.cell? (ad2.add xi.toNat) = some (.slice (some r2) 1 k2) ∧ w'.cell? r1 = some (.int .i64 1) ∧ w'.cell? ⟨r1.block, r1.off + 1, none⟩ = some (.float .f64 (fl x)) ∧ w'.cell? ⟨r1.block, r1.off + 2, none⟩ = some (.string ⟨#[]⟩) ∧ w'.cell? ⟨r1.block, r1.off + 3, none⟩ = some (.slice none 0 0) ∧ w'.cell? r2 = some (.int .i64 1) ∧ w'.cell? ⟨r2.block, r2.off + 1, none⟩ = some (.int .i64 x) ∧ w'.cell? ⟨r2.block, r2.off + 2, none⟩ = some (.int .i64 1) ∧ w'.cell? ⟨r2.block, r2.off + 3, none⟩ = some (.string ⟨#[]⟩) ∧ w'.cell? ⟨r2.block, r2.off + 4, none⟩ = some (.slice none 0 0)) (ds := []) #[false, false, false, false, false, false, false, false, false, false, false, false, false, false, false, false, false, false] (by kernel_rfl) rfl rfl ⟨hs0, hs1, hs2, hs3, ha0, ha1, ha2, ha3, hb0, hb1, hb2, hb3, hb4⟩ (fun hHeld => ?_)
      generalize wr.drew.drew = w5 at HB3 hHeld ⊢
      refine pure_ (i := 0) (N := some 68) (v := ?_) (a' := ?_) #[true, false, false, false, false, false, false, false, false, false, false, false, false, false, false, false, false, false] rfl rfl (by kernel_rfl) (fun _ _ _ h => h) (Or.inl ⟨by rfl, ?_⟩) ?_ ?_
      rotate_left
      · intro w'
        go_simp
        with_reducible rfl
      rotate_left
      · simp only [Act.put, List.setIfInBounds_toArray, List.set_cons_zero, List.set_cons_succ, i64_w, i32_w]
        rfl
      refine pure_ (i := 2) (N := some 70) (v := ?_) (a' := ?_) #[true, false, true, false, false, false, false, false, false, false, false, false, false, false, false, false, false, false] rfl rfl (by kernel_rfl) (fun _ _ _ h => h) (Or.inl ⟨by rfl, ?_⟩) ?_ ?_
      rotate_left
      · intro w'
        go_simp
        with_reducible rfl
      rotate_left
      · simp only [Act.put, List.setIfInBounds_toArray, List.set_cons_zero, List.set_cons_succ, i64_w, i32_w]
        rfl
      refine pure_ (i := 5) (N := some 73) (v := ?_) (a' := ?_) #[true, false, true, false, false, true, false, false, false, false, false, false, false, false, false, false, false, false] rfl rfl (by kernel_rfl) (fun _ _ _ h => h) (Or.inl ⟨by rfl, ?_⟩) ?_ ?_
      rotate_left
      · intro w'
        go_simp
        with_reducible rfl
      rotate_left
      · simp only [Act.put, List.setIfInBounds_toArray, List.set_cons_zero, List.set_cons_succ, i64_w, i32_w]
        rfl
      refine pure_ (i := 8) (N := some 76) (v := ?_) (a' := ?_) #[true, false, true, false, false, true, false, false, true, false, false, false, false, false, false, false, false, false] rfl rfl (by kernel_rfl) (fun _ _ _ h => h) (Or.inl ⟨by rfl, ?_⟩) ?_ ?_
      rotate_left
      · intro w'
        go_simp
        with_reducible rfl
      rotate_left
      · simp only [Act.put, List.setIfInBounds_toArray, List.set_cons_zero, List.set_cons_succ, i64_w, i32_w]
        rfl
      refine pure_ (i := 10) (N := some 78) (v := ?_) (a' := ?_) #[true, false, true, false, false, true, false, false, true, false, true, false, false, false, false, false, false, false] rfl rfl (by kernel_rfl) (fun _ _ _ h => h) (Or.inl ⟨by rfl, ?_⟩) ?_ ?_
      rotate_left
      · intro w'
        go_simp
        with_reducible rfl
      rotate_left
      · simp only [Act.put, List.setIfInBounds_toArray, List.set_cons_zero, List.set_cons_succ, i64_w, i32_w]
        rfl
      refine pure_ (i := 13) (N := some 81) (v := ?_) (a' := ?_) #[true, false, true, false, false, true, false, false, true, false, true, false, false, true, false, false, false, false] rfl rfl (by kernel_rfl) (fun _ _ _ h => h) (Or.inl ⟨by rfl, ?_⟩) ?_ ?_
      rotate_left
      · intro w'
        go_simp
        with_reducible rfl
      rotate_left
      · simp only [Act.put, List.setIfInBounds_toArray, List.set_cons_zero, List.set_cons_succ, i64_w, i32_w]
        rfl
      refine take_ (i := 1) (N := some 69) (v := ?_) (a' := ?_) #[true, true, true, false, false, true, false, false, true, false, true, false, false, true, false, false, false, false] rfl rfl (by kernel_rfl) (fun _ _ _ h => h) (Or.inl ⟨by rfl, ?_⟩) hHeld ?_ ?_
      rotate_left
      · rintro w' ⟨s0, s1, s2, s3, s4, s5, s6, s7, s8, s9, s10, s11, s12⟩
        go_simp
        with_reducible rfl
      rotate_left
      · simp only [Act.put, List.setIfInBounds_toArray, List.set_cons_zero, List.set_cons_succ, i64_w, i32_w]
        rfl
      refine pure_ (i := 3) (N := some 71) (v := ?_) (a' := ?_) #[true, true, true, true, false, true, false, false, true, false, true, false, false, true, false, false, false, false] rfl rfl (by kernel_rfl) (fun _ _ _ h => h) (Or.inl ⟨by rfl, ?_⟩) ?_ ?_
      rotate_left
      · intro w'
        go_simp
        with_reducible rfl
      rotate_left
      · simp only [Act.put, List.setIfInBounds_toArray, List.set_cons_zero, List.set_cons_succ, i64_w, i32_w]
        rfl
      refine take_ (i := 4) (N := some 72) (v := ?_) (a' := ?_) #[true, true, true, true, true, true, false, false, true, false, true, false, false, true, false, false, false, false] rfl rfl (by kernel_rfl) (fun _ _ _ h => h) (Or.inl ⟨by rfl, ?_⟩) hHeld ?_ ?_
      rotate_left
      · rintro w' ⟨s0, s1, s2, s3, s4, s5, s6, s7, s8, s9, s10, s11, s12⟩
        go_simp
        with_reducible rfl
      rotate_left
      · simp only [Act.put, List.setIfInBounds_toArray, List.set_cons_zero, List.set_cons_succ, i64_w, i32_w]
        rfl
      refine pure_ (i := 6) (N := some 74) (v := ?_) (a' := ?_) #[true, true, true, true, true, true, true, false, true, false, true, false, false, true, false, false, false, false] rfl rfl (by kernel_rfl) (fun _ _ _ h => h) (Or.inl ⟨by rfl, ?_⟩) ?_ ?_
      rotate_left
      · intro w'
        go_simp
        with_reducible rfl
      rotate_left
      · simp only [Act.put, List.setIfInBounds_toArray, List.set_cons_zero, List.set_cons_succ, i64_w, i32_w]
        rfl
      refine take_ (i := 7) (N := some 75) (v := ?_) (a' := ?_) #[true, true, true, true, true, true, true, true, true, false, true, false, false, true, false, false, false, false] rfl rfl (by kernel_rfl) (fun _ _ _ h => h) (Or.inl ⟨by rfl, ?_⟩) hHeld ?_ ?_
      rotate_left
      · rintro w' ⟨s0, s1, s2, s3, s4, s5, s6, s7, s8, s9, s10, s11, s12⟩
        go_simp
        with_reducible rfl
      rotate_left
      · simp only [Act.put, List.setIfInBounds_toArray, List.set_cons_zero, List.set_cons_succ, i64_w, i32_w]
        rfl
      refine take_ (i := 9) (N := some 77) (v := ?_) (a' := ?_) #[true, true, true, true, true, true, true, true, true, true, true, false, false, true, false, false, false, false] rfl rfl (by kernel_rfl) (fun _ _ _ h => h) (Or.inl ⟨by rfl, ?_⟩) hHeld ?_ ?_
      rotate_left
      · rintro w' ⟨s0, s1, s2, s3, s4, s5, s6, s7, s8, s9, s10, s11, s12⟩
        go_simp
        with_reducible rfl
      rotate_left
      · simp only [Act.put, List.setIfInBounds_toArray, List.set_cons_zero, List.set_cons_succ, i64_w, i32_w]
        rfl
      refine pure_ (i := 11) (N := some 79) (v := ?_) (a' := ?_) #[true, true, true, true, true, true, true, true, true, true, true, true, false, true, false, false, false, false] rfl rfl (by kernel_rfl) (fun _ _ _ h => h) (Or.inl ⟨by rfl, ?_⟩) ?_ ?_
      rotate_left
      · intro w'
        go_simp
        with_reducible rfl
      rotate_left
      · simp only [Act.put, List.setIfInBounds_toArray, List.set_cons_zero, List.set_cons_succ, i64_w, i32_w]
        rfl
      refine take_ (i := 12) (N := some 80) (v := ?_) (a' := ?_) #[true, true, true, true, true, true, true, true, true, true, true, true, true, true, false, false, false, false] rfl rfl (by kernel_rfl) (fun _ _ _ h => h) (Or.inl ⟨by rfl, ?_⟩) hHeld ?_ ?_
      rotate_left
      · rintro w' ⟨s0, s1, s2, s3, s4, s5, s6, s7, s8, s9, s10, s11, s12⟩
        go_simp
        with_reducible rfl
      rotate_left
      · simp only [Act.put, List.setIfInBounds_toArray, List.set_cons_zero, List.set_cons_succ, i64_w, i32_w]
        rfl
      refine pure_ (i := 14) (N := some 82) (v := ?_) (a' := ?_) #[true, true, true, true, true, true, true, true, true, true, true, true, true, true, true, false, false, false] rfl rfl (by kernel_rfl) (fun _ _ _ h => h) (Or.inl ⟨by rfl, ?_⟩) ?_ ?_
      rotate_left
      · intro w'
        go_simp
        with_reducible rfl
      rotate_left
      · simp only [Act.put, List.setIfInBounds_toArray, List.set_cons_zero, List.set_cons_succ, i64_w, i32_w]
        rfl
      refine take_ (i := 15) (N := some 83) (v := ?_) (a' := ?_) #[true, true, true, true, true, true, true, true, true, true, true, true, true, true, true, true, false, false] rfl rfl (by kernel_rfl) (fun _ _ _ h => h) (Or.inl ⟨by rfl, ?_⟩) hHeld ?_ ?_
      rotate_left
      · rintro w' ⟨s0, s1, s2, s3, s4, s5, s6, s7, s8, s9, s10, s11, s12⟩
        go_simp
        with_reducible rfl
      rotate_left
      · simp only [Act.put, List.setIfInBounds_toArray, List.set_cons_zero, List.set_cons_succ, i64_w, i32_w]
        rfl
      refine one_ (i := 16) (N := some 84) #[true, true, true, true, true, true, true, true, true, true, true, true, true, true, true, true, true, false] rfl rfl (by kernel_rfl) (by decide) (fun K hK => ?_)
      refine goes_ Try.func16 (by kernel_rfl) rfl #[numI x, numV x] (by rfl) rfl rfl (by (try simp only [List.map_toArray, List.map_cons, List.map_nil]); rfl) ?_
      refine (same_num x HX1.out _).mono ?_
      rintro e w6 ⟨rfl, hb⟩
      have E0 := (hb.cell (World.block_lt_of_cell? _ _ (hHeld.1))).trans (hHeld.1)
      have E1 := (hb.cell (World.block_lt_of_cell? _ _ (hHeld.2.1))).trans (hHeld.2.1)
      have E2 := (hb.cell (World.block_lt_of_cell? _ _ (hHeld.2.2.1))).trans (hHeld.2.2.1)
      have E3 := (hb.cell (World.block_lt_of_cell? _ _ (hHeld.2.2.2.1))).trans (hHeld.2.2.2.1)
      have E4 := (hb.cell (World.block_lt_of_cell? _ _ (hHeld.2.2.2.2.1))).trans (hHeld.2.2.2.2.1)
      have E5 := (hb.cell (World.block_lt_of_cell? _ _ (hHeld.2.2.2.2.2.1))).trans (hHeld.2.2.2.2.2.1)
      have E6 := (hb.cell (World.block_lt_of_cell? _ _ (hHeld.2.2.2.2.2.2.1))).trans (hHeld.2.2.2.2.2.2.1)
      have E7 := (hb.cell (World.block_lt_of_cell? _ _ (hHeld.2.2.2.2.2.2.2.1))).trans (hHeld.2.2.2.2.2.2.2.1)
      have E8 := (hb.cell (World.block_lt_of_cell? _ _ (hHeld.2.2.2.2.2.2.2.2.1))).trans (hHeld.2.2.2.2.2.2.2.2.1)
      have E9 := (hb.cell (World.block_lt_of_cell? _ _ (hHeld.2.2.2.2.2.2.2.2.2.1))).trans (hHeld.2.2.2.2.2.2.2.2.2.1)
      have E10 := (hb.cell (World.block_lt_of_cell? _ _ (hHeld.2.2.2.2.2.2.2.2.2.2.1))).trans (hHeld.2.2.2.2.2.2.2.2.2.2.1)
      have E11 := (hb.cell (World.block_lt_of_cell? _ _ (hHeld.2.2.2.2.2.2.2.2.2.2.2.1))).trans (hHeld.2.2.2.2.2.2.2.2.2.2.2.1)
      have E12 := (hb.cell (World.block_lt_of_cell? _ _ (hHeld.2.2.2.2.2.2.2.2.2.2.2.2))).trans (hHeld.2.2.2.2.2.2.2.2.2.2.2.2)
      have n0_ := Aside0.mk (below_step HB3.out hb)
      clear HB3
      have HB3 := n0_
      clear n0_ hb
      refine ⟨_, rfl, ?_⟩
      refine hK.out _ _ ⟨E0, E1, E2, E3, E4, E5, E6, E7, E8, E9, E10, E11, E12⟩ (fun hHeld => ?_)
      clear hK K
      refine norm_ (a' := ?_) ?_ ?_
      rotate_left
      · show Act.put _ (some 84) _ = _
        simp only [Act.put, List.setIfInBounds_toArray, List.set_cons_zero, List.set_cons_succ, i64_w, i32_w]
        rfl
      refine pure_ (i := 17) (N := some 85) (v := ?_) (a' := ?_) #[true, true, true, true, true, true, true, true, true, true, true, true, true, true, true, true, true, true] rfl rfl (by kernel_rfl) (fun _ _ _ h => h) (Or.inl ⟨by rfl, ?_⟩) ?_ ?_
      rotate_left
      · intro w'
        go_simp
        with_reducible rfl
      rotate_left
      · simp only [Act.put, List.setIfInBounds_toArray, List.set_cons_zero, List.set_cons_succ, i64_w, i32_w]
        rfl
      refine done_ (by kernel_rfl) ?_
      
      clear hs0 hs1 hs2 hs3 ha0 ha1 ha2 ha3 hb0 hb1 hb2 hb3 hb4
      have hs0 := (HB3.out.cell (World.block_lt_of_cell? w3 _ Hs0.out)).trans Hs0.out
      have hs1 := (HB3.out.cell (World.block_lt_of_cell? w3 _ Hs1.out)).trans Hs1.out
      have hs2 := (HB3.out.cell (World.block_lt_of_cell? w3 _ Hs2.out)).trans Hs2.out
      have hs3 := (HB3.out.cell (World.block_lt_of_cell? w3 _ Hs3.out)).trans Hs3.out
      go_wp2
      rw [rounds_succ]
      go_wp2
      go_roundg (xs.length - (i + 1))
      case measure => have := hlen.out; have := HI.out; omega
      case rel => exact ⟨i + 1, xi + 1, by first | rfl | rw [hw1], ⟨⟨by have := HI.out; omega, by have := hlen.out; omega, rfl⟩⟩, HB3⟩
    · have cc : decide (xi < (xs.length : Int)) = false := decide_eq_false (by have := HI.out; omega)
      clear hi
      go_wp2
      go_ret
      exact ⟨by rfl, below_step HB.out HB3.out⟩
end Go.Proofs.Ytjefbpfpobgmaaa.FsC
