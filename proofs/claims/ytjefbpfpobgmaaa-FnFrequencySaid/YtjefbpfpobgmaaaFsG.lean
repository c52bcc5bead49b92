/- FnFrequency, the law's walk: it answers true at every two lists. No conditions. -/
import Derived.Test.YtjefbpfpobgmaaaFsC
import Derived.Test.YtjefbpfpobgmaaaFsD
import Derived.Test.YtjefbpfpobgmaaaFsE
import Derived.Test.YtjefbpfpobgmaaaPFqx1
import Derived.Test.YtjefbpfpobgmaaaPFqx2
import Derived.Test.YtjefbpfpobgmaaaPFqx3
namespace Go.Proofs.Ytjefbpfpobgmaaa.FsG
open Go.RowKit Go.Proofs.YtjefbpfpobgmaaaW.PrintWords Go.Proofs.YtjefbpfpobgmaaaW.PrintLast Go.Proofs.YtjefbpfpobgmaaaW.PrintMore Go.Proofs.Ytjefbpfpobgmaaa.FrA Go.Proofs.Ytjefbpfpobgmaaa.FrB Go.Proofs.Ytjefbpfpobgmaaa.FrK Go.Proofs.Ytjefbpfpobgmaaa.FrL Go.Proofs.Ytjefbpfpobgmaaa.FrW Go.Proofs.Ytjefbpfpobgmaaa.FrX Go.Proofs.Ytjefbpfpobgmaaa.FsA Go.Proofs.Ytjefbpfpobgmaaa.FsB Go.Proofs.Ytjefbpfpobgmaaa.FsC Go.Proofs.Ytjefbpfpobgmaaa.FsD Go.Proofs.Ytjefbpfpobgmaaa.FsE Go.Proofs.Ytjefbpfpobgmaaa.PFq
set_option linter.unusedVariables false
set_option linter.unusedSimpArgs false
attribute [local go_sem] Flt.run_store_float
theorem columnN (xs : List Int) (n : Nat) (hn0 : xs.length = n) (hx : ∀ x ∈ xs, -500 ≤ x ∧ x ≤ 500) (hn : xs.length ≤ 100) (A : Option Addr) (c : Nat) (w : World) (hr0 : Kd.C (Kd.int .i64) w A xs.length xs) :
    Calls Try.prog 19 #[.slice A n c] w fun e w' => ∃ v, e = .returned (tabV v) ∧ (kCol 48 kS).R 50 w' w.heap.size (fun _ => True) v (rws xs) ∧ Below w.heap.size w w' := by
  subst hn0; exact column xs hx hn A c w hr0
theorem sumsN (k : Nat) (A0 : Option Addr) (c0 : Nat) (xs : List Int) (n : Nat) (hn0 : xs.length = n) (A1 : Option Addr) (c1 : Nat) (ys : List Int) (m : Nat) (hm0 : ys.length = m) (r : List Int) (w : World) (hr0 : Kd.C (Kd.int .i64) w A0 xs.length xs) (hc0 : xs.length ≤ c0) (hr1 : Kd.C (Kd.int .i64) w A1 ys.length ys) (hc1 : ys.length ≤ c1) (h : spec_SumsFrequency.f k xs ys = some r) :
    Calls Try.prog 20 #[.slice A0 n c0, .slice A1 m c1] w fun e w' => ∃ v0_ : Value, e = .returned (v0_) ∧ Kd.R (Kd.int .i64) 3 w' w.heap.size (fun _ => True) v0_ r ∧ Below w.heap.size w w' := by
  subst hn0; subst hm0; exact spec_SumsFrequency.calls k A0 c0 xs A1 c1 ys r w hr0 hc0 hr1 hc1 h
set_option maxHeartbeats 4000000 in
set_option maxRecDepth 100000 in
theorem law (l steps : List Int) (A0 A1' : Option Addr) (c0 c1' : Nat) (w : World) (hr0 : Kd.C (Kd.int .i64) w A0 l.length l) (hc0 : l.length ≤ c0) (hr1 : Kd.C (Kd.int .i64) w A1' steps.length steps) (hc1 : steps.length ≤ c1') :
    Calls Try.prog 5 #[.slice A0 l.length c0, .slice A1' steps.length c1'] w fun e w' => e = .returned (.bool true) ∧ Below w.heap.size w w' := by
  have HR0 := Aside0.mk hr0
  have HR1 := Aside0.mk hr1
  have HC0 := Aside0.mk hc0
  clear hr0 hr1 hc0 hc1
  have HB := Aside0.mk (Below.refl w.heap.size w)
  by_cases hbig : 2147483647 < (l.length : Int)
  · have d1 : decide (2147483647 < (l.length : Int)) = true := decide_eq_true hbig
    have d1' : (2147483647 < l.length) = True := eq_true (by omega)
    have d1'' : (2147483647 < (l.length : Int)) = True := eq_true hbig
    clear hbig
    go_enter Try.func5, Try.ntmps5
    go_wp2
    go_ret
    exact ⟨by rfl, HB.out⟩
  · have d1 : decide (2147483647 < (l.length : Int)) = false := decide_eq_false hbig
    have d1' : (2147483647 < l.length) = False := eq_false (by omega)
    have d1'' : (2147483647 < (l.length : Int)) = False := eq_false hbig
    clear hbig
    by_cases hbig2 : 2147483647 < (steps.length : Int)
    · have d2 : decide (2147483647 < (steps.length : Int)) = true := decide_eq_true hbig2
      have d2' : (2147483647 < steps.length) = True := eq_true (by omega)
      have d2'' : (2147483647 < (steps.length : Int)) = True := eq_true hbig2
      clear hbig2
      go_enter Try.func5, Try.ntmps5
      go_wp2
      go_ret
      exact ⟨by rfl, HB.out⟩
    · have d2 : decide (2147483647 < (steps.length : Int)) = false := decide_eq_false hbig2
      have d2' : (2147483647 < steps.length) = False := eq_false (by omega)
      have d2'' : (2147483647 < (steps.length : Int)) = False := eq_false hbig2
      have HSL := Aside0.mk hbig2
      clear hbig2
      obtain ⟨kd, da, hda, hdl, hdb⟩ := small_val l
      have HDA := Aside0.mk hda
      have HDB := Aside0.mk (And.intro hdl hdb)
      clear hda hdl hdb
      go_enter Try.func5, Try.ntmps5
      go_upto_region 4 with (go_at_call 15; (with_reducible refine (laws_sumsSmall.calls kd A0 c0 l 60 200 da _ HR0.out HC0.out HDA.out).mono ?_); rintro e w1 ⟨v, rfl, ho, hb⟩; obtain ⟨A5, c5, e5⟩ := Kd.R_slice ho; subst e5; have HDI := Aside0.mk (Kd.R_reads' ho); clear ho; have n0_ := Aside0.mk (below_step HB.out hb); clear HB hb ; have HB := n0_; clear n0_ )
      clear d1 d1' d1'' d2 d2' d2''
      go_wp2
      go_loopg [5, 6, 7] (steps.length) (fun kq v5 v6 v7 w' => ∃ (i : Nat) (xi last : Int) (bs : List Int), v7 = .int .i64 xi ∧ v6 = .int .i64 last ∧ Aside0 (xi = i ∧ i ≤ steps.length ∧ i ≤ 8 ∧ kq = steps.length - i) ∧ Aside0 (bs.length = i ∧ bs.Pairwise (· < ·) ∧ (∀ b ∈ bs, -50 ≤ b ∧ b ≤ last) ∧ -50 ≤ last ∧ last ≤ -50 + 61 * (i : Int)) ∧ Aside0 ((Kd.int .i64).R 3 w' w1.heap.size (fun _ => True) v5 bs) ∧ Aside0 (Below w1.heap.size w1 w'))
      case atStart => exact ⟨0, 0, -50, [], rfl, rfl, ⟨⟨rfl, Nat.zero_le _, Nat.zero_le _, rfl⟩⟩, ⟨⟨rfl, List.Pairwise.nil, fun b hb => absurd hb List.not_mem_nil, by omega, by omega⟩⟩, ⟨Kd.R_nil _ _ _ _ _⟩, ⟨Below.refl _ _⟩⟩
      case round =>
        obtain ⟨i, xi, last, bs, rfl, rfl, HI, HBS, HO, HB1⟩ := hrel
        by_cases hi : i < steps.length ∧ i < 8
        · have q1 : xi < (steps.length : Int) := by have := HI.out; omega
          have p1 : 0 ≤ xi := by have := HI.out; omega
          have cc : decide (xi < (steps.length : Int)) = true := decide_eq_true q1
          have cc8 : decide (xi < 8) = true := decide_eq_true (by have := HI.out; omega)
          have cc8' : (xi < 8) = True := eq_true (by have := HI.out; omega)
          obtain ⟨ad1, e1, hx1⟩ := Kd.at_int HR1.out xi p1 q1
          cases e1
          replace hx1 := (HB1.out.cell (World.block_lt_of_cell? w1 _ ((HB.out.cell (World.block_lt_of_cell? w _ hx1)).trans hx1))).trans ((HB.out.cell (World.block_lt_of_cell? w _ hx1)).trans hx1)
          obtain ⟨cr, hcr, hcr1, hcr2⟩ := comb_val (rd steps xi)
          have HCR := Aside0.mk hcr
          have HC2 := Aside0.mk (And.intro hcr1 hcr2)
          generalize rd steps xi = sx at hx1 HCR
          have p1' := eq_true p1
          have q1' := eq_true q1
          have hw1 : wrap64 (xi + 1) = xi + 1 := by have := HI.out; unfold wrap64; omega
          have hilt := Aside0.mk hi
          clear hi p1 q1 hcr hcr1 hcr2
          go_upto_region 10 with (go_at_call 6; (with_reducible refine (laws_combSmall.calls sx 60 cr _ HCR.out).mono ?_); rintro e wq ⟨rfl, ⟨nd, rfl⟩⟩; have n0_ := Aside0.mk (Kd.R_drewN HO.out nd); have n1_ := Aside0.mk (pw_below_drewN HB1.out nd); clear HO HB1; have HO := n0_; have HB1 := n1_; clear n0_ n1_; generalize wr.drewN nd = wq at HO HB1 ⊢)
          have hnb : wrap64 (last + wrap64 (1 + cr)) = last + 1 + cr := by
            have h1 := HC2.out
            have h2 := HBS.out.2.2.2
            have h3 := HI.out.2.2.1
            rw [w_small (1 + cr) (by omega), w_small _ (by omega)]
            omega
          rw [hnb]
          obtain ⟨nb, hnbe⟩ : ∃ nb, nb = last + 1 + cr := ⟨_, rfl⟩
          rw [← hnbe]
          have HNB := Aside0.mk hnbe
          clear hnb hnbe hx1
          go_wp2_with ((with_reducible refine gate_builtin (b := .append) (xs := #[.tmp 36, .tmp 38]) rfl ?_); at_builtin; refine Kd.R_append (Kd.int .i64) (w0 := w1) w1.heap.size rfl (.tmp 36) (.tmp 38) 28 3 (.int .i64 0) 8 rfl Try.underlying28 info3 rfl (by decide) (by omega) u5 bs nb [.int .i64 nb] (fun _ => True) (fun _ => False) rfl (by first | (go_simp; done) | (go_simp; rfl)) rfl (fun k hk => hk.elim) (fun _ _ => trivial) HO.out HB1.out (below_size HB1.out) (by have := HBS.out.1; have := HI.out; omega) ?_; intro v1 w3 ho hb hg hat; clear HO HB1 hg hat; have HO := Aside0.mk ho; have HB1 := Aside0.mk hb; clear ho hb)
          go_roundg (steps.length - (i + 1))
          case measure => have := hilt.out; have := HI.out; omega
          case rel =>
            refine ⟨i + 1, xi + 1, nb, bs ++ [nb], by first | rfl | rw [hw1], rfl, ⟨⟨by have := HI.out; omega, by have := hilt.out; omega, by have := hilt.out; omega, rfl⟩⟩, ⟨⟨by simp [HBS.out.1], ?_, fun b hb => ?_, by have := HNB.out; have := HC2.out; have := HBS.out; omega, by have := HNB.out; have := HC2.out; have := HBS.out; omega⟩⟩, HO, HB1⟩
            · rw [List.pairwise_append]
              exact ⟨HBS.out.2.1, List.pairwise_singleton _ _, fun a ha b hb => by rw [List.mem_singleton.1 hb]; have h1 := HBS.out.2.2.1 a ha; have h2 := HNB.out; have h3 := HC2.out; omega⟩
            · have h2 := HNB.out
              have h3 := HC2.out
              rcases List.mem_append.1 hb with h | h
              · have h1 := HBS.out.2.2.1 b h; omega
              · rw [List.mem_singleton.1 h]; have h1 := HBS.out.2.2.2; omega
        · obtain ⟨A6, c6, e6⟩ := Kd.R_slice HO.out
          subst e6
          have HYR := Aside0.mk (Kd.R_reads' HO.out)
          have HBB := Aside0.mk (below_step HB.out HB1.out)
          have HXR := Aside0.mk (Kd.C_below HDI.out.2.2 HB1.out)
          by_cases hl : xi < (steps.length : Int)
          · have cc : decide (xi < (steps.length : Int)) = true := decide_eq_true hl
            have cc2 : (xi < (steps.length : Int)) = True := eq_true hl
            have cc8 : decide (xi < 8) = false := decide_eq_false (by have := HI.out; omega)
            have cc8' : (xi < 8) = False := eq_false (by have := HI.out; omega)
            clear hi hl
            by_cases z1 : da.length = 0
            · have e1 : ((da.length : Int) == 0) = true := by rw [z1]; rfl
              have e2 : (da.length == 0) = true := by rw [z1]; rfl
              have e3 : (da.length = 0) = True := eq_true z1
              have e4 : ((da.length : Int) = 0) = True := eq_true (by omega)
              clear z1
              go_upto_region 13 with fail
              clear HB HB1 HO HXR HYR HDI
              have HXI := Aside0.mk (show Kd.C (Kd.int .i64) ((wr.alloc (.cells #[.int .i64 1, .int .i64 2, .int .i64 3] 3)).alloc (.cells #[.int .i64 1, .int .i64 2] 3)) (some ⟨wr.heap.size, 0, none⟩) ([1, 2, 3] : List Int).length [1, 2, 3] from Kd.C_alloc (lit_ints wr [1, 2, 3] (by decide)) (.cells #[.int .i64 1, .int .i64 2] 3))
              have hy_ := lit_ints (wr.alloc (.cells #[.int .i64 1, .int .i64 2, .int .i64 3] 3)) [1, 2] (by decide)
              rw [World.size_alloc] at hy_
              have HYI := Aside0.mk (show Kd.C (Kd.int .i64) ((wr.alloc (.cells #[.int .i64 1, .int .i64 2, .int .i64 3] 3)).alloc (.cells #[.int .i64 1, .int .i64 2] 3)) (some ⟨wr.heap.size + 1, 0, none⟩) ([1, 2] : List Int).length [1, 2] from hy_)
              have HB := Aside0.mk (below_alloc (below_alloc HBB.out (.cells #[.int .i64 1, .int .i64 2, .int .i64 3] 3)) (.cells #[.int .i64 1, .int .i64 2] 3))
              clear HBB hy_
              obtain ⟨xs, hxs⟩ : ∃ xs : List Int, xs = [1, 2, 3] := ⟨_, rfl⟩
              obtain ⟨ys, hys⟩ : ∃ ys : List Int, ys = [1, 2] := ⟨_, rfl⟩
              rw [← hxs] at HXI
              rw [← hys] at HYI
              have HNX := Aside0.mk (show xs.length = 3 by rw [hxs]; rfl)
              have HNY := Aside0.mk (show ys.length = 2 by rw [hys]; rfl)
              have HXL := Aside0.mk (show xs.length ≤ 3 by rw [hxs]; decide)
              have HYL := Aside0.mk (show ys.length ≤ 2 by rw [hys]; decide)
              have HY99 := Aside0.mk (show ys.length + 1 ≤ 100 by rw [hys]; decide)
              have HD := Aside0.mk (show (∀ x ∈ xs, -500 ≤ x ∧ x ≤ 500) ∧ xs.length ≤ 100 ∧ xs ≠ [] ∧ (∀ x ∈ ys, -500 ≤ x ∧ x ≤ 500) ∧ ys.length ≤ 100 ∧ ys ≠ [] ∧ ys.Pairwise (· < ·) by rw [hxs, hys]; exact ⟨by decide, by decide, by decide, by decide, by decide, by decide, by decide⟩)
              clear hxs hys
              generalize (wr.alloc (.cells #[.int .i64 1, .int .i64 2, .int .i64 3] 3)).alloc (.cells #[.int .i64 1, .int .i64 2] 3) = wz at HXI HYI HB ⊢
              have HTC := Aside0.mk (show ∀ x ∈ [xs, ys], x.length ≤ 100 ∧ ∀ y ∈ x, -500 ≤ y ∧ y ≤ 500 from fun x hx0 => by
                rcases List.mem_cons.1 hx0 with rfl | h1
                · exact ⟨HD.out.2.1, HD.out.1⟩
                · rw [List.mem_singleton.1 h1]; exact ⟨HD.out.2.2.2.2.1, HD.out.2.2.2.1⟩)
              have HCB := Aside0.mk (And.intro (counts_ok (xs := xs) HD.out.2.1 HD.out.2.2.2.2.2.2) (show (counts xs ys).length ≤ 100 by rw [counts_len]; exact HY99.out))
              obtain ⟨kf, hkf⟩ := sums_counts xs ys HD.out.2.1 HD.out.2.2.2.2.1 HD.out.2.2.2.2.2.2
              have HKF := Aside0.mk hkf
              clear hkf
              go_wp2_with (first
                | (go_at_call 19; (with_reducible refine (columnN xs 3 HNX.out HD.out.1 HD.out.2.1 (some ⟨wr.heap.size, 0, none⟩) 3 _ HXI.out).mono ?_); rintro e w1 ⟨v, rfl, ho, hb⟩; obtain ⟨A1, c1, e1⟩ := Kd.R_slice ho; rw [rws_len] at e1; subst e1; have h_ := Kd.R_reads' ho; rw [rws_len] at h_; have HC1 := Aside0.mk h_.2.2; have HL1 := Aside0.mk h_.2.1; clear h_ ho; have n0_ := Aside0.mk (below_step HB.out hb); have m0_ := Aside0.mk (Kd.C_below HXI.out hb); have m1_ := Aside0.mk (Kd.C_below HYI.out hb); clear HB hb HXI HYI; have HB := n0_; have HXI := m0_; have HYI := m1_; clear n0_ m0_ m1_)
                | (go_at_call 19; (with_reducible refine (columnN ys 2 HNY.out HD.out.2.2.2.1 HD.out.2.2.2.2.1 (some ⟨wr.heap.size + 1, 0, none⟩) 2 _ HYI.out).mono ?_); rintro e w2 ⟨v, rfl, ho, hb⟩; obtain ⟨A2, c2, e2⟩ := Kd.R_slice ho; rw [rws_len] at e2; subst e2; have h_ := Kd.R_reads' ho; rw [rws_len] at h_; have HC2 := Aside0.mk h_.2.2; have HL2 := Aside0.mk h_.2.1; clear h_ ho; have n0_ := Aside0.mk (below_step HB.out hb); have m0_ := Aside0.mk (Kd.C_below HXI.out hb); have m1_ := Aside0.mk (Kd.C_below HYI.out hb); have m2_ := Aside0.mk (Kd.C_below HC1.out hb); clear HB hb HXI HYI HC1; have HB := n0_; have HXI := m0_; have HYI := m1_; have HC1 := m2_; clear n0_ m0_ m1_ m2_; have HTW := Aside0.mk (two_cols HC1.out HL1.out HC2.out HL2.out); have HAL := Aside0.mk (below_alloc (Below.refl w2.heap.size w2) (.cells #[.int .i64 5, .int .i64 0, .int .i64 0, .string ⟨#[]⟩, .slice A1 xs.length c1, .int .i64 5, .int .i64 0, .int .i64 0, .string ⟨#[]⟩, .slice A2 ys.length c2] 48)); have n0_ := Aside0.mk (below_step HB.out HAL.out); have n1_ := Aside0.mk (Kd.C_below HXI.out HAL.out); have n2_ := Aside0.mk (Kd.C_below HYI.out HAL.out); clear HB HXI HYI; have HB := n0_; have HXI := n1_; have HYI := n2_; clear n0_ n1_ n2_)
                | (go_at_call 18; (with_reducible refine (all_two xs ys HTC.out _ _ _ HTW.out).mono ?_); rintro e w3 ⟨g, cap, rfl, ho, hb⟩; have HIC := Aside0.mk ho; clear ho; have n0_ := Aside0.mk (below_step HB.out hb); have m0_ := Aside0.mk (Kd.C_below HXI.out hb); have m1_ := Aside0.mk (Kd.C_below HYI.out hb); clear HB hb HXI HYI; have HB := n0_; have HXI := m0_; have HYI := m1_; clear n0_ m0_ m1_)
                | (go_at_call 17; (with_reducible refine (impl_frequency xs ys HD.out.1 HD.out.2.1 HD.out.2.2.1 HD.out.2.2.2.1 HD.out.2.2.2.2.1 HD.out.2.2.2.2.2.1 HD.out.2.2.2.2.2.2 (some ⟨g, 0, none⟩) cap _ HIC.out).mono ?_); rintro e w4 ⟨A4, c4, rfl, ho, hb⟩; have h_ := (Kd.R_reads' ho).2.2; rw [rws_len] at h_; have HFR := Aside0.mk h_; clear h_ ho; have n0_ := Aside0.mk (below_step HB.out hb); have m0_ := Aside0.mk (Kd.C_below HXI.out hb); have m1_ := Aside0.mk (Kd.C_below HYI.out hb); clear HB hb HXI HYI; have HB := n0_; have HXI := m0_; have HYI := m1_; clear n0_ m0_ m1_)
                | (go_at_call 20; (with_reducible refine (sumsN kf (some ⟨wr.heap.size, 0, none⟩) 3 xs 3 HNX.out (some ⟨wr.heap.size + 1, 0, none⟩) 2 ys 2 HNY.out (counts xs ys) _ HXI.out HXL.out HYI.out HYL.out HKF.out).mono ?_); rintro e w5 ⟨v, rfl, ho, hb⟩; obtain ⟨A7, c7, e7⟩ := Kd.R_slice ho; subst e7; have HCI := Aside0.mk (Kd.R_reads' ho).2.2; clear ho; have n0_ := Aside0.mk (below_step HB.out hb); have m0_ := Aside0.mk (Kd.C_below HFR.out hb); clear HB hb HFR; have HB := n0_; have HFR := m0_; clear n0_ m0_)
                | (go_at_call 19; (with_reducible refine (column (counts xs ys) HCB.out.1 HCB.out.2 A7 c7 _ HCI.out).mono ?_); rintro e w6 ⟨v, rfl, ho, hb⟩; obtain ⟨A8, c8, e8⟩ := Kd.R_slice ho; rw [rws_len] at e8; subst e8; have h_ := (Kd.R_reads' ho).2.2; rw [rws_len] at h_; have HC8 := Aside0.mk h_; clear h_ ho; have n0_ := Aside0.mk (below_step HB.out hb); have m0_ := Aside0.mk (Kd.C_below HFR.out hb); clear HB hb HFR; have HB := n0_; have HFR := m0_; clear n0_ m0_)
                | (go_at_call 16; (with_reducible refine (same_col (counts xs ys) HCB.out.1 HCB.out.2 A4 A8 c4 c8 _ HFR.out HC8.out).mono ?_); rintro e w7 ⟨rfl, hb⟩; have n0_ := Aside0.mk (below_step HB.out hb); clear HB hb ; have HB := n0_; clear n0_ ))
              go_ret
              exact ⟨by rfl, HB.out⟩
            · have e1 : ((da.length : Int) == 0) = false := by rw [beq_eq_false_iff_ne]; omega
              have e2 : (da.length == 0) = false := by rw [beq_eq_false_iff_ne]; omega
              have e3 : (da.length = 0) = False := eq_false z1
              have e4 : ((da.length : Int) = 0) = False := eq_false (by omega)
              by_cases z2 : bs.length = 0
              · have f1 : ((bs.length : Int) == 0) = true := by rw [z2]; rfl
                have f2 : (bs.length == 0) = true := by rw [z2]; rfl
                have f3 : (bs.length = 0) = True := eq_true z2
                have f4 : ((bs.length : Int) = 0) = True := eq_true (by omega)
                clear z1 z2
                go_upto_region 13 with fail
                clear HB HB1 HO HXR HYR HDI
                have HXI := Aside0.mk (show Kd.C (Kd.int .i64) ((wr.alloc (.cells #[.int .i64 1, .int .i64 2, .int .i64 3] 3)).alloc (.cells #[.int .i64 1, .int .i64 2] 3)) (some ⟨wr.heap.size, 0, none⟩) ([1, 2, 3] : List Int).length [1, 2, 3] from Kd.C_alloc (lit_ints wr [1, 2, 3] (by decide)) (.cells #[.int .i64 1, .int .i64 2] 3))
                have hy_ := lit_ints (wr.alloc (.cells #[.int .i64 1, .int .i64 2, .int .i64 3] 3)) [1, 2] (by decide)
                rw [World.size_alloc] at hy_
                have HYI := Aside0.mk (show Kd.C (Kd.int .i64) ((wr.alloc (.cells #[.int .i64 1, .int .i64 2, .int .i64 3] 3)).alloc (.cells #[.int .i64 1, .int .i64 2] 3)) (some ⟨wr.heap.size + 1, 0, none⟩) ([1, 2] : List Int).length [1, 2] from hy_)
                have HB := Aside0.mk (below_alloc (below_alloc HBB.out (.cells #[.int .i64 1, .int .i64 2, .int .i64 3] 3)) (.cells #[.int .i64 1, .int .i64 2] 3))
                clear HBB hy_
                obtain ⟨xs, hxs⟩ : ∃ xs : List Int, xs = [1, 2, 3] := ⟨_, rfl⟩
                obtain ⟨ys, hys⟩ : ∃ ys : List Int, ys = [1, 2] := ⟨_, rfl⟩
                rw [← hxs] at HXI
                rw [← hys] at HYI
                have HNX := Aside0.mk (show xs.length = 3 by rw [hxs]; rfl)
                have HNY := Aside0.mk (show ys.length = 2 by rw [hys]; rfl)
                have HXL := Aside0.mk (show xs.length ≤ 3 by rw [hxs]; decide)
                have HYL := Aside0.mk (show ys.length ≤ 2 by rw [hys]; decide)
                have HY99 := Aside0.mk (show ys.length + 1 ≤ 100 by rw [hys]; decide)
                have HD := Aside0.mk (show (∀ x ∈ xs, -500 ≤ x ∧ x ≤ 500) ∧ xs.length ≤ 100 ∧ xs ≠ [] ∧ (∀ x ∈ ys, -500 ≤ x ∧ x ≤ 500) ∧ ys.length ≤ 100 ∧ ys ≠ [] ∧ ys.Pairwise (· < ·) by rw [hxs, hys]; exact ⟨by decide, by decide, by decide, by decide, by decide, by decide, by decide⟩)
                clear hxs hys
                generalize (wr.alloc (.cells #[.int .i64 1, .int .i64 2, .int .i64 3] 3)).alloc (.cells #[.int .i64 1, .int .i64 2] 3) = wz at HXI HYI HB ⊢
                have HTC := Aside0.mk (show ∀ x ∈ [xs, ys], x.length ≤ 100 ∧ ∀ y ∈ x, -500 ≤ y ∧ y ≤ 500 from fun x hx0 => by
                  rcases List.mem_cons.1 hx0 with rfl | h1
                  · exact ⟨HD.out.2.1, HD.out.1⟩
                  · rw [List.mem_singleton.1 h1]; exact ⟨HD.out.2.2.2.2.1, HD.out.2.2.2.1⟩)
                have HCB := Aside0.mk (And.intro (counts_ok (xs := xs) HD.out.2.1 HD.out.2.2.2.2.2.2) (show (counts xs ys).length ≤ 100 by rw [counts_len]; exact HY99.out))
                obtain ⟨kf, hkf⟩ := sums_counts xs ys HD.out.2.1 HD.out.2.2.2.2.1 HD.out.2.2.2.2.2.2
                have HKF := Aside0.mk hkf
                clear hkf
                go_wp2_with (first
                  | (go_at_call 19; (with_reducible refine (columnN xs 3 HNX.out HD.out.1 HD.out.2.1 (some ⟨wr.heap.size, 0, none⟩) 3 _ HXI.out).mono ?_); rintro e w1 ⟨v, rfl, ho, hb⟩; obtain ⟨A1, c1, e1⟩ := Kd.R_slice ho; rw [rws_len] at e1; subst e1; have h_ := Kd.R_reads' ho; rw [rws_len] at h_; have HC1 := Aside0.mk h_.2.2; have HL1 := Aside0.mk h_.2.1; clear h_ ho; have n0_ := Aside0.mk (below_step HB.out hb); have m0_ := Aside0.mk (Kd.C_below HXI.out hb); have m1_ := Aside0.mk (Kd.C_below HYI.out hb); clear HB hb HXI HYI; have HB := n0_; have HXI := m0_; have HYI := m1_; clear n0_ m0_ m1_)
                  | (go_at_call 19; (with_reducible refine (columnN ys 2 HNY.out HD.out.2.2.2.1 HD.out.2.2.2.2.1 (some ⟨wr.heap.size + 1, 0, none⟩) 2 _ HYI.out).mono ?_); rintro e w2 ⟨v, rfl, ho, hb⟩; obtain ⟨A2, c2, e2⟩ := Kd.R_slice ho; rw [rws_len] at e2; subst e2; have h_ := Kd.R_reads' ho; rw [rws_len] at h_; have HC2 := Aside0.mk h_.2.2; have HL2 := Aside0.mk h_.2.1; clear h_ ho; have n0_ := Aside0.mk (below_step HB.out hb); have m0_ := Aside0.mk (Kd.C_below HXI.out hb); have m1_ := Aside0.mk (Kd.C_below HYI.out hb); have m2_ := Aside0.mk (Kd.C_below HC1.out hb); clear HB hb HXI HYI HC1; have HB := n0_; have HXI := m0_; have HYI := m1_; have HC1 := m2_; clear n0_ m0_ m1_ m2_; have HTW := Aside0.mk (two_cols HC1.out HL1.out HC2.out HL2.out); have HAL := Aside0.mk (below_alloc (Below.refl w2.heap.size w2) (.cells #[.int .i64 5, .int .i64 0, .int .i64 0, .string ⟨#[]⟩, .slice A1 xs.length c1, .int .i64 5, .int .i64 0, .int .i64 0, .string ⟨#[]⟩, .slice A2 ys.length c2] 48)); have n0_ := Aside0.mk (below_step HB.out HAL.out); have n1_ := Aside0.mk (Kd.C_below HXI.out HAL.out); have n2_ := Aside0.mk (Kd.C_below HYI.out HAL.out); clear HB HXI HYI; have HB := n0_; have HXI := n1_; have HYI := n2_; clear n0_ n1_ n2_)
                  | (go_at_call 18; (with_reducible refine (all_two xs ys HTC.out _ _ _ HTW.out).mono ?_); rintro e w3 ⟨g, cap, rfl, ho, hb⟩; have HIC := Aside0.mk ho; clear ho; have n0_ := Aside0.mk (below_step HB.out hb); have m0_ := Aside0.mk (Kd.C_below HXI.out hb); have m1_ := Aside0.mk (Kd.C_below HYI.out hb); clear HB hb HXI HYI; have HB := n0_; have HXI := m0_; have HYI := m1_; clear n0_ m0_ m1_)
                  | (go_at_call 17; (with_reducible refine (impl_frequency xs ys HD.out.1 HD.out.2.1 HD.out.2.2.1 HD.out.2.2.2.1 HD.out.2.2.2.2.1 HD.out.2.2.2.2.2.1 HD.out.2.2.2.2.2.2 (some ⟨g, 0, none⟩) cap _ HIC.out).mono ?_); rintro e w4 ⟨A4, c4, rfl, ho, hb⟩; have h_ := (Kd.R_reads' ho).2.2; rw [rws_len] at h_; have HFR := Aside0.mk h_; clear h_ ho; have n0_ := Aside0.mk (below_step HB.out hb); have m0_ := Aside0.mk (Kd.C_below HXI.out hb); have m1_ := Aside0.mk (Kd.C_below HYI.out hb); clear HB hb HXI HYI; have HB := n0_; have HXI := m0_; have HYI := m1_; clear n0_ m0_ m1_)
                  | (go_at_call 20; (with_reducible refine (sumsN kf (some ⟨wr.heap.size, 0, none⟩) 3 xs 3 HNX.out (some ⟨wr.heap.size + 1, 0, none⟩) 2 ys 2 HNY.out (counts xs ys) _ HXI.out HXL.out HYI.out HYL.out HKF.out).mono ?_); rintro e w5 ⟨v, rfl, ho, hb⟩; obtain ⟨A7, c7, e7⟩ := Kd.R_slice ho; subst e7; have HCI := Aside0.mk (Kd.R_reads' ho).2.2; clear ho; have n0_ := Aside0.mk (below_step HB.out hb); have m0_ := Aside0.mk (Kd.C_below HFR.out hb); clear HB hb HFR; have HB := n0_; have HFR := m0_; clear n0_ m0_)
                  | (go_at_call 19; (with_reducible refine (column (counts xs ys) HCB.out.1 HCB.out.2 A7 c7 _ HCI.out).mono ?_); rintro e w6 ⟨v, rfl, ho, hb⟩; obtain ⟨A8, c8, e8⟩ := Kd.R_slice ho; rw [rws_len] at e8; subst e8; have h_ := (Kd.R_reads' ho).2.2; rw [rws_len] at h_; have HC8 := Aside0.mk h_; clear h_ ho; have n0_ := Aside0.mk (below_step HB.out hb); have m0_ := Aside0.mk (Kd.C_below HFR.out hb); clear HB hb HFR; have HB := n0_; have HFR := m0_; clear n0_ m0_)
                  | (go_at_call 16; (with_reducible refine (same_col (counts xs ys) HCB.out.1 HCB.out.2 A4 A8 c4 c8 _ HFR.out HC8.out).mono ?_); rintro e w7 ⟨rfl, hb⟩; have n0_ := Aside0.mk (below_step HB.out hb); clear HB hb ; have HB := n0_; clear n0_ ))
                go_ret
                exact ⟨by rfl, HB.out⟩
              · have f1 : ((bs.length : Int) == 0) = false := by rw [beq_eq_false_iff_ne]; omega
                have f2 : (bs.length == 0) = false := by rw [beq_eq_false_iff_ne]; omega
                have f3 : (bs.length = 0) = False := eq_false z2
                have f4 : ((bs.length : Int) = 0) = False := eq_false (by omega)
                have HD := Aside0.mk (show (∀ x ∈ da, -500 ≤ x ∧ x ≤ 500) ∧ da.length ≤ 100 ∧ da ≠ [] ∧ (∀ x ∈ bs, -500 ≤ x ∧ x ≤ 500) ∧ bs.length ≤ 100 ∧ bs ≠ [] ∧ bs.Pairwise (· < ·) from ⟨fun x hx => by have := HDB.out.2 x hx; omega, by have := HDB.out.1; omega, fun h => z1 (by rw [h]; rfl), fun x hx => by have h1 := HBS.out.2.2.1 x hx; have h2 := HBS.out.2.2.2; have h3 := HI.out; omega, by have := HBS.out.1; have := HI.out; omega, fun h => z2 (by rw [h]; rfl), HBS.out.2.1⟩)
                have HY99 := Aside0.mk (show bs.length + 1 ≤ 100 by have := HBS.out.1; have := HI.out; omega)
                have HXI := HXR
                have HYI := Aside0.mk HYR.out.2.2
                have HXL := Aside0.mk HDI.out.2.1
                have HYL := Aside0.mk HYR.out.2.1
                clear z1 z2
                go_upto_region 13 with fail
                clear HB HB1 HO HXR HYR HDI
                have HB := HBB
                clear HBB
                obtain ⟨xs, hxs⟩ : ∃ xs, xs = da := ⟨_, rfl⟩
                subst hxs
                obtain ⟨ys, hys⟩ : ∃ ys, ys = bs := ⟨_, rfl⟩
                subst hys
                obtain ⟨nx, hnx⟩ : ∃ nx, xs.length = nx := ⟨_, rfl⟩
                have HNX := Aside0.mk hnx
                obtain ⟨ny, hny⟩ : ∃ ny, ys.length = ny := ⟨_, rfl⟩
                have HNY := Aside0.mk hny
                rw [hnx, hny]
                clear hnx hny
                have HTC := Aside0.mk (show ∀ x ∈ [xs, ys], x.length ≤ 100 ∧ ∀ y ∈ x, -500 ≤ y ∧ y ≤ 500 from fun x hx0 => by
                  rcases List.mem_cons.1 hx0 with rfl | h1
                  · exact ⟨HD.out.2.1, HD.out.1⟩
                  · rw [List.mem_singleton.1 h1]; exact ⟨HD.out.2.2.2.2.1, HD.out.2.2.2.1⟩)
                have HCB := Aside0.mk (And.intro (counts_ok (xs := xs) HD.out.2.1 HD.out.2.2.2.2.2.2) (show (counts xs ys).length ≤ 100 by rw [counts_len]; exact HY99.out))
                obtain ⟨kf, hkf⟩ := sums_counts xs ys HD.out.2.1 HD.out.2.2.2.2.1 HD.out.2.2.2.2.2.2
                have HKF := Aside0.mk hkf
                clear hkf
                go_wp2_with (first
                  | (go_at_call 19; (with_reducible refine (columnN xs nx HNX.out HD.out.1 HD.out.2.1 A5 c5 _ HXI.out).mono ?_); rintro e w1 ⟨v, rfl, ho, hb⟩; obtain ⟨A1, c1, e1⟩ := Kd.R_slice ho; rw [rws_len] at e1; subst e1; have h_ := Kd.R_reads' ho; rw [rws_len] at h_; have HC1 := Aside0.mk h_.2.2; have HL1 := Aside0.mk h_.2.1; clear h_ ho; have n0_ := Aside0.mk (below_step HB.out hb); have m0_ := Aside0.mk (Kd.C_below HXI.out hb); have m1_ := Aside0.mk (Kd.C_below HYI.out hb); clear HB hb HXI HYI; have HB := n0_; have HXI := m0_; have HYI := m1_; clear n0_ m0_ m1_)
                  | (go_at_call 19; (with_reducible refine (columnN ys ny HNY.out HD.out.2.2.2.1 HD.out.2.2.2.2.1 A6 c6 _ HYI.out).mono ?_); rintro e w2 ⟨v, rfl, ho, hb⟩; obtain ⟨A2, c2, e2⟩ := Kd.R_slice ho; rw [rws_len] at e2; subst e2; have h_ := Kd.R_reads' ho; rw [rws_len] at h_; have HC2 := Aside0.mk h_.2.2; have HL2 := Aside0.mk h_.2.1; clear h_ ho; have n0_ := Aside0.mk (below_step HB.out hb); have m0_ := Aside0.mk (Kd.C_below HXI.out hb); have m1_ := Aside0.mk (Kd.C_below HYI.out hb); have m2_ := Aside0.mk (Kd.C_below HC1.out hb); clear HB hb HXI HYI HC1; have HB := n0_; have HXI := m0_; have HYI := m1_; have HC1 := m2_; clear n0_ m0_ m1_ m2_; have HTW := Aside0.mk (two_cols HC1.out HL1.out HC2.out HL2.out); have HAL := Aside0.mk (below_alloc (Below.refl w2.heap.size w2) (.cells #[.int .i64 5, .int .i64 0, .int .i64 0, .string ⟨#[]⟩, .slice A1 xs.length c1, .int .i64 5, .int .i64 0, .int .i64 0, .string ⟨#[]⟩, .slice A2 ys.length c2] 48)); have n0_ := Aside0.mk (below_step HB.out HAL.out); have n1_ := Aside0.mk (Kd.C_below HXI.out HAL.out); have n2_ := Aside0.mk (Kd.C_below HYI.out HAL.out); clear HB HXI HYI; have HB := n0_; have HXI := n1_; have HYI := n2_; clear n0_ n1_ n2_)
                  | (go_at_call 18; (with_reducible refine (all_two xs ys HTC.out _ _ _ HTW.out).mono ?_); rintro e w3 ⟨g, cap, rfl, ho, hb⟩; have HIC := Aside0.mk ho; clear ho; have n0_ := Aside0.mk (below_step HB.out hb); have m0_ := Aside0.mk (Kd.C_below HXI.out hb); have m1_ := Aside0.mk (Kd.C_below HYI.out hb); clear HB hb HXI HYI; have HB := n0_; have HXI := m0_; have HYI := m1_; clear n0_ m0_ m1_)
                  | (go_at_call 17; (with_reducible refine (impl_frequency xs ys HD.out.1 HD.out.2.1 HD.out.2.2.1 HD.out.2.2.2.1 HD.out.2.2.2.2.1 HD.out.2.2.2.2.2.1 HD.out.2.2.2.2.2.2 (some ⟨g, 0, none⟩) cap _ HIC.out).mono ?_); rintro e w4 ⟨A4, c4, rfl, ho, hb⟩; have h_ := (Kd.R_reads' ho).2.2; rw [rws_len] at h_; have HFR := Aside0.mk h_; clear h_ ho; have n0_ := Aside0.mk (below_step HB.out hb); have m0_ := Aside0.mk (Kd.C_below HXI.out hb); have m1_ := Aside0.mk (Kd.C_below HYI.out hb); clear HB hb HXI HYI; have HB := n0_; have HXI := m0_; have HYI := m1_; clear n0_ m0_ m1_)
                  | (go_at_call 20; (with_reducible refine (sumsN kf A5 c5 xs nx HNX.out A6 c6 ys ny HNY.out (counts xs ys) _ HXI.out HXL.out HYI.out HYL.out HKF.out).mono ?_); rintro e w5 ⟨v, rfl, ho, hb⟩; obtain ⟨A7, c7, e7⟩ := Kd.R_slice ho; subst e7; have HCI := Aside0.mk (Kd.R_reads' ho).2.2; clear ho; have n0_ := Aside0.mk (below_step HB.out hb); have m0_ := Aside0.mk (Kd.C_below HFR.out hb); clear HB hb HFR; have HB := n0_; have HFR := m0_; clear n0_ m0_)
                  | (go_at_call 19; (with_reducible refine (column (counts xs ys) HCB.out.1 HCB.out.2 A7 c7 _ HCI.out).mono ?_); rintro e w6 ⟨v, rfl, ho, hb⟩; obtain ⟨A8, c8, e8⟩ := Kd.R_slice ho; rw [rws_len] at e8; subst e8; have h_ := (Kd.R_reads' ho).2.2; rw [rws_len] at h_; have HC8 := Aside0.mk h_; clear h_ ho; have n0_ := Aside0.mk (below_step HB.out hb); have m0_ := Aside0.mk (Kd.C_below HFR.out hb); clear HB hb HFR; have HB := n0_; have HFR := m0_; clear n0_ m0_)
                  | (go_at_call 16; (with_reducible refine (same_col (counts xs ys) HCB.out.1 HCB.out.2 A4 A8 c4 c8 _ HFR.out HC8.out).mono ?_); rintro e w7 ⟨rfl, hb⟩; have n0_ := Aside0.mk (below_step HB.out hb); clear HB hb ; have HB := n0_; clear n0_ ))
                go_ret
                exact ⟨by rfl, HB.out⟩
          · have cc : decide (xi < (steps.length : Int)) = false := decide_eq_false hl
            have cc2 : (xi < (steps.length : Int)) = False := eq_false hl
            clear hi hl
            by_cases z1 : da.length = 0
            · have e1 : ((da.length : Int) == 0) = true := by rw [z1]; rfl
              have e2 : (da.length == 0) = true := by rw [z1]; rfl
              have e3 : (da.length = 0) = True := eq_true z1
              have e4 : ((da.length : Int) = 0) = True := eq_true (by omega)
              clear z1
              go_upto_region 13 with fail
              clear HB HB1 HO HXR HYR HDI
              have HXI := Aside0.mk (show Kd.C (Kd.int .i64) ((wr.alloc (.cells #[.int .i64 1, .int .i64 2, .int .i64 3] 3)).alloc (.cells #[.int .i64 1, .int .i64 2] 3)) (some ⟨wr.heap.size, 0, none⟩) ([1, 2, 3] : List Int).length [1, 2, 3] from Kd.C_alloc (lit_ints wr [1, 2, 3] (by decide)) (.cells #[.int .i64 1, .int .i64 2] 3))
              have hy_ := lit_ints (wr.alloc (.cells #[.int .i64 1, .int .i64 2, .int .i64 3] 3)) [1, 2] (by decide)
              rw [World.size_alloc] at hy_
              have HYI := Aside0.mk (show Kd.C (Kd.int .i64) ((wr.alloc (.cells #[.int .i64 1, .int .i64 2, .int .i64 3] 3)).alloc (.cells #[.int .i64 1, .int .i64 2] 3)) (some ⟨wr.heap.size + 1, 0, none⟩) ([1, 2] : List Int).length [1, 2] from hy_)
              have HB := Aside0.mk (below_alloc (below_alloc HBB.out (.cells #[.int .i64 1, .int .i64 2, .int .i64 3] 3)) (.cells #[.int .i64 1, .int .i64 2] 3))
              clear HBB hy_
              obtain ⟨xs, hxs⟩ : ∃ xs : List Int, xs = [1, 2, 3] := ⟨_, rfl⟩
              obtain ⟨ys, hys⟩ : ∃ ys : List Int, ys = [1, 2] := ⟨_, rfl⟩
              rw [← hxs] at HXI
              rw [← hys] at HYI
              have HNX := Aside0.mk (show xs.length = 3 by rw [hxs]; rfl)
              have HNY := Aside0.mk (show ys.length = 2 by rw [hys]; rfl)
              have HXL := Aside0.mk (show xs.length ≤ 3 by rw [hxs]; decide)
              have HYL := Aside0.mk (show ys.length ≤ 2 by rw [hys]; decide)
              have HY99 := Aside0.mk (show ys.length + 1 ≤ 100 by rw [hys]; decide)
              have HD := Aside0.mk (show (∀ x ∈ xs, -500 ≤ x ∧ x ≤ 500) ∧ xs.length ≤ 100 ∧ xs ≠ [] ∧ (∀ x ∈ ys, -500 ≤ x ∧ x ≤ 500) ∧ ys.length ≤ 100 ∧ ys ≠ [] ∧ ys.Pairwise (· < ·) by rw [hxs, hys]; exact ⟨by decide, by decide, by decide, by decide, by decide, by decide, by decide⟩)
              clear hxs hys
              generalize (wr.alloc (.cells #[.int .i64 1, .int .i64 2, .int .i64 3] 3)).alloc (.cells #[.int .i64 1, .int .i64 2] 3) = wz at HXI HYI HB ⊢
              have HTC := Aside0.mk (show ∀ x ∈ [xs, ys], x.length ≤ 100 ∧ ∀ y ∈ x, -500 ≤ y ∧ y ≤ 500 from fun x hx0 => by
                rcases List.mem_cons.1 hx0 with rfl | h1
                · exact ⟨HD.out.2.1, HD.out.1⟩
                · rw [List.mem_singleton.1 h1]; exact ⟨HD.out.2.2.2.2.1, HD.out.2.2.2.1⟩)
              have HCB := Aside0.mk (And.intro (counts_ok (xs := xs) HD.out.2.1 HD.out.2.2.2.2.2.2) (show (counts xs ys).length ≤ 100 by rw [counts_len]; exact HY99.out))
              obtain ⟨kf, hkf⟩ := sums_counts xs ys HD.out.2.1 HD.out.2.2.2.2.1 HD.out.2.2.2.2.2.2
              have HKF := Aside0.mk hkf
              clear hkf
              go_wp2_with (first
                | (go_at_call 19; (with_reducible refine (columnN xs 3 HNX.out HD.out.1 HD.out.2.1 (some ⟨wr.heap.size, 0, none⟩) 3 _ HXI.out).mono ?_); rintro e w1 ⟨v, rfl, ho, hb⟩; obtain ⟨A1, c1, e1⟩ := Kd.R_slice ho; rw [rws_len] at e1; subst e1; have h_ := Kd.R_reads' ho; rw [rws_len] at h_; have HC1 := Aside0.mk h_.2.2; have HL1 := Aside0.mk h_.2.1; clear h_ ho; have n0_ := Aside0.mk (below_step HB.out hb); have m0_ := Aside0.mk (Kd.C_below HXI.out hb); have m1_ := Aside0.mk (Kd.C_below HYI.out hb); clear HB hb HXI HYI; have HB := n0_; have HXI := m0_; have HYI := m1_; clear n0_ m0_ m1_)
                | (go_at_call 19; (with_reducible refine (columnN ys 2 HNY.out HD.out.2.2.2.1 HD.out.2.2.2.2.1 (some ⟨wr.heap.size + 1, 0, none⟩) 2 _ HYI.out).mono ?_); rintro e w2 ⟨v, rfl, ho, hb⟩; obtain ⟨A2, c2, e2⟩ := Kd.R_slice ho; rw [rws_len] at e2; subst e2; have h_ := Kd.R_reads' ho; rw [rws_len] at h_; have HC2 := Aside0.mk h_.2.2; have HL2 := Aside0.mk h_.2.1; clear h_ ho; have n0_ := Aside0.mk (below_step HB.out hb); have m0_ := Aside0.mk (Kd.C_below HXI.out hb); have m1_ := Aside0.mk (Kd.C_below HYI.out hb); have m2_ := Aside0.mk (Kd.C_below HC1.out hb); clear HB hb HXI HYI HC1; have HB := n0_; have HXI := m0_; have HYI := m1_; have HC1 := m2_; clear n0_ m0_ m1_ m2_; have HTW := Aside0.mk (two_cols HC1.out HL1.out HC2.out HL2.out); have HAL := Aside0.mk (below_alloc (Below.refl w2.heap.size w2) (.cells #[.int .i64 5, .int .i64 0, .int .i64 0, .string ⟨#[]⟩, .slice A1 xs.length c1, .int .i64 5, .int .i64 0, .int .i64 0, .string ⟨#[]⟩, .slice A2 ys.length c2] 48)); have n0_ := Aside0.mk (below_step HB.out HAL.out); have n1_ := Aside0.mk (Kd.C_below HXI.out HAL.out); have n2_ := Aside0.mk (Kd.C_below HYI.out HAL.out); clear HB HXI HYI; have HB := n0_; have HXI := n1_; have HYI := n2_; clear n0_ n1_ n2_)
                | (go_at_call 18; (with_reducible refine (all_two xs ys HTC.out _ _ _ HTW.out).mono ?_); rintro e w3 ⟨g, cap, rfl, ho, hb⟩; have HIC := Aside0.mk ho; clear ho; have n0_ := Aside0.mk (below_step HB.out hb); have m0_ := Aside0.mk (Kd.C_below HXI.out hb); have m1_ := Aside0.mk (Kd.C_below HYI.out hb); clear HB hb HXI HYI; have HB := n0_; have HXI := m0_; have HYI := m1_; clear n0_ m0_ m1_)
                | (go_at_call 17; (with_reducible refine (impl_frequency xs ys HD.out.1 HD.out.2.1 HD.out.2.2.1 HD.out.2.2.2.1 HD.out.2.2.2.2.1 HD.out.2.2.2.2.2.1 HD.out.2.2.2.2.2.2 (some ⟨g, 0, none⟩) cap _ HIC.out).mono ?_); rintro e w4 ⟨A4, c4, rfl, ho, hb⟩; have h_ := (Kd.R_reads' ho).2.2; rw [rws_len] at h_; have HFR := Aside0.mk h_; clear h_ ho; have n0_ := Aside0.mk (below_step HB.out hb); have m0_ := Aside0.mk (Kd.C_below HXI.out hb); have m1_ := Aside0.mk (Kd.C_below HYI.out hb); clear HB hb HXI HYI; have HB := n0_; have HXI := m0_; have HYI := m1_; clear n0_ m0_ m1_)
                | (go_at_call 20; (with_reducible refine (sumsN kf (some ⟨wr.heap.size, 0, none⟩) 3 xs 3 HNX.out (some ⟨wr.heap.size + 1, 0, none⟩) 2 ys 2 HNY.out (counts xs ys) _ HXI.out HXL.out HYI.out HYL.out HKF.out).mono ?_); rintro e w5 ⟨v, rfl, ho, hb⟩; obtain ⟨A7, c7, e7⟩ := Kd.R_slice ho; subst e7; have HCI := Aside0.mk (Kd.R_reads' ho).2.2; clear ho; have n0_ := Aside0.mk (below_step HB.out hb); have m0_ := Aside0.mk (Kd.C_below HFR.out hb); clear HB hb HFR; have HB := n0_; have HFR := m0_; clear n0_ m0_)
                | (go_at_call 19; (with_reducible refine (column (counts xs ys) HCB.out.1 HCB.out.2 A7 c7 _ HCI.out).mono ?_); rintro e w6 ⟨v, rfl, ho, hb⟩; obtain ⟨A8, c8, e8⟩ := Kd.R_slice ho; rw [rws_len] at e8; subst e8; have h_ := (Kd.R_reads' ho).2.2; rw [rws_len] at h_; have HC8 := Aside0.mk h_; clear h_ ho; have n0_ := Aside0.mk (below_step HB.out hb); have m0_ := Aside0.mk (Kd.C_below HFR.out hb); clear HB hb HFR; have HB := n0_; have HFR := m0_; clear n0_ m0_)
                | (go_at_call 16; (with_reducible refine (same_col (counts xs ys) HCB.out.1 HCB.out.2 A4 A8 c4 c8 _ HFR.out HC8.out).mono ?_); rintro e w7 ⟨rfl, hb⟩; have n0_ := Aside0.mk (below_step HB.out hb); clear HB hb ; have HB := n0_; clear n0_ ))
              go_ret
              exact ⟨by rfl, HB.out⟩
            · have e1 : ((da.length : Int) == 0) = false := by rw [beq_eq_false_iff_ne]; omega
              have e2 : (da.length == 0) = false := by rw [beq_eq_false_iff_ne]; omega
              have e3 : (da.length = 0) = False := eq_false z1
              have e4 : ((da.length : Int) = 0) = False := eq_false (by omega)
              by_cases z2 : bs.length = 0
              · have f1 : ((bs.length : Int) == 0) = true := by rw [z2]; rfl
                have f2 : (bs.length == 0) = true := by rw [z2]; rfl
                have f3 : (bs.length = 0) = True := eq_true z2
                have f4 : ((bs.length : Int) = 0) = True := eq_true (by omega)
                clear z1 z2
                go_upto_region 13 with fail
                clear HB HB1 HO HXR HYR HDI
                have HXI := Aside0.mk (show Kd.C (Kd.int .i64) ((wr.alloc (.cells #[.int .i64 1, .int .i64 2, .int .i64 3] 3)).alloc (.cells #[.int .i64 1, .int .i64 2] 3)) (some ⟨wr.heap.size, 0, none⟩) ([1, 2, 3] : List Int).length [1, 2, 3] from Kd.C_alloc (lit_ints wr [1, 2, 3] (by decide)) (.cells #[.int .i64 1, .int .i64 2] 3))
                have hy_ := lit_ints (wr.alloc (.cells #[.int .i64 1, .int .i64 2, .int .i64 3] 3)) [1, 2] (by decide)
                rw [World.size_alloc] at hy_
                have HYI := Aside0.mk (show Kd.C (Kd.int .i64) ((wr.alloc (.cells #[.int .i64 1, .int .i64 2, .int .i64 3] 3)).alloc (.cells #[.int .i64 1, .int .i64 2] 3)) (some ⟨wr.heap.size + 1, 0, none⟩) ([1, 2] : List Int).length [1, 2] from hy_)
                have HB := Aside0.mk (below_alloc (below_alloc HBB.out (.cells #[.int .i64 1, .int .i64 2, .int .i64 3] 3)) (.cells #[.int .i64 1, .int .i64 2] 3))
                clear HBB hy_
                obtain ⟨xs, hxs⟩ : ∃ xs : List Int, xs = [1, 2, 3] := ⟨_, rfl⟩
                obtain ⟨ys, hys⟩ : ∃ ys : List Int, ys = [1, 2] := ⟨_, rfl⟩
                rw [← hxs] at HXI
                rw [← hys] at HYI
                have HNX := Aside0.mk (show xs.length = 3 by rw [hxs]; rfl)
                have HNY := Aside0.mk (show ys.length = 2 by rw [hys]; rfl)
                have HXL := Aside0.mk (show xs.length ≤ 3 by rw [hxs]; decide)
                have HYL := Aside0.mk (show ys.length ≤ 2 by rw [hys]; decide)
                have HY99 := Aside0.mk (show ys.length + 1 ≤ 100 by rw [hys]; decide)
                have HD := Aside0.mk (show (∀ x ∈ xs, -500 ≤ x ∧ x ≤ 500) ∧ xs.length ≤ 100 ∧ xs ≠ [] ∧ (∀ x ∈ ys, -500 ≤ x ∧ x ≤ 500) ∧ ys.length ≤ 100 ∧ ys ≠ [] ∧ ys.Pairwise (· < ·) by rw [hxs, hys]; exact ⟨by decide, by decide, by decide, by decide, by decide, by decide, by decide⟩)
                clear hxs hys
                generalize (wr.alloc (.cells #[.int .i64 1, .int .i64 2, .int .i64 3] 3)).alloc (.cells #[.int .i64 1, .int .i64 2] 3) = wz at HXI HYI HB ⊢
                have HTC := Aside0.mk (show ∀ x ∈ [xs, ys], x.length ≤ 100 ∧ ∀ y ∈ x, -500 ≤ y ∧ y ≤ 500 from fun x hx0 => by
                  rcases List.mem_cons.1 hx0 with rfl | h1
                  · exact ⟨HD.out.2.1, HD.out.1⟩
                  · rw [List.mem_singleton.1 h1]; exact ⟨HD.out.2.2.2.2.1, HD.out.2.2.2.1⟩)
                have HCB := Aside0.mk (And.intro (counts_ok (xs := xs) HD.out.2.1 HD.out.2.2.2.2.2.2) (show (counts xs ys).length ≤ 100 by rw [counts_len]; exact HY99.out))
                obtain ⟨kf, hkf⟩ := sums_counts xs ys HD.out.2.1 HD.out.2.2.2.2.1 HD.out.2.2.2.2.2.2
                have HKF := Aside0.mk hkf
                clear hkf
                go_wp2_with (first
                  | (go_at_call 19; (with_reducible refine (columnN xs 3 HNX.out HD.out.1 HD.out.2.1 (some ⟨wr.heap.size, 0, none⟩) 3 _ HXI.out).mono ?_); rintro e w1 ⟨v, rfl, ho, hb⟩; obtain ⟨A1, c1, e1⟩ := Kd.R_slice ho; rw [rws_len] at e1; subst e1; have h_ := Kd.R_reads' ho; rw [rws_len] at h_; have HC1 := Aside0.mk h_.2.2; have HL1 := Aside0.mk h_.2.1; clear h_ ho; have n0_ := Aside0.mk (below_step HB.out hb); have m0_ := Aside0.mk (Kd.C_below HXI.out hb); have m1_ := Aside0.mk (Kd.C_below HYI.out hb); clear HB hb HXI HYI; have HB := n0_; have HXI := m0_; have HYI := m1_; clear n0_ m0_ m1_)
                  | (go_at_call 19; (with_reducible refine (columnN ys 2 HNY.out HD.out.2.2.2.1 HD.out.2.2.2.2.1 (some ⟨wr.heap.size + 1, 0, none⟩) 2 _ HYI.out).mono ?_); rintro e w2 ⟨v, rfl, ho, hb⟩; obtain ⟨A2, c2, e2⟩ := Kd.R_slice ho; rw [rws_len] at e2; subst e2; have h_ := Kd.R_reads' ho; rw [rws_len] at h_; have HC2 := Aside0.mk h_.2.2; have HL2 := Aside0.mk h_.2.1; clear h_ ho; have n0_ := Aside0.mk (below_step HB.out hb); have m0_ := Aside0.mk (Kd.C_below HXI.out hb); have m1_ := Aside0.mk (Kd.C_below HYI.out hb); have m2_ := Aside0.mk (Kd.C_below HC1.out hb); clear HB hb HXI HYI HC1; have HB := n0_; have HXI := m0_; have HYI := m1_; have HC1 := m2_; clear n0_ m0_ m1_ m2_; have HTW := Aside0.mk (two_cols HC1.out HL1.out HC2.out HL2.out); have HAL := Aside0.mk (below_alloc (Below.refl w2.heap.size w2) (.cells #[.int .i64 5, .int .i64 0, .int .i64 0, .string ⟨#[]⟩, .slice A1 xs.length c1, .int .i64 5, .int .i64 0, .int .i64 0, .string ⟨#[]⟩, .slice A2 ys.length c2] 48)); have n0_ := Aside0.mk (below_step HB.out HAL.out); have n1_ := Aside0.mk (Kd.C_below HXI.out HAL.out); have n2_ := Aside0.mk (Kd.C_below HYI.out HAL.out); clear HB HXI HYI; have HB := n0_; have HXI := n1_; have HYI := n2_; clear n0_ n1_ n2_)
                  | (go_at_call 18; (with_reducible refine (all_two xs ys HTC.out _ _ _ HTW.out).mono ?_); rintro e w3 ⟨g, cap, rfl, ho, hb⟩; have HIC := Aside0.mk ho; clear ho; have n0_ := Aside0.mk (below_step HB.out hb); have m0_ := Aside0.mk (Kd.C_below HXI.out hb); have m1_ := Aside0.mk (Kd.C_below HYI.out hb); clear HB hb HXI HYI; have HB := n0_; have HXI := m0_; have HYI := m1_; clear n0_ m0_ m1_)
                  | (go_at_call 17; (with_reducible refine (impl_frequency xs ys HD.out.1 HD.out.2.1 HD.out.2.2.1 HD.out.2.2.2.1 HD.out.2.2.2.2.1 HD.out.2.2.2.2.2.1 HD.out.2.2.2.2.2.2 (some ⟨g, 0, none⟩) cap _ HIC.out).mono ?_); rintro e w4 ⟨A4, c4, rfl, ho, hb⟩; have h_ := (Kd.R_reads' ho).2.2; rw [rws_len] at h_; have HFR := Aside0.mk h_; clear h_ ho; have n0_ := Aside0.mk (below_step HB.out hb); have m0_ := Aside0.mk (Kd.C_below HXI.out hb); have m1_ := Aside0.mk (Kd.C_below HYI.out hb); clear HB hb HXI HYI; have HB := n0_; have HXI := m0_; have HYI := m1_; clear n0_ m0_ m1_)
                  | (go_at_call 20; (with_reducible refine (sumsN kf (some ⟨wr.heap.size, 0, none⟩) 3 xs 3 HNX.out (some ⟨wr.heap.size + 1, 0, none⟩) 2 ys 2 HNY.out (counts xs ys) _ HXI.out HXL.out HYI.out HYL.out HKF.out).mono ?_); rintro e w5 ⟨v, rfl, ho, hb⟩; obtain ⟨A7, c7, e7⟩ := Kd.R_slice ho; subst e7; have HCI := Aside0.mk (Kd.R_reads' ho).2.2; clear ho; have n0_ := Aside0.mk (below_step HB.out hb); have m0_ := Aside0.mk (Kd.C_below HFR.out hb); clear HB hb HFR; have HB := n0_; have HFR := m0_; clear n0_ m0_)
                  | (go_at_call 19; (with_reducible refine (column (counts xs ys) HCB.out.1 HCB.out.2 A7 c7 _ HCI.out).mono ?_); rintro e w6 ⟨v, rfl, ho, hb⟩; obtain ⟨A8, c8, e8⟩ := Kd.R_slice ho; rw [rws_len] at e8; subst e8; have h_ := (Kd.R_reads' ho).2.2; rw [rws_len] at h_; have HC8 := Aside0.mk h_; clear h_ ho; have n0_ := Aside0.mk (below_step HB.out hb); have m0_ := Aside0.mk (Kd.C_below HFR.out hb); clear HB hb HFR; have HB := n0_; have HFR := m0_; clear n0_ m0_)
                  | (go_at_call 16; (with_reducible refine (same_col (counts xs ys) HCB.out.1 HCB.out.2 A4 A8 c4 c8 _ HFR.out HC8.out).mono ?_); rintro e w7 ⟨rfl, hb⟩; have n0_ := Aside0.mk (below_step HB.out hb); clear HB hb ; have HB := n0_; clear n0_ ))
                go_ret
                exact ⟨by rfl, HB.out⟩
              · have f1 : ((bs.length : Int) == 0) = false := by rw [beq_eq_false_iff_ne]; omega
                have f2 : (bs.length == 0) = false := by rw [beq_eq_false_iff_ne]; omega
                have f3 : (bs.length = 0) = False := eq_false z2
                have f4 : ((bs.length : Int) = 0) = False := eq_false (by omega)
                have HD := Aside0.mk (show (∀ x ∈ da, -500 ≤ x ∧ x ≤ 500) ∧ da.length ≤ 100 ∧ da ≠ [] ∧ (∀ x ∈ bs, -500 ≤ x ∧ x ≤ 500) ∧ bs.length ≤ 100 ∧ bs ≠ [] ∧ bs.Pairwise (· < ·) from ⟨fun x hx => by have := HDB.out.2 x hx; omega, by have := HDB.out.1; omega, fun h => z1 (by rw [h]; rfl), fun x hx => by have h1 := HBS.out.2.2.1 x hx; have h2 := HBS.out.2.2.2; have h3 := HI.out; omega, by have := HBS.out.1; have := HI.out; omega, fun h => z2 (by rw [h]; rfl), HBS.out.2.1⟩)
                have HY99 := Aside0.mk (show bs.length + 1 ≤ 100 by have := HBS.out.1; have := HI.out; omega)
                have HXI := HXR
                have HYI := Aside0.mk HYR.out.2.2
                have HXL := Aside0.mk HDI.out.2.1
                have HYL := Aside0.mk HYR.out.2.1
                clear z1 z2
                go_upto_region 13 with fail
                clear HB HB1 HO HXR HYR HDI
                have HB := HBB
                clear HBB
                obtain ⟨xs, hxs⟩ : ∃ xs, xs = da := ⟨_, rfl⟩
                subst hxs
                obtain ⟨ys, hys⟩ : ∃ ys, ys = bs := ⟨_, rfl⟩
                subst hys
                obtain ⟨nx, hnx⟩ : ∃ nx, xs.length = nx := ⟨_, rfl⟩
                have HNX := Aside0.mk hnx
                obtain ⟨ny, hny⟩ : ∃ ny, ys.length = ny := ⟨_, rfl⟩
                have HNY := Aside0.mk hny
                rw [hnx, hny]
                clear hnx hny
                have HTC := Aside0.mk (show ∀ x ∈ [xs, ys], x.length ≤ 100 ∧ ∀ y ∈ x, -500 ≤ y ∧ y ≤ 500 from fun x hx0 => by
                  rcases List.mem_cons.1 hx0 with rfl | h1
                  · exact ⟨HD.out.2.1, HD.out.1⟩
                  · rw [List.mem_singleton.1 h1]; exact ⟨HD.out.2.2.2.2.1, HD.out.2.2.2.1⟩)
                have HCB := Aside0.mk (And.intro (counts_ok (xs := xs) HD.out.2.1 HD.out.2.2.2.2.2.2) (show (counts xs ys).length ≤ 100 by rw [counts_len]; exact HY99.out))
                obtain ⟨kf, hkf⟩ := sums_counts xs ys HD.out.2.1 HD.out.2.2.2.2.1 HD.out.2.2.2.2.2.2
                have HKF := Aside0.mk hkf
                clear hkf
                go_wp2_with (first
                  | (go_at_call 19; (with_reducible refine (columnN xs nx HNX.out HD.out.1 HD.out.2.1 A5 c5 _ HXI.out).mono ?_); rintro e w1 ⟨v, rfl, ho, hb⟩; obtain ⟨A1, c1, e1⟩ := Kd.R_slice ho; rw [rws_len] at e1; subst e1; have h_ := Kd.R_reads' ho; rw [rws_len] at h_; have HC1 := Aside0.mk h_.2.2; have HL1 := Aside0.mk h_.2.1; clear h_ ho; have n0_ := Aside0.mk (below_step HB.out hb); have m0_ := Aside0.mk (Kd.C_below HXI.out hb); have m1_ := Aside0.mk (Kd.C_below HYI.out hb); clear HB hb HXI HYI; have HB := n0_; have HXI := m0_; have HYI := m1_; clear n0_ m0_ m1_)
                  | (go_at_call 19; (with_reducible refine (columnN ys ny HNY.out HD.out.2.2.2.1 HD.out.2.2.2.2.1 A6 c6 _ HYI.out).mono ?_); rintro e w2 ⟨v, rfl, ho, hb⟩; obtain ⟨A2, c2, e2⟩ := Kd.R_slice ho; rw [rws_len] at e2; subst e2; have h_ := Kd.R_reads' ho; rw [rws_len] at h_; have HC2 := Aside0.mk h_.2.2; have HL2 := Aside0.mk h_.2.1; clear h_ ho; have n0_ := Aside0.mk (below_step HB.out hb); have m0_ := Aside0.mk (Kd.C_below HXI.out hb); have m1_ := Aside0.mk (Kd.C_below HYI.out hb); have m2_ := Aside0.mk (Kd.C_below HC1.out hb); clear HB hb HXI HYI HC1; have HB := n0_; have HXI := m0_; have HYI := m1_; have HC1 := m2_; clear n0_ m0_ m1_ m2_; have HTW := Aside0.mk (two_cols HC1.out HL1.out HC2.out HL2.out); have HAL := Aside0.mk (below_alloc (Below.refl w2.heap.size w2) (.cells #[.int .i64 5, .int .i64 0, .int .i64 0, .string ⟨#[]⟩, .slice A1 xs.length c1, .int .i64 5, .int .i64 0, .int .i64 0, .string ⟨#[]⟩, .slice A2 ys.length c2] 48)); have n0_ := Aside0.mk (below_step HB.out HAL.out); have n1_ := Aside0.mk (Kd.C_below HXI.out HAL.out); have n2_ := Aside0.mk (Kd.C_below HYI.out HAL.out); clear HB HXI HYI; have HB := n0_; have HXI := n1_; have HYI := n2_; clear n0_ n1_ n2_)
                  | (go_at_call 18; (with_reducible refine (all_two xs ys HTC.out _ _ _ HTW.out).mono ?_); rintro e w3 ⟨g, cap, rfl, ho, hb⟩; have HIC := Aside0.mk ho; clear ho; have n0_ := Aside0.mk (below_step HB.out hb); have m0_ := Aside0.mk (Kd.C_below HXI.out hb); have m1_ := Aside0.mk (Kd.C_below HYI.out hb); clear HB hb HXI HYI; have HB := n0_; have HXI := m0_; have HYI := m1_; clear n0_ m0_ m1_)
                  | (go_at_call 17; (with_reducible refine (impl_frequency xs ys HD.out.1 HD.out.2.1 HD.out.2.2.1 HD.out.2.2.2.1 HD.out.2.2.2.2.1 HD.out.2.2.2.2.2.1 HD.out.2.2.2.2.2.2 (some ⟨g, 0, none⟩) cap _ HIC.out).mono ?_); rintro e w4 ⟨A4, c4, rfl, ho, hb⟩; have h_ := (Kd.R_reads' ho).2.2; rw [rws_len] at h_; have HFR := Aside0.mk h_; clear h_ ho; have n0_ := Aside0.mk (below_step HB.out hb); have m0_ := Aside0.mk (Kd.C_below HXI.out hb); have m1_ := Aside0.mk (Kd.C_below HYI.out hb); clear HB hb HXI HYI; have HB := n0_; have HXI := m0_; have HYI := m1_; clear n0_ m0_ m1_)
                  | (go_at_call 20; (with_reducible refine (sumsN kf A5 c5 xs nx HNX.out A6 c6 ys ny HNY.out (counts xs ys) _ HXI.out HXL.out HYI.out HYL.out HKF.out).mono ?_); rintro e w5 ⟨v, rfl, ho, hb⟩; obtain ⟨A7, c7, e7⟩ := Kd.R_slice ho; subst e7; have HCI := Aside0.mk (Kd.R_reads' ho).2.2; clear ho; have n0_ := Aside0.mk (below_step HB.out hb); have m0_ := Aside0.mk (Kd.C_below HFR.out hb); clear HB hb HFR; have HB := n0_; have HFR := m0_; clear n0_ m0_)
                  | (go_at_call 19; (with_reducible refine (column (counts xs ys) HCB.out.1 HCB.out.2 A7 c7 _ HCI.out).mono ?_); rintro e w6 ⟨v, rfl, ho, hb⟩; obtain ⟨A8, c8, e8⟩ := Kd.R_slice ho; rw [rws_len] at e8; subst e8; have h_ := (Kd.R_reads' ho).2.2; rw [rws_len] at h_; have HC8 := Aside0.mk h_; clear h_ ho; have n0_ := Aside0.mk (below_step HB.out hb); have m0_ := Aside0.mk (Kd.C_below HFR.out hb); clear HB hb HFR; have HB := n0_; have HFR := m0_; clear n0_ m0_)
                  | (go_at_call 16; (with_reducible refine (same_col (counts xs ys) HCB.out.1 HCB.out.2 A4 A8 c4 c8 _ HFR.out HC8.out).mono ?_); rintro e w7 ⟨rfl, hb⟩; have n0_ := Aside0.mk (below_step HB.out hb); clear HB hb ; have HB := n0_; clear n0_ ))
                go_ret
                exact ⟨by rfl, HB.out⟩
theorem law_rows (a0 : Option Addr) (len0 cap0 : Nat) (z0 : List Int) (a1 : Option Addr) (len1 cap1 : Nat) (z1 : List Int) (w : World) (w0 : (a0 = none ∧ len0 = 0 ∧ cap0 = 0 ∧ z0 = []) ∨ ∃ x, a0 = some x ∧ len0 ≤ cap0 ∧ cap0 ≤ maxLen ∧ z0.length = cap0 ∧ (∀ i, i < z0.length → w.cell? (x.add i) = some (.int .i64 (z0.getD i 0))) ∧ ∀ n ∈ z0, (Lit.int .i64 n).wf = true)
    (w1 : (a1 = none ∧ len1 = 0 ∧ cap1 = 0 ∧ z1 = []) ∨ ∃ x, a1 = some x ∧ len1 ≤ cap1 ∧ cap1 ≤ maxLen ∧ z1.length = cap1 ∧ (∀ i, i < z1.length → w.cell? (x.add i) = some (.int .i64 (z1.getD i 0))) ∧ ∀ n ∈ z1, (Lit.int .i64 n).wf = true) :
    Calls Try.prog 5 #[.slice a0 len0 cap0, .slice a1 len1 cap1] w fun e w' => e = .returned (.bool true) ∧ Below w.heap.size w w' := by
  obtain ⟨l0, rfl, hr0, hm0, hw0, hc0⟩ := ReadsInt.ofRowC w0
  obtain ⟨l1, rfl, hr1, hm1, hw1, hc1⟩ := ReadsInt.ofRowC w1
  exact law l0 l1 a0 a1 cap0 cap1 w (Kd.C_of_reads (d := (0 : Int)) (h1 := fun _ => rfl) hr0) hc0 (Kd.C_of_reads (d := (0 : Int)) (h1 := fun _ => rfl) hr1) hc1
end Go.Proofs.Ytjefbpfpobgmaaa.FsG
