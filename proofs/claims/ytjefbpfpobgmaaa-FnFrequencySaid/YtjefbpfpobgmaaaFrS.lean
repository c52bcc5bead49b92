/- FnFrequency, walks: a list of two columns as the package's list of arguments. Conditions: the numbers' sizes, columns that are not empty. -/
import Derived.Test.YtjefbpfpobgmaaaFrR
namespace Go.Proofs.Ytjefbpfpobgmaaa.FrS
open Go.RowKit Go.Proofs.YtjefbpfpobgmaaaW.PrintWords Go.Proofs.YtjefbpfpobgmaaaW.PrintLast Go.Proofs.YtjefbpfpobgmaaaW.PrintMore Go.Proofs.Ytjefbpfpobgmaaa.FrA Go.Proofs.Ytjefbpfpobgmaaa.FrB Go.Proofs.Ytjefbpfpobgmaaa.FrC Go.Proofs.Ytjefbpfpobgmaaa.FrK Go.Proofs.Ytjefbpfpobgmaaa.FrL Go.Proofs.Ytjefbpfpobgmaaa.FrM Go.Proofs.Ytjefbpfpobgmaaa.FrN Go.Proofs.Ytjefbpfpobgmaaa.FrO Go.Proofs.Ytjefbpfpobgmaaa.FrP Go.Proofs.Ytjefbpfpobgmaaa.FrQ Go.Proofs.Ytjefbpfpobgmaaa.FrR
set_option linter.unusedVariables false
set_option linter.unusedSimpArgs false
attribute [local go_sem] Flt.run_store_float
abbrev argC (v : Value) (p q : Option Addr) : Array Value := #[.string ⟨#[]⟩, .float .f64 0, .string ⟨#[]⟩, .slice none 0 0, v, .bool false, .string ⟨#[]⟩, .int .u8 4, .pointer p, .pointer q]
theorem at_VX {w : World} {A : Option Addr} {n : Nat} {cs : List (List Int)} (h : (kVI 64 62).C w A n cs) (i : Int) (h0 : 0 ≤ i) (h1 : i < (n : Int)) : ∃ ad A1 c1, A = some ad ∧ w.cell? (ad.add (i.toNat * 4)) = some (.int .i64 5) ∧ w.cell? ⟨(ad.add (i.toNat * 4)).block, (ad.add (i.toNat * 4)).off + 1, none⟩ = some (.float .f64 0) ∧ w.cell? ⟨(ad.add (i.toNat * 4)).block, (ad.add (i.toNat * 4)).off + 2, none⟩ = some (.string ⟨#[]⟩) ∧ w.cell? ⟨(ad.add (i.toNat * 4)).block, (ad.add (i.toNat * 4)).off + 3, none⟩ = some (.slice A1 (rdc cs i).length c1) ∧ (rdc cs i).length ≤ c1 ∧ (kCol 62 kI).C w A1 (rdc cs i).length (rws (rdc cs i)) := by
  obtain ⟨ad, c, e, _, ⟨c', rfl, A1, c1, rfl, hl, hr⟩, hc0⟩ := Kd.C_get h [] i h0 h1
  rw [rws_len] at hl hr hc0
  refine ⟨ad, A1, c1, e, ?_, ?_, ?_, ?_, hl, hr⟩
  · exact hc0 0 _ rfl
  · rw [← add_field _ _ 1 (by decide)]; exact hc0 1 _ rfl
  · rw [← add_field _ _ 2 (by decide)]; exact hc0 2 _ rfl
  · rw [← add_field _ _ 3 (by decide)]; exact hc0 3 _ rfl
set_option maxHeartbeats 4000000 in
set_option maxRecDepth 100000 in
theorem list_two (xs ys : List Int) (hx : ∀ x ∈ xs, -500 ≤ x ∧ x ≤ 500) (hn : xs.length ≤ 100) (hp : xs ≠ []) (hy : ∀ x ∈ ys, -500 ≤ x ∧ x ≤ 500) (hm : ys.length ≤ 100) (hq : ys ≠ []) (g c : Nat) (w : World) (hr0 : (kVI 64 62).C w (some ⟨g, 0, none⟩) 2 [xs, ys]) :
    Calls Try.prog 42 #[.slice (some ⟨g, 0, none⟩) 2 c] w fun e w' => ∃ (l f h : Nat) (A1 A2 : Option Addr) (c1 c2 : Nat) (p1 q1 p2 q2 : Option Addr), e = .returned (.pointer (some ⟨l, 0, none⟩)) ∧ w'.heap[l]? = some (.cells #[.pointer (some ⟨f, 0, none⟩), .pointer (some ⟨h, 0, none⟩), .pointer none, .nilIface, .int .i64 2] 132 (0, 0)) ∧ w'.heap[f]? = some (.cells #[.pointer (some ⟨h, 0, none⟩), .pointer (some ⟨l, 0, none⟩), .pointer (some ⟨l, 0, none⟩), .iface 96 (.agg (argC (.slice A1 xs.length c1) p1 q1))] 116 (0, 0)) ∧ w'.heap[h]? = some (.cells #[.pointer (some ⟨l, 0, none⟩), .pointer (some ⟨f, 0, none⟩), .pointer (some ⟨l, 0, none⟩), .iface 96 (.agg (argC (.slice A2 ys.length c2) p2 q2))] 116 (0, 0)) ∧ (kCol 96 kA).C w' A1 xs.length (rws xs) ∧ (kCol 96 kA).C w' A2 ys.length (rws ys) ∧ Below w.heap.size w w' := by
  have HX := Aside0.mk (And.intro hx (And.intro hn hp))
  have HY := Aside0.mk (And.intro hy (And.intro hm hq))
  obtain ⟨ad1, B1, d1, e1, ha0, ha1, ha2, ha3, hb1, hC1⟩ := at_VX hr0 0 (by omega) (by omega)
  cases e1
  obtain ⟨ad2, B2, d2, e2, hd0, hd1, hd2, hd3, hb2, hC2⟩ := at_VX hr0 1 (by omega) (by omega)
  cases e2
  have HC1 := Aside0.mk (show (kCol 62 kI).C w B1 xs.length (rws xs) from hC1)
  have HC2 := Aside0.mk (show (kCol 62 kI).C w B2 ys.length (rws ys) from hC2)
  have HA0 := Aside0.mk (show w.cell? ⟨g, 0, none⟩ = some (.int .i64 5) from ha0)
  have HA1 := Aside0.mk (show w.cell? ⟨g, 1, none⟩ = some (.float .f64 0) from ha1)
  have HA2 := Aside0.mk (show w.cell? ⟨g, 2, none⟩ = some (.string ⟨#[]⟩) from ha2)
  have HA3 := Aside0.mk (show w.cell? ⟨g, 3, none⟩ = some (.slice B1 xs.length d1) from ha3)
  have HD0 := Aside0.mk (show w.cell? ⟨g, 4, none⟩ = some (.int .i64 5) from hd0)
  have HD1 := Aside0.mk (show w.cell? ⟨g, 5, none⟩ = some (.float .f64 0) from hd1)
  have HD2 := Aside0.mk (show w.cell? ⟨g, 6, none⟩ = some (.string ⟨#[]⟩) from hd2)
  have HD3 := Aside0.mk (show w.cell? ⟨g, 7, none⟩ = some (.slice B2 ys.length d2) from hd3)
  clear hx hn hp hy hm hq hr0 ha0 ha1 ha2 ha3 hb1 hC1 hd0 hd1 hd2 hd3 hb2 hC2
  have HB := Aside0.mk (Below.refl w.heap.size w)
  go_enter Try.func42, Try.ntmps42
  go_upto_region 2 with (go_at_call 55; refine (new_ _).mono ?_; rintro e w1 ⟨l, gl, rfl, hl, hb⟩; clear HB; have HB := Aside0.mk hb; have BL := Aside0.mk hl; have GL := Aside0.mk gl; clear hb hl gl)
  have ha0 := (HB.out.cell (World.block_lt_of_cell? w _ HA0.out)).trans HA0.out
  have ha1 := (HB.out.cell (World.block_lt_of_cell? w _ HA1.out)).trans HA1.out
  have ha2 := (HB.out.cell (World.block_lt_of_cell? w _ HA2.out)).trans HA2.out
  have ha3 := (HB.out.cell (World.block_lt_of_cell? w _ HA3.out)).trans HA3.out
  have GLL := Aside0.mk (blk_lt BL.out)
  have HCa := Aside0.mk (Kd.C_below HC1.out HB.out)
  go_wp2
  refine wp_loop_rounds 3 ?_
  rw [rounds_succ]
  go_wp2_with (first
    | (go_at_call 57; refine (inner_col xs HX.out.1 HX.out.2.1 HX.out.2.2 B1 d1 _ (Kd.C_alloc HCa.out _)).mono ?_; rintro e w2 ⟨v, p1, q1, rfl, ho, hb⟩; obtain ⟨A1, c1, e9⟩ := Kd.R_slice ho; rw [rws_len] at e9; subst e9; have n0_ := Aside0.mk (below_step (below_alloc (HB.out) _) hb); have n1_ := Aside0.mk (blk_below (blk_alloc (BL.out) _) hb); clear HB BL; have HB := n0_; have BL := n1_; clear n0_ n1_; clear hb; have HR1 := Aside0.mk (Kd.R_mono (ok' := fun k => l < k ∧ k < w2.heap.size) (Kd.R_lower (Kd.R_bound ho) (Nat.zero_le _)) (fun k hk => ⟨by have h_ := hk.2.1; have h2_ := GLL.out; rw [World.size_alloc] at h_; omega, hk.2.2.1⟩)); clear ho)
    | (go_at_call 56; refine (pushA l 96 (.agg (argC (.slice A1 xs.length c1) p1 q1)) w _ BL.out GL.out HB.out).mono ?_; rintro e w3 ⟨f, gf, gfb, nlf, rfl, hl, hf, hb, hk⟩; have n0_ := Aside0.mk (Kd.R_keep HR1.out hk (fun k h_ => Nat.ne_of_gt h_.1)); have NF := Aside0.mk gfb; clear HB BL HR1; have HB := Aside0.mk hb; have BL := Aside0.mk hl; have BF := Aside0.mk hf; have HR1 := n0_; have GF := Aside0.mk gf; have NLF := Aside0.mk nlf; clear n0_ hb hl hf gf nlf gfb hk))
  rw [rounds_succ]
  have hd0 := (HB.out.cell (World.block_lt_of_cell? w _ HD0.out)).trans HD0.out
  have hd1 := (HB.out.cell (World.block_lt_of_cell? w _ HD1.out)).trans HD1.out
  have hd2 := (HB.out.cell (World.block_lt_of_cell? w _ HD2.out)).trans HD2.out
  have hd3 := (HB.out.cell (World.block_lt_of_cell? w _ HD3.out)).trans HD3.out
  have HCb := Aside0.mk (Kd.C_below HC2.out HB.out)
  have GLL3 := Aside0.mk (blk_lt BL.out)
  go_wp2_with (first
    | (go_at_call 57; refine (inner_col ys HY.out.1 HY.out.2.1 HY.out.2.2 B2 d2 _ (Kd.C_alloc HCb.out _)).mono ?_; rintro e w4 ⟨v, p2, q2, rfl, ho, hb⟩; obtain ⟨A2, c2, e9⟩ := Kd.R_slice ho; rw [rws_len] at e9; subst e9; have GF4 := Aside0.mk (blk_lt BF.out); have n0_ := Aside0.mk (below_step (below_alloc (HB.out) _) hb); have n1_ := Aside0.mk (blk_below (blk_alloc (BL.out) _) hb); have n2_ := Aside0.mk (blk_below (blk_alloc (BF.out) _) hb); have n3_ := Aside0.mk (Kd.R_below (Kd.R_alloc (HR1.out) _) hb); clear HB BL BF HR1; have HB := n0_; have BL := n1_; have BF := n2_; have HR1 := n3_; clear n0_ n1_ n2_ n3_; clear hb; have HR2 := Aside0.mk (Kd.R_mono (ok' := fun k => l < k ∧ f < k ∧ k < w4.heap.size) (Kd.R_lower (Kd.R_bound ho) (Nat.zero_le _)) (fun k hk => by have h_ := hk.2.1; have h2_ := GLL3.out; have h3_ := GF4.out; rw [World.size_alloc] at h_; exact ⟨by omega, by omega, hk.2.2.1⟩)); clear ho)
    | (go_at_call 56; refine (pushB l f 96 96 (.agg (argC (.slice A1 xs.length c1) p1 q1)) (.agg (argC (.slice A2 ys.length c2) p2 q2)) w _ BL.out BF.out GL.out GF.out NLF.out HB.out).mono ?_; rintro e w5 ⟨h, gh, ghb, nlh, nfh, rfl, hl, hf, hh, hb, hk⟩; have n0_ := Aside0.mk (Kd.R_step HR1.out (fun k h_ hlt => hk.2 k hlt (Nat.ne_of_gt h_.1) (by have h1 := h_.2; have h2 := NF.out; intro he; injection he with he; omega))); have n1_ := Aside0.mk (Kd.R_step HR2.out (fun k h_ hlt => hk.2 k hlt (Nat.ne_of_gt h_.1) (by have h1 := h_.2.1; intro he; injection he with he; omega))); clear HB BL BF HR1 HR2; have HB := Aside0.mk hb; have BL := Aside0.mk hl; have BF := Aside0.mk hf; have BH := Aside0.mk hh; have HR1 := n0_; have HR2 := n1_; clear n0_ n1_ hb hl hf hh hk))
  rw [rounds_succ]
  go_wp2
  go_ret
  refine ⟨l, f, h, A1, A2, c1, c2, p1, q1, p2, q2, by rfl, BL.out, BF.out, BH.out, ?_, ?_, HB.out⟩
  · have h_ := (Kd.R_reads' HR1.out).2.2
    rwa [rws_len] at h_
  · have h_ := (Kd.R_reads' HR2.out).2.2
    rwa [rws_len] at h_
end Go.Proofs.Ytjefbpfpobgmaaa.FrS
