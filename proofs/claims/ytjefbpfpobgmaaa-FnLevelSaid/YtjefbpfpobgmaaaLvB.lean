/- Setting the outline level of a column, and hiding columns where there are none: the package's functions end in what the printed plain functions say. No conditions. -/
import Derived.Test.YtjefbpfpobgmaaaLvF
import Derived.Test.YtjefbpfpobgmaaaLvG
import Derived.Test.YtjefbpfpobgmaaaPLvx4
import Derived.Test.YtjefbpfpobgmaaaPLvx5
import Derived.Test.YtjefbpfpobgmaaaPLvx6
import Derived.Test.YtjefbpfpobgmaaaPLvx7
namespace Go.Proofs.Ytjefbpfpobgmaaa.LvB
open Go.RowKit Go.Proofs.YtjefbpfpobgmaaaW.PrintWords Go.Proofs.YtjefbpfpobgmaaaW.PrintLast Go.Proofs.YtjefbpfpobgmaaaW.PrintMore Go.Proofs.Ytjefbpfpobgmaaa.PLv
attribute [local go_sem] Go.Proofs.Ytjefbpfpobgmaaa.Flt.run_store_float max2_int min2_int max_two min_two max_three min_three max_four min_four
set_option linter.unusedVariables false
set_option linter.unusedSimpArgs false

set_option maxHeartbeats 4000000 in
set_option maxRecDepth 100000 in
theorem setCol (k : Nat) (gw gc : Nat) (A : Option Addr) (cp : Nat) (l : List S103) (a n : Int) (r : List S103) (w w0 : World) (hwc : w.cell? ⟨gw, 2, none⟩ = some (.pointer (some ⟨gc, 0, none⟩)))
    (hc : w.heap[gc]? = some (.cells #[.slice A l.length cp] 74 (0, 0))) (hr : Kd.C k103 w A l.length l) (hcp : l.length ≤ cp) (hf : excelize_flatCols.f k a a 0 false n 0 true l () = some r)
    (hB : Below w0.heap.size w0 w) (hg : w0.heap.size ≤ gc) (hne : gw ≠ gc) :
    Calls Try.prog 36 #[.pointer (some ⟨gw, 0, none⟩), .int .i64 a, .int .i64 n] w fun e w' => e = .returned (.tuple #[]) ∧ ∃ v, w'.heap[gc]? = some (.cells #[v] 74 (0, 0)) ∧ w'.cell? ⟨gw, 2, none⟩ = some (.pointer (some ⟨gc, 0, none⟩)) ∧ Kd.R k103 103 w' w0.heap.size (fun _ => True) v r ∧ Below w0.heap.size w0 w' := by
  have BC := Aside0.mk hc
  have HR := Aside0.mk hr
  have HRW := Aside0.mk hr
  have HCP := Aside0.mk hcp
  have HF := Aside0.mk hf
  have HB := Aside0.mk hB
  have HG := Aside0.mk hg
  have HW := Aside0.mk hwc
  have HNE := Aside0.mk hne
  clear hc hr hcp hB hg hne hwc hf
  go_enter Try.func36, Try.ntmps36
  go_upto_region 1 with (first
    | ((with_reducible refine gate_dst (N := 6) rfl ?_); refine box_event ?hg (N := 6) ?hd (cs := #[.int .i64 0, .int .i64 0, .float .f64 0, .bool false, .int .i64 0, .int .i64 0, .bool false]) (t := 103) ?hr ?_; (case hd => rfl); (case hg => rfl); (case hr => first | (go_simp; done) | (go_simp; rfl)); intro gd hg w3 hbox hb; have BD := Aside0.mk hbox; have GD := Aside0.mk (show w0.heap.size ≤ gd by rw [hg]; exact below_size (by repeat (first | (with_reducible first | exact HB.out | apply below_alloc | apply pw_below_drewN | apply below_drew1) | exact HB.out))); have GN := Aside0.mk (show gc ≠ gd by rw [hg]; exact Nat.ne_of_lt (blk_lt BC.out)); have GX := Aside0.mk (show gw ≠ gd by rw [hg]; exact Nat.ne_of_lt (World.block_lt_of_cell? _ _ HW.out)); have HW0 := Aside0.mk hb; have GL := Aside0.mk (show w.heap.size ≤ gd by rw [hg]; exact Nat.le_refl _); have n0_ := Aside0.mk (below_step (by repeat (first | (with_reducible first | exact HB.out | apply below_alloc | apply pw_below_drewN | apply below_drew1) | exact HB.out)) hb); clear HB; have HB := n0_; clear n0_; have n1_ := Aside0.mk (blk_below BC.out hb); clear BC; have BC := n1_; clear n1_; have n2_ := Aside0.mk (Kd.C_below HR.out hb); clear HR; have HR := n2_; clear n2_; have n3_ := Aside0.mk ((hb.cell (World.block_lt_of_cell? _ _ HW.out)).trans HW.out); clear HW; have HW := n3_; clear n3_ hb hbox hg; have HQ := Aside0.mk (Below.refl w3.heap.size w3); have hcz0_0 : w3.cell? ⟨gd, 0, none⟩ = some (.int .i64 0) := (blk_cell BD.out 0).trans rfl; have hcz0_1 : w3.cell? ⟨gd, 1, none⟩ = some (.int .i64 0) := (blk_cell BD.out 1).trans rfl; have hcz0_2 : w3.cell? ⟨gd, 2, none⟩ = some (.float .f64 0) := (blk_cell BD.out 2).trans rfl; have hcz0_3 : w3.cell? ⟨gd, 3, none⟩ = some (.bool false) := (blk_cell BD.out 3).trans rfl; have hcz0_4 : w3.cell? ⟨gd, 4, none⟩ = some (.int .i64 0) := (blk_cell BD.out 4).trans rfl; have hcz0_5 : w3.cell? ⟨gd, 5, none⟩ = some (.int .i64 0) := (blk_cell BD.out 5).trans rfl; have hcz0_6 : w3.cell? ⟨gd, 6, none⟩ = some (.bool false) := (blk_cell BD.out 6).trans rfl; have hfz0_0 := blk_frozen BD.out 0; have hfz0_1 := blk_frozen BD.out 1; have hfz0_2 := blk_frozen BD.out 2; have hfz0_3 := blk_frozen BD.out 3; have hfz0_4 := blk_frozen BD.out 4; have hfz0_5 := blk_frozen BD.out 5; have hfz0_6 := blk_frozen BD.out 6)
    | ((with_reducible refine gate_store (t := 103) (p := 6) rfl ?_); refine store_event (t := 103) (p := 6) (v := ?vo) (w1 := Flt.sets w3 gd 0 [.int .i64 a, .int .i64 a, .float .f64 0, .bool false, .int .i64 n, .int .i64 0, .bool true]) ?hg ?ho ?hn ?hr ?_; (case ho => rfl); (case hg => rfl); (case hn => rfl); (case hr => first | (go_simp; done) | (go_simp; rfl)); intro w4 hw; have m0_ := Aside0.mk (show w4.heap[gd]? = some (.cells #[.int .i64 a, .int .i64 a, .float .f64 0, .bool false, .int .i64 n, .int .i64 0, .bool true] 103 (0, 0)) by rw [hw]; exact Flt.sets_all [.int .i64 a, .int .i64 a, .float .f64 0, .bool false, .int .i64 n, .int .i64 0, .bool true] BD.out rfl); have m1_ := Aside0.mk (show w4.heap[gc]? = some (.cells #[.slice A l.length cp] 74 (0, 0)) by rw [hw]; exact (Flt.sets_far GN.out _ _ _).trans BC.out); have m2_ := Aside0.mk (show Below w0.heap.size w0 w4 by rw [hw]; exact Flt.sets_below GD.out _ _ _ HB.out); have m3_ := Aside0.mk (show Below w.heap.size w w4 by rw [hw]; exact Flt.sets_below GL.out _ _ _ HW0.out); have m4_ := Aside0.mk (show w4.cell? ⟨gw, 2, none⟩ = some (.pointer (some ⟨gc, 0, none⟩)) by have h_ := HW.out; unfold World.cell? at h_ ⊢; rw [hw, Flt.sets_far GX.out]; exact h_); clear hw; clear BD BC HB HW; have BD := m0_; have BC := m1_; have HB := m2_; have HBW := m3_; have HW := m4_; clear m0_ m1_ m2_ m3_ m4_; clear hcz0_0 hfz0_0; clear hcz0_1 hfz0_1; clear hcz0_2 hfz0_2; clear hcz0_3 hfz0_3; clear hcz0_4 hfz0_4; clear hcz0_5 hfz0_5; clear hcz0_6 hfz0_6))
  have hw4 := HW.out
  go_upto_region 5 with fail
  have n0_ := Aside0.mk (below_drew1 HB.out)
  have n1_ := Aside0.mk (blk_drew BC.out)
  have n2_ := Aside0.mk (blk_drew BD.out)
  have n3_ := Aside0.mk (Kd.C_below (Kd.C_below HRW.out HBW.out) (below_drew1 (Below.refl _ _)))
  have hw5 : w4.drew.cell? ⟨gw, 2, none⟩ = some (.pointer (some ⟨gc, 0, none⟩)) := hw4
  clear hw4 HW HB BC BD HR
  have HB := n0_
  have BC := n1_
  have BD := n2_
  have HR := n3_
  have HB5 := HB
  clear n0_ n1_ n2_ n3_
  refine start_ (n := 16) (S := fun w' => w'.cell? ⟨gw, 2, none⟩ = some (.pointer (some ⟨gc, 0, none⟩)) ∧ w'.cell? ⟨gd, 0, none⟩ = some (.int .i64 a) ∧ w'.cell? ⟨gd, 1, none⟩ = some (.int .i64 a) ∧ w'.cell? ⟨gd, 2, none⟩ = some (.float .f64 0) ∧ w'.cell? ⟨gd, 3, none⟩ = some (.bool false) ∧ w'.cell? ⟨gd, 4, none⟩ = some (.int .i64 n) ∧ w'.cell? ⟨gd, 5, none⟩ = some (.int .i64 0) ∧ w'.cell? ⟨gd, 6, none⟩ = some (.bool true) ∧ w'.cell? ⟨gc, 0, none⟩ = some (.slice A l.length cp)) (ds := [15]) #[false, false, false, false, false, false, false, false, false, false, false, false, false, false, false, false] (by kernel_rfl) rfl rfl ⟨hw5, (blk_cell BD.out 0).trans rfl, (blk_cell BD.out 1).trans rfl, (blk_cell BD.out 2).trans rfl, (blk_cell BD.out 3).trans rfl, (blk_cell BD.out 4).trans rfl, (blk_cell BD.out 5).trans rfl, (blk_cell BD.out 6).trans rfl, blk_cell BC.out 0⟩ (fun hHeld => ?_)
  generalize w4.drew = w5 at HB HB5 BC BD HR hw5 hHeld ⊢
  refine pure_ (i := 0) (N := some 27) (v := ?_) (a' := ?_) #[true, false, false, false, false, false, false, false, false, false, false, false, false, false, false, false] rfl rfl (by kernel_rfl) (fun _ _ _ h => h) (Or.inl ⟨by rfl, ?_⟩) ?_ ?_
  rotate_left
  · intro w'
    go_simp
    with_reducible rfl
  rotate_left
  · simp only [Act.put, List.setIfInBounds_toArray, List.set_cons_zero, List.set_cons_succ, i64_w, i32_w]
    rfl
  refine pure_ (i := 1) (N := some 28) (v := ?_) (a' := ?_) #[true, true, false, false, false, false, false, false, false, false, false, false, false, false, false, false] rfl rfl (by kernel_rfl) (fun _ _ _ h => h) (Or.inl ⟨by rfl, ?_⟩) ?_ ?_
  rotate_left
  · intro w'
    go_simp
    with_reducible rfl
  rotate_left
  · simp only [Act.put, List.setIfInBounds_toArray, List.set_cons_zero, List.set_cons_succ, i64_w, i32_w]
    rfl
  refine pure_ (i := 2) (N := some 29) (v := ?_) (a' := ?_) #[true, true, true, false, false, false, false, false, false, false, false, false, false, false, false, false] rfl rfl (by kernel_rfl) (fun _ _ _ h => h) (Or.inl ⟨by rfl, ?_⟩) ?_ ?_
  rotate_left
  · intro w'
    go_simp
    with_reducible rfl
  rotate_left
  · simp only [Act.put, List.setIfInBounds_toArray, List.set_cons_zero, List.set_cons_succ, i64_w, i32_w]
    rfl
  refine pure_ (i := 5) (N := some 32) (v := ?_) (a' := ?_) #[true, true, true, false, false, true, false, false, false, false, false, false, false, false, false, false] rfl rfl (by kernel_rfl) (fun _ _ _ h => h) (Or.inl ⟨by rfl, ?_⟩) ?_ ?_
  rotate_left
  · intro w'
    go_simp
    with_reducible rfl
  rotate_left
  · simp only [Act.put, List.setIfInBounds_toArray, List.set_cons_zero, List.set_cons_succ, i64_w, i32_w]
    rfl
  refine pure_ (i := 6) (N := some 33) (v := ?_) (a' := ?_) #[true, true, true, false, false, true, true, false, false, false, false, false, false, false, false, false] rfl rfl (by kernel_rfl) (fun _ _ _ h => h) (Or.inl ⟨by rfl, ?_⟩) ?_ ?_
  rotate_left
  · intro w'
    go_simp
    with_reducible rfl
  rotate_left
  · simp only [Act.put, List.setIfInBounds_toArray, List.set_cons_zero, List.set_cons_succ, i64_w, i32_w]
    rfl
  refine pure_ (i := 7) (N := some 34) (v := ?_) (a' := ?_) #[true, true, true, false, false, true, true, true, false, false, false, false, false, false, false, false] rfl rfl (by kernel_rfl) (fun _ _ _ h => h) (Or.inl ⟨by rfl, ?_⟩) ?_ ?_
  rotate_left
  · intro w'
    go_simp
    with_reducible rfl
  rotate_left
  · simp only [Act.put, List.setIfInBounds_toArray, List.set_cons_zero, List.set_cons_succ, i64_w, i32_w]
    rfl
  refine take_ (i := 3) (N := some 30) (v := ?_) (a' := ?_) #[true, true, true, true, false, true, true, true, false, false, false, false, false, false, false, false] rfl rfl (by kernel_rfl) (fun _ _ _ h => h) (Or.inl ⟨by rfl, ?_⟩) hHeld ?_ ?_
  rotate_left
  · rintro w' ⟨s0, s1, s2, s3, s4, s5, s6, s7, s8⟩
    go_simp
    with_reducible rfl
  rotate_left
  · simp only [Act.put, List.setIfInBounds_toArray, List.set_cons_zero, List.set_cons_succ, i64_w, i32_w]
    rfl
  refine take_ (i := 4) (N := some 31) (v := ?_) (a' := ?_) #[true, true, true, true, true, true, true, true, false, false, false, false, false, false, false, false] rfl rfl (by kernel_rfl) (fun _ _ _ h => h) (Or.inl ⟨by rfl, ?_⟩) hHeld ?_ ?_
  rotate_left
  · rintro w' ⟨s0, s1, s2, s3, s4, s5, s6, s7, s8⟩
    go_simp
    with_reducible rfl
  rotate_left
  · simp only [Act.put, List.setIfInBounds_toArray, List.set_cons_zero, List.set_cons_succ, i64_w, i32_w]
    rfl
  refine take_ (i := 8) (N := some 35) (v := ?_) (a' := ?_) #[true, true, true, true, true, true, true, true, true, false, false, false, false, false, false, false] rfl rfl (by kernel_rfl) (fun _ _ _ h => h) (Or.inl ⟨by rfl, ?_⟩) hHeld ?_ ?_
  rotate_left
  · rintro w' ⟨s0, s1, s2, s3, s4, s5, s6, s7, s8⟩
    go_simp
    with_reducible rfl
  rotate_left
  · simp only [Act.put, List.setIfInBounds_toArray, List.set_cons_zero, List.set_cons_succ, i64_w, i32_w]
    rfl
  refine pure_ (i := 9) (N := some 36) (v := ?_) (a' := ?_) #[true, true, true, true, true, true, true, true, true, true, false, false, false, false, false, false] rfl rfl (by kernel_rfl) (fun _ _ _ h => h) (Or.inl ⟨by rfl, ?_⟩) ?_ ?_
  rotate_left
  · intro w'
    go_simp
    with_reducible rfl
  rotate_left
  · simp only [Act.put, List.setIfInBounds_toArray, List.set_cons_zero, List.set_cons_succ, i64_w, i32_w]
    rfl
  refine pure_ (i := 10) (N := some 37) (v := ?_) (a' := ?_) #[true, true, true, true, true, true, true, true, true, true, true, false, false, false, false, false] rfl rfl (by kernel_rfl) (fun _ _ _ h => h) (Or.inl ⟨by rfl, ?_⟩) ?_ ?_
  rotate_left
  · intro w'
    go_simp
    with_reducible rfl
  rotate_left
  · simp only [Act.put, List.setIfInBounds_toArray, List.set_cons_zero, List.set_cons_succ, i64_w, i32_w]
    rfl
  refine take_ (i := 11) (N := some 38) (v := ?_) (a' := ?_) #[true, true, true, true, true, true, true, true, true, true, true, true, false, false, false, false] rfl rfl (by kernel_rfl) (fun _ _ _ h => h) (Or.inl ⟨by rfl, ?_⟩) hHeld ?_ ?_
  rotate_left
  · rintro w' ⟨s0, s1, s2, s3, s4, s5, s6, s7, s8⟩
    go_simp
    with_reducible rfl
  rotate_left
  · simp only [Act.put, List.setIfInBounds_toArray, List.set_cons_zero, List.set_cons_succ, i64_w, i32_w]
    rfl
  refine one_ (i := 12) (N := some 39) #[true, true, true, true, true, true, true, true, true, true, true, true, true, false, false, false] rfl rfl (by kernel_rfl) (by decide) (fun K hK => ?_)
  refine goes_ Try.func44 (by kernel_rfl) rfl #[.agg #[.int .i64 a, .int .i64 a, .float .f64 0, .bool false, .int .i64 n, .int .i64 0, .bool true], .slice A l.length cp, .func (.func 45) #[] #[]] (by rfl) rfl rfl (by (try simp only [List.map_toArray, List.map_cons, List.map_nil]); rfl) ?_
  refine (excelize_flatCols.calls k a a 0 false n 0 true A cp l () r _ HR.out HCP.out HF.out).mono ?_
  rintro e w6 ⟨v6, rfl, ho6, hb⟩
  obtain ⟨A6, c6, e6⟩ := Kd.R_slice ho6
  subst e6
  have E0 := (hb.cell (World.block_lt_of_cell? _ _ (hHeld.1))).trans (hHeld.1)
  have E1 := (hb.cell (World.block_lt_of_cell? _ _ (hHeld.2.1))).trans (hHeld.2.1)
  have E2 := (hb.cell (World.block_lt_of_cell? _ _ (hHeld.2.2.1))).trans (hHeld.2.2.1)
  have E3 := (hb.cell (World.block_lt_of_cell? _ _ (hHeld.2.2.2.1))).trans (hHeld.2.2.2.1)
  have E4 := (hb.cell (World.block_lt_of_cell? _ _ (hHeld.2.2.2.2.1))).trans (hHeld.2.2.2.2.1)
  have E5 := (hb.cell (World.block_lt_of_cell? _ _ (hHeld.2.2.2.2.2.1))).trans (hHeld.2.2.2.2.2.1)
  have E6 := (hb.cell (World.block_lt_of_cell? _ _ (hHeld.2.2.2.2.2.2.1))).trans (hHeld.2.2.2.2.2.2.1)
  have E7 := (hb.cell (World.block_lt_of_cell? _ _ (hHeld.2.2.2.2.2.2.2.1))).trans (hHeld.2.2.2.2.2.2.2.1)
  have E8 := (hb.cell (World.block_lt_of_cell? _ _ (hHeld.2.2.2.2.2.2.2.2))).trans (hHeld.2.2.2.2.2.2.2.2)
  have BC6 := Aside0.mk (blk_below BC.out hb)
  have HO6 := Aside0.mk ho6
  have n0_ := Aside0.mk (below_step HB.out hb)
  clear HB
  have HB := n0_
  have HB6 := Aside0.mk hb
  clear n0_ ho6 hb
  refine ⟨_, rfl, ?_⟩
  refine hK.out _ _ ⟨E0, E1, E2, E3, E4, E5, E6, E7, E8⟩ (fun hHeld => ?_)
  clear hK K
  refine norm_ (a' := ?_) ?_ ?_
  rotate_left
  · show Act.put _ (some 39) _ = _
    simp only [Act.put, List.setIfInBounds_toArray, List.set_cons_zero, List.set_cons_succ, i64_w, i32_w]
    rfl
  refine pure_ (i := 13) (N := some 40) (v := ?_) (a' := ?_) #[true, true, true, true, true, true, true, true, true, true, true, true, true, true, false, false] rfl rfl (by kernel_rfl) (fun _ _ _ h => h) (Or.inl ⟨by rfl, ?_⟩) ?_ ?_
  rotate_left
  · intro w'
    go_simp
    with_reducible rfl
  rotate_left
  · simp only [Act.put, List.setIfInBounds_toArray, List.set_cons_zero, List.set_cons_succ, i64_w, i32_w]
    rfl
  refine pure_ (i := 14) (N := some 41) (v := ?_) (a' := ?_) #[true, true, true, true, true, true, true, true, true, true, true, true, true, true, true, false] rfl rfl (by kernel_rfl) (fun _ _ _ h => h) (Or.inl ⟨by rfl, ?_⟩) ?_ ?_
  rotate_left
  · intro w'
    go_simp
    with_reducible rfl
  rotate_left
  · simp only [Act.put, List.setIfInBounds_toArray, List.set_cons_zero, List.set_cons_succ, i64_w, i32_w]
    rfl
  refine last_ (i := 15) (N := none) #[true, true, true, true, true, true, true, true, true, true, true, true, true, true, true, true] rfl rfl (by kernel_rfl) (by decide) (fun K hK => ?_)
  have cz := blk_cell BC6.out 0
  have fz := blk_frozen BC6.out 0
  refine skip_ (w1 := ?_) (by rfl) rfl ?_ ?_
  rotate_left
  · go_simp
    rfl
  refine hK.out _ _ ?_
  clear hK K
  refine done_ (by kernel_rfl) ?_

  go_end0
  refine ⟨rfl, .slice A6 r.length c6, ?_, ?_, ?_, ?_⟩
  · exact blk_put BC6.out 0 _ rfl
  · have h_ := E0
    unfold World.cell? at h_ ⊢
    rw [Below.heap_setCell _ _ _ _ HNE.out]
    exact h_
  · have h_ := Kd.R_mono (ok' := fun k => w5.heap.size ≤ k) (Kd.R_bound HO6.out) (fun k hk => hk.2.1)
    exact Kd.R_lower (Kd.R_mono (Kd.R_step h_ (fun k hk _ => Below.heap_setCell _ _ _ _ (show k ≠ gc by have := blk_lt BC.out; omega))) (fun _ _ => trivial)) (below_size HB5.out)
  · exact below_set HB.out HG.out

set_option maxHeartbeats 4000000 in
set_option maxRecDepth 100000 in
theorem setVis (k : Nat) (gw gc : Nat) (A : Option Addr) (cp : Nat) (l : List S103) (a b : Int) (sh : Bool) (r : List S103) (w w0 : World) (hwc : w.cell? ⟨gw, 2, none⟩ = some (.pointer (some ⟨gc, 0, none⟩)))
    (hc : w.heap[gc]? = some (.cells #[.slice A l.length cp] 74 (0, 0))) (hr : Kd.C k103 w A l.length l) (hcp : l.length ≤ cp) (hnil : l = []) (hf : excelize_flatCols.f k a b 4622100592565682176 (!sh) 0 0 true l () = some r)
    (hB : Below w0.heap.size w0 w) (hg : w0.heap.size ≤ gc) (hne : gw ≠ gc) :
    Calls Try.prog 46 #[.pointer (some ⟨gw, 0, none⟩), .int .i64 a, .int .i64 b, .bool sh] w fun e w' => e = .returned (.tuple #[]) ∧ ∃ v, w'.heap[gc]? = some (.cells #[v] 74 (0, 0)) ∧ w'.cell? ⟨gw, 2, none⟩ = some (.pointer (some ⟨gc, 0, none⟩)) ∧ Kd.R k103 103 w' w0.heap.size (fun _ => True) v r ∧ Below w0.heap.size w0 w' := by
  have BC := Aside0.mk hc
  have HR := Aside0.mk hr
  have HRW := Aside0.mk hr
  have HCP := Aside0.mk hcp
  have HF := Aside0.mk hf
  have HNIL := Aside0.mk hnil
  have HB := Aside0.mk hB
  have HG := Aside0.mk hg
  have HW := Aside0.mk hwc
  have HNE := Aside0.mk hne
  clear hc hr hcp hB hg hne hwc hf hnil
  go_enter Try.func46, Try.ntmps46
  go_upto_region 1 with (first
    | ((with_reducible refine gate_dst (N := 8) rfl ?_); refine box_event ?hg (N := 8) ?hd (cs := #[.int .i64 0, .int .i64 0, .float .f64 0, .bool false, .int .i64 0, .int .i64 0, .bool false]) (t := 103) ?hr ?_; (case hd => rfl); (case hg => rfl); (case hr => first | (go_simp; done) | (go_simp; rfl)); intro gd hg w3 hbox hb; have BD := Aside0.mk hbox; have GD := Aside0.mk (show w0.heap.size ≤ gd by rw [hg]; exact below_size (by repeat (first | (with_reducible first | exact HB.out | apply below_alloc | apply pw_below_drewN | apply below_drew1) | exact HB.out))); have GN := Aside0.mk (show gc ≠ gd by rw [hg]; exact Nat.ne_of_lt (blk_lt BC.out)); have GX := Aside0.mk (show gw ≠ gd by rw [hg]; exact Nat.ne_of_lt (World.block_lt_of_cell? _ _ HW.out)); have HW0 := Aside0.mk hb; have GL := Aside0.mk (show w.heap.size ≤ gd by rw [hg]; exact Nat.le_refl _); have n0_ := Aside0.mk (below_step (by repeat (first | (with_reducible first | exact HB.out | apply below_alloc | apply pw_below_drewN | apply below_drew1) | exact HB.out)) hb); clear HB; have HB := n0_; clear n0_; have n1_ := Aside0.mk (blk_below BC.out hb); clear BC; have BC := n1_; clear n1_; have n2_ := Aside0.mk (Kd.C_below HR.out hb); clear HR; have HR := n2_; clear n2_; have n3_ := Aside0.mk ((hb.cell (World.block_lt_of_cell? _ _ HW.out)).trans HW.out); clear HW; have HW := n3_; clear n3_ hb hbox hg; have HQ := Aside0.mk (Below.refl w3.heap.size w3); have hcz0_0 : w3.cell? ⟨gd, 0, none⟩ = some (.int .i64 0) := (blk_cell BD.out 0).trans rfl; have hcz0_1 : w3.cell? ⟨gd, 1, none⟩ = some (.int .i64 0) := (blk_cell BD.out 1).trans rfl; have hcz0_2 : w3.cell? ⟨gd, 2, none⟩ = some (.float .f64 0) := (blk_cell BD.out 2).trans rfl; have hcz0_3 : w3.cell? ⟨gd, 3, none⟩ = some (.bool false) := (blk_cell BD.out 3).trans rfl; have hcz0_4 : w3.cell? ⟨gd, 4, none⟩ = some (.int .i64 0) := (blk_cell BD.out 4).trans rfl; have hcz0_5 : w3.cell? ⟨gd, 5, none⟩ = some (.int .i64 0) := (blk_cell BD.out 5).trans rfl; have hcz0_6 : w3.cell? ⟨gd, 6, none⟩ = some (.bool false) := (blk_cell BD.out 6).trans rfl; have hfz0_0 := blk_frozen BD.out 0; have hfz0_1 := blk_frozen BD.out 1; have hfz0_2 := blk_frozen BD.out 2; have hfz0_3 := blk_frozen BD.out 3; have hfz0_4 := blk_frozen BD.out 4; have hfz0_5 := blk_frozen BD.out 5; have hfz0_6 := blk_frozen BD.out 6)
    | ((with_reducible refine gate_store (t := 103) (p := 8) rfl ?_); refine store_event (t := 103) (p := 8) (v := ?vo) (w1 := Flt.sets w3 gd 0 [.int .i64 a, .int .i64 b, .float .f64 4622100592565682176, .bool (!sh), .int .i64 0, .int .i64 0, .bool true]) ?hg ?ho ?hn ?hr ?_; (case ho => rfl); (case hg => rfl); (case hn => rfl); (case hr => first | (go_simp; done) | (go_simp; rfl)); intro w4 hw; have m0_ := Aside0.mk (show w4.heap[gd]? = some (.cells #[.int .i64 a, .int .i64 b, .float .f64 4622100592565682176, .bool (!sh), .int .i64 0, .int .i64 0, .bool true] 103 (0, 0)) by rw [hw]; exact Flt.sets_all [.int .i64 a, .int .i64 b, .float .f64 4622100592565682176, .bool (!sh), .int .i64 0, .int .i64 0, .bool true] BD.out rfl); have m1_ := Aside0.mk (show w4.heap[gc]? = some (.cells #[.slice A l.length cp] 74 (0, 0)) by rw [hw]; exact (Flt.sets_far GN.out _ _ _).trans BC.out); have m2_ := Aside0.mk (show Below w0.heap.size w0 w4 by rw [hw]; exact Flt.sets_below GD.out _ _ _ HB.out); have m3_ := Aside0.mk (show Below w.heap.size w w4 by rw [hw]; exact Flt.sets_below GL.out _ _ _ HW0.out); have m4_ := Aside0.mk (show w4.cell? ⟨gw, 2, none⟩ = some (.pointer (some ⟨gc, 0, none⟩)) by have h_ := HW.out; unfold World.cell? at h_ ⊢; rw [hw, Flt.sets_far GX.out]; exact h_); clear hw; clear BD BC HB HW; have BD := m0_; have BC := m1_; have HB := m2_; have HBW := m3_; have HW := m4_; clear m0_ m1_ m2_ m3_ m4_; clear hcz0_0 hfz0_0; clear hcz0_1 hfz0_1; clear hcz0_2 hfz0_2; clear hcz0_3 hfz0_3; clear hcz0_4 hfz0_4; clear hcz0_5 hfz0_5; clear hcz0_6 hfz0_6))
  have hw4 := HW.out
  go_upto_region 5 with fail
  have n0_ := Aside0.mk (below_drew1 HB.out)
  have n1_ := Aside0.mk (blk_drew BC.out)
  have n2_ := Aside0.mk (blk_drew BD.out)
  have n3_ := Aside0.mk (Kd.C_below (Kd.C_below HRW.out HBW.out) (below_drew1 (Below.refl _ _)))
  have hw5 : w4.drew.cell? ⟨gw, 2, none⟩ = some (.pointer (some ⟨gc, 0, none⟩)) := hw4
  clear hw4 HW HB BC BD HR
  have HB := n0_
  have BC := n1_
  have BD := n2_
  have HR := n3_
  have HB5 := HB
  clear n0_ n1_ n2_ n3_
  refine start_ (n := 16) (S := fun w' => w'.cell? ⟨gw, 2, none⟩ = some (.pointer (some ⟨gc, 0, none⟩)) ∧ w'.cell? ⟨gd, 0, none⟩ = some (.int .i64 a) ∧ w'.cell? ⟨gd, 1, none⟩ = some (.int .i64 b) ∧ w'.cell? ⟨gd, 2, none⟩ = some (.float .f64 4622100592565682176) ∧ w'.cell? ⟨gd, 3, none⟩ = some (.bool (!sh)) ∧ w'.cell? ⟨gd, 4, none⟩ = some (.int .i64 0) ∧ w'.cell? ⟨gd, 5, none⟩ = some (.int .i64 0) ∧ w'.cell? ⟨gd, 6, none⟩ = some (.bool true) ∧ w'.cell? ⟨gc, 0, none⟩ = some (.slice A l.length cp)) (ds := [15]) #[false, false, false, false, false, false, false, false, false, false, false, false, false, false, false, false] (by kernel_rfl) rfl rfl ⟨hw5, (blk_cell BD.out 0).trans rfl, (blk_cell BD.out 1).trans rfl, (blk_cell BD.out 2).trans rfl, (blk_cell BD.out 3).trans rfl, (blk_cell BD.out 4).trans rfl, (blk_cell BD.out 5).trans rfl, (blk_cell BD.out 6).trans rfl, blk_cell BC.out 0⟩ (fun hHeld => ?_)
  generalize w4.drew = w5 at HB HB5 BC BD HR hw5 hHeld ⊢
  refine pure_ (i := 0) (N := some 30) (v := ?_) (a' := ?_) #[true, false, false, false, false, false, false, false, false, false, false, false, false, false, false, false] rfl rfl (by kernel_rfl) (fun _ _ _ h => h) (Or.inl ⟨by rfl, ?_⟩) ?_ ?_
  rotate_left
  · intro w'
    go_simp
    with_reducible rfl
  rotate_left
  · simp only [Act.put, List.setIfInBounds_toArray, List.set_cons_zero, List.set_cons_succ, i64_w, i32_w]
    rfl
  refine pure_ (i := 1) (N := some 31) (v := ?_) (a' := ?_) #[true, true, false, false, false, false, false, false, false, false, false, false, false, false, false, false] rfl rfl (by kernel_rfl) (fun _ _ _ h => h) (Or.inl ⟨by rfl, ?_⟩) ?_ ?_
  rotate_left
  · intro w'
    go_simp
    with_reducible rfl
  rotate_left
  · simp only [Act.put, List.setIfInBounds_toArray, List.set_cons_zero, List.set_cons_succ, i64_w, i32_w]
    rfl
  refine pure_ (i := 2) (N := some 32) (v := ?_) (a' := ?_) #[true, true, true, false, false, false, false, false, false, false, false, false, false, false, false, false] rfl rfl (by kernel_rfl) (fun _ _ _ h => h) (Or.inl ⟨by rfl, ?_⟩) ?_ ?_
  rotate_left
  · intro w'
    go_simp
    with_reducible rfl
  rotate_left
  · simp only [Act.put, List.setIfInBounds_toArray, List.set_cons_zero, List.set_cons_succ, i64_w, i32_w]
    rfl
  refine pure_ (i := 5) (N := some 35) (v := ?_) (a' := ?_) #[true, true, true, false, false, true, false, false, false, false, false, false, false, false, false, false] rfl rfl (by kernel_rfl) (fun _ _ _ h => h) (Or.inl ⟨by rfl, ?_⟩) ?_ ?_
  rotate_left
  · intro w'
    go_simp
    with_reducible rfl
  rotate_left
  · simp only [Act.put, List.setIfInBounds_toArray, List.set_cons_zero, List.set_cons_succ, i64_w, i32_w]
    rfl
  refine pure_ (i := 6) (N := some 36) (v := ?_) (a' := ?_) #[true, true, true, false, false, true, true, false, false, false, false, false, false, false, false, false] rfl rfl (by kernel_rfl) (fun _ _ _ h => h) (Or.inl ⟨by rfl, ?_⟩) ?_ ?_
  rotate_left
  · intro w'
    go_simp
    with_reducible rfl
  rotate_left
  · simp only [Act.put, List.setIfInBounds_toArray, List.set_cons_zero, List.set_cons_succ, i64_w, i32_w]
    rfl
  refine pure_ (i := 7) (N := some 37) (v := ?_) (a' := ?_) #[true, true, true, false, false, true, true, true, false, false, false, false, false, false, false, false] rfl rfl (by kernel_rfl) (fun _ _ _ h => h) (Or.inl ⟨by rfl, ?_⟩) ?_ ?_
  rotate_left
  · intro w'
    go_simp
    with_reducible rfl
  rotate_left
  · simp only [Act.put, List.setIfInBounds_toArray, List.set_cons_zero, List.set_cons_succ, i64_w, i32_w]
    rfl
  refine take_ (i := 3) (N := some 33) (v := ?_) (a' := ?_) #[true, true, true, true, false, true, true, true, false, false, false, false, false, false, false, false] rfl rfl (by kernel_rfl) (fun _ _ _ h => h) (Or.inl ⟨by rfl, ?_⟩) hHeld ?_ ?_
  rotate_left
  · rintro w' ⟨s0, s1, s2, s3, s4, s5, s6, s7, s8⟩
    go_simp
    with_reducible rfl
  rotate_left
  · simp only [Act.put, List.setIfInBounds_toArray, List.set_cons_zero, List.set_cons_succ, i64_w, i32_w]
    rfl
  refine take_ (i := 4) (N := some 34) (v := ?_) (a' := ?_) #[true, true, true, true, true, true, true, true, false, false, false, false, false, false, false, false] rfl rfl (by kernel_rfl) (fun _ _ _ h => h) (Or.inl ⟨by rfl, ?_⟩) hHeld ?_ ?_
  rotate_left
  · rintro w' ⟨s0, s1, s2, s3, s4, s5, s6, s7, s8⟩
    go_simp
    with_reducible rfl
  rotate_left
  · simp only [Act.put, List.setIfInBounds_toArray, List.set_cons_zero, List.set_cons_succ, i64_w, i32_w]
    rfl
  refine take_ (i := 8) (N := some 38) (v := ?_) (a' := ?_) #[true, true, true, true, true, true, true, true, true, false, false, false, false, false, false, false] rfl rfl (by kernel_rfl) (fun _ _ _ h => h) (Or.inl ⟨by rfl, ?_⟩) hHeld ?_ ?_
  rotate_left
  · rintro w' ⟨s0, s1, s2, s3, s4, s5, s6, s7, s8⟩
    go_simp
    with_reducible rfl
  rotate_left
  · simp only [Act.put, List.setIfInBounds_toArray, List.set_cons_zero, List.set_cons_succ, i64_w, i32_w]
    rfl
  refine pure_ (i := 9) (N := some 39) (v := ?_) (a' := ?_) #[true, true, true, true, true, true, true, true, true, true, false, false, false, false, false, false] rfl rfl (by kernel_rfl) (fun _ _ _ h => h) (Or.inl ⟨by rfl, ?_⟩) ?_ ?_
  rotate_left
  · intro w'
    go_simp
    with_reducible rfl
  rotate_left
  · simp only [Act.put, List.setIfInBounds_toArray, List.set_cons_zero, List.set_cons_succ, i64_w, i32_w]
    rfl
  refine pure_ (i := 10) (N := some 40) (v := ?_) (a' := ?_) #[true, true, true, true, true, true, true, true, true, true, true, false, false, false, false, false] rfl rfl (by kernel_rfl) (fun _ _ _ h => h) (Or.inl ⟨by rfl, ?_⟩) ?_ ?_
  rotate_left
  · intro w'
    go_simp
    with_reducible rfl
  rotate_left
  · simp only [Act.put, List.setIfInBounds_toArray, List.set_cons_zero, List.set_cons_succ, i64_w, i32_w]
    rfl
  refine take_ (i := 11) (N := some 41) (v := ?_) (a' := ?_) #[true, true, true, true, true, true, true, true, true, true, true, true, false, false, false, false] rfl rfl (by kernel_rfl) (fun _ _ _ h => h) (Or.inl ⟨by rfl, ?_⟩) hHeld ?_ ?_
  rotate_left
  · rintro w' ⟨s0, s1, s2, s3, s4, s5, s6, s7, s8⟩
    go_simp
    with_reducible rfl
  rotate_left
  · simp only [Act.put, List.setIfInBounds_toArray, List.set_cons_zero, List.set_cons_succ, i64_w, i32_w]
    rfl
  refine one_ (i := 12) (N := some 42) #[true, true, true, true, true, true, true, true, true, true, true, true, true, false, false, false] rfl rfl (by kernel_rfl) (by decide) (fun K hK => ?_)
  refine goes_ Try.func44 (by kernel_rfl) rfl #[.agg #[.int .i64 a, .int .i64 b, .float .f64 4622100592565682176, .bool (!sh), .int .i64 0, .int .i64 0, .bool true], .slice A l.length cp, .func (.func 59) #[] #[]] (by rfl) rfl rfl (by (try simp only [List.map_toArray, List.map_cons, List.map_nil]); rfl) ?_
  refine (excelize_flatCols.calls_nil k a b 4622100592565682176 (!sh) 0 0 true A cp l () r _ HR.out HCP.out HNIL.out HF.out).mono ?_
  rintro e w6 ⟨v6, rfl, ho6, hb⟩
  obtain ⟨A6, c6, e6⟩ := Kd.R_slice ho6
  subst e6
  have E0 := (hb.cell (World.block_lt_of_cell? _ _ (hHeld.1))).trans (hHeld.1)
  have E1 := (hb.cell (World.block_lt_of_cell? _ _ (hHeld.2.1))).trans (hHeld.2.1)
  have E2 := (hb.cell (World.block_lt_of_cell? _ _ (hHeld.2.2.1))).trans (hHeld.2.2.1)
  have E3 := (hb.cell (World.block_lt_of_cell? _ _ (hHeld.2.2.2.1))).trans (hHeld.2.2.2.1)
  have E4 := (hb.cell (World.block_lt_of_cell? _ _ (hHeld.2.2.2.2.1))).trans (hHeld.2.2.2.2.1)
  have E5 := (hb.cell (World.block_lt_of_cell? _ _ (hHeld.2.2.2.2.2.1))).trans (hHeld.2.2.2.2.2.1)
  have E6 := (hb.cell (World.block_lt_of_cell? _ _ (hHeld.2.2.2.2.2.2.1))).trans (hHeld.2.2.2.2.2.2.1)
  have E7 := (hb.cell (World.block_lt_of_cell? _ _ (hHeld.2.2.2.2.2.2.2.1))).trans (hHeld.2.2.2.2.2.2.2.1)
  have E8 := (hb.cell (World.block_lt_of_cell? _ _ (hHeld.2.2.2.2.2.2.2.2))).trans (hHeld.2.2.2.2.2.2.2.2)
  have BC6 := Aside0.mk (blk_below BC.out hb)
  have HO6 := Aside0.mk ho6
  have n0_ := Aside0.mk (below_step HB.out hb)
  clear HB
  have HB := n0_
  have HB6 := Aside0.mk hb
  clear n0_ ho6 hb
  refine ⟨_, rfl, ?_⟩
  refine hK.out _ _ ⟨E0, E1, E2, E3, E4, E5, E6, E7, E8⟩ (fun hHeld => ?_)
  clear hK K
  refine norm_ (a' := ?_) ?_ ?_
  rotate_left
  · show Act.put _ (some 42) _ = _
    simp only [Act.put, List.setIfInBounds_toArray, List.set_cons_zero, List.set_cons_succ, i64_w, i32_w]
    rfl
  refine pure_ (i := 13) (N := some 43) (v := ?_) (a' := ?_) #[true, true, true, true, true, true, true, true, true, true, true, true, true, true, false, false] rfl rfl (by kernel_rfl) (fun _ _ _ h => h) (Or.inl ⟨by rfl, ?_⟩) ?_ ?_
  rotate_left
  · intro w'
    go_simp
    with_reducible rfl
  rotate_left
  · simp only [Act.put, List.setIfInBounds_toArray, List.set_cons_zero, List.set_cons_succ, i64_w, i32_w]
    rfl
  refine pure_ (i := 14) (N := some 44) (v := ?_) (a' := ?_) #[true, true, true, true, true, true, true, true, true, true, true, true, true, true, true, false] rfl rfl (by kernel_rfl) (fun _ _ _ h => h) (Or.inl ⟨by rfl, ?_⟩) ?_ ?_
  rotate_left
  · intro w'
    go_simp
    with_reducible rfl
  rotate_left
  · simp only [Act.put, List.setIfInBounds_toArray, List.set_cons_zero, List.set_cons_succ, i64_w, i32_w]
    rfl
  refine last_ (i := 15) (N := none) #[true, true, true, true, true, true, true, true, true, true, true, true, true, true, true, true] rfl rfl (by kernel_rfl) (by decide) (fun K hK => ?_)
  have cz := blk_cell BC6.out 0
  have fz := blk_frozen BC6.out 0
  refine skip_ (w1 := ?_) (by rfl) rfl ?_ ?_
  rotate_left
  · go_simp
    rfl
  refine hK.out _ _ ?_
  clear hK K
  refine done_ (by kernel_rfl) ?_

  go_end0
  refine ⟨rfl, .slice A6 r.length c6, ?_, ?_, ?_, ?_⟩
  · exact blk_put BC6.out 0 _ rfl
  · have h_ := E0
    unfold World.cell? at h_ ⊢
    rw [Below.heap_setCell _ _ _ _ HNE.out]
    exact h_
  · have h_ := Kd.R_mono (ok' := fun k => w5.heap.size ≤ k) (Kd.R_bound HO6.out) (fun k hk => hk.2.1)
    exact Kd.R_lower (Kd.R_mono (Kd.R_step h_ (fun k hk _ => Below.heap_setCell _ _ _ _ (show k ≠ gc by have := blk_lt BC.out; omega))) (fun _ _ => trivial)) (below_size HB5.out)
  · exact below_set HB.out HG.out

set_option maxHeartbeats 4000000 in
set_option maxRecDepth 100000 in
theorem doorLevel (k : Nat) (A0 : Option Addr) (c0 : Nat) (l0 : List S68) (a n : Int) (t2 t3 : List S103) (t4 : List S68) (w : World) (hr : Kd.C k68 w A0 l0.length l0) (hc : l0.length ≤ c0) (h2 : excelize_innerLines.f k l0 = some t2) (h3 : excelize_flatCols.f k a a 0 false n 0 true t2 () = some t3) (h4 : excelize_doorLines.f k t3 = some t4) :
    Calls Try.prog 24 #[.slice A0 l0.length c0, .int .i64 a, .int .i64 n] w fun e w' => ∃ v, e = .returned v ∧ Kd.R k68 68 w' w.heap.size (fun _ => True) v t4 ∧ Below w.heap.size w w' := by
  have HR := Aside0.mk hr
  have HC := Aside0.mk hc
  have H2 := Aside0.mk h2
  have H3 := Aside0.mk h3
  have H4 := Aside0.mk h4
  clear hr hc h2 h3 h4
  have HB := Aside0.mk (Below.refl w.heap.size w)
  go_enter Try.func24, Try.ntmps24
  go_upto_region 2 with (first
    | (go_at_call 35; (with_reducible refine (excelize_innerLines.calls k A0 c0 l0 t2 _ HR.out HC.out H2.out).mono ?_); rintro e w1 ⟨v1, rfl, ho, hb⟩; obtain ⟨A1, c1, e1⟩ := Kd.R_slice ho; subst e1; have HO := Aside0.mk ho; clear ho; have n0_ := Aside0.mk (below_step (by repeat (first | (with_reducible first | exact HB.out | apply below_alloc | apply pw_below_drewN | apply below_drew1) | exact HB.out)) hb); clear HB; have HB := n0_; clear n0_; clear hb)
    | ((with_reducible refine gate_dst (N := 11) rfl ?_); refine box_event ?hg (N := 11) ?hd (cs := #[.slice A1 t2.length c1]) (t := 74) ?hr ?_; (case hd => rfl); (case hg => rfl); (case hr => first | (go_simp; done) | (go_simp; rfl)); intro gc hg w2 hbox hb; have BC := Aside0.mk hbox; have GC := Aside0.mk (show w.heap.size ≤ gc by rw [hg]; exact below_size (by repeat (first | (with_reducible first | exact HB.out | apply below_alloc | apply pw_below_drewN | apply below_drew1) | exact HB.out))); have n0_ := Aside0.mk (below_step (by repeat (first | (with_reducible first | exact HB.out | apply below_alloc | apply pw_below_drewN | apply below_drew1) | exact HB.out)) hb); clear HB; have HB := n0_; clear n0_; have n1_ := Aside0.mk (Kd.R_below HO.out hb); clear HO; have HO := n1_; clear n1_ hb hbox hg)
    | ((with_reducible refine gate_dst (N := 13) rfl ?_); refine box_event ?hg (N := 13) ?hd (cs := #[.string ⟨#[]⟩, .slice none 0 0, .pointer (some ⟨gc, 0, none⟩), .pointer none, .pointer none, .pointer none, .slice none 0 0, .slice none 0 0, .pointer none, .slice none 0 0]) (t := 86) ?hr ?_; (case hd => rfl); (case hg => rfl); (case hr => first | (go_simp; done) | (go_simp; rfl)); intro gw hg w3 hbox hb; have BW := Aside0.mk hbox; have NE := Aside0.mk (show gw ≠ gc by rw [hg]; exact Nat.ne_of_gt (blk_lt BC.out)); have n0_ := Aside0.mk (below_step (by repeat (first | (with_reducible first | exact HB.out | apply below_alloc | apply pw_below_drewN | apply below_drew1) | exact HB.out)) hb); clear HB; have HB := n0_; clear n0_; have n1_ := Aside0.mk (Kd.R_below HO.out hb); clear HO; have HO := n1_; have n2_ := Aside0.mk (blk_below BC.out hb); clear BC; have BC := n2_; clear n1_ n2_ hb hbox hg))
  go_upto_region 3 with (first
    | (go_at_call 36; refine (setCol k gw gc A1 c1 t2 a n t3 _ w (blk_cell BW.out 2) BC.out (Kd.R_reads' HO.out).2.2 (Kd.R_reads' HO.out).2.1 H3.out HB.out GC.out NE.out).mono ?_; rintro e w4 ⟨rfl, v4, hc4, hw4, ho4, hb4⟩; obtain ⟨A4, c4, e4⟩ := Kd.R_slice ho4; subst e4; clear HB HO BC BW; have HB := Aside0.mk hb4; have HO4 := Aside0.mk ho4; have hz4 := blk_cell hc4 0; clear hb4 ho4 hc4))
  go_wp2_with (first
    | (go_at_call 37; (with_reducible refine (excelize_doorLines.calls k A4 c4 t3 t4 _ (Kd.R_reads' HO4.out).2.2 (Kd.R_reads' HO4.out).2.1 H4.out).mono ?_); rintro e w5 ⟨v5, rfl, ho5, hb⟩; have HO5 := Aside0.mk (Kd.R_lower ho5 (below_size HB.out)); clear ho5; have n0_ := Aside0.mk (below_step (by repeat (first | (with_reducible first | exact HB.out | apply below_alloc | apply pw_below_drewN | apply below_drew1) | exact HB.out)) hb); clear HB; have HB := n0_; clear n0_; clear hb))
  go_ret
  exact ⟨_, by rfl, HO5.out, HB.out⟩
set_option maxHeartbeats 4000000 in
set_option maxRecDepth 100000 in
theorem doorHide (k : Nat) (A0 : Option Addr) (c0 : Nat) (l0 : List S68) (a b : Int) (sh : Bool) (t2 t3 : List S103) (t4 : List S68) (w : World) (hr : Kd.C k68 w A0 l0.length l0) (hc : l0.length ≤ c0) (h2 : excelize_innerLines.f k l0 = some t2) (hnil : t2 = []) (h3 : excelize_flatCols.f k a b 4622100592565682176 (!sh) 0 0 true t2 () = some t3) (h4 : excelize_doorLines.f k t3 = some t4) :
    Calls Try.prog 38 #[.slice A0 l0.length c0, .int .i64 a, .int .i64 b, .bool sh] w fun e w' => ∃ v, e = .returned v ∧ Kd.R k68 68 w' w.heap.size (fun _ => True) v t4 ∧ Below w.heap.size w w' := by
  have HR := Aside0.mk hr
  have HC := Aside0.mk hc
  have H2 := Aside0.mk h2
  have H3 := Aside0.mk h3
  have H4 := Aside0.mk h4
  clear hr hc h2 h3 h4
  have HNIL := Aside0.mk hnil
  clear hnil
  have HB := Aside0.mk (Below.refl w.heap.size w)
  go_enter Try.func38, Try.ntmps38
  go_upto_region 2 with (first
    | (go_at_call 35; (with_reducible refine (excelize_innerLines.calls k A0 c0 l0 t2 _ HR.out HC.out H2.out).mono ?_); rintro e w1 ⟨v1, rfl, ho, hb⟩; obtain ⟨A1, c1, e1⟩ := Kd.R_slice ho; subst e1; have HO := Aside0.mk ho; clear ho; have n0_ := Aside0.mk (below_step (by repeat (first | (with_reducible first | exact HB.out | apply below_alloc | apply pw_below_drewN | apply below_drew1) | exact HB.out)) hb); clear HB; have HB := n0_; clear n0_; clear hb)
    | ((with_reducible refine gate_dst (N := 13) rfl ?_); refine box_event ?hg (N := 13) ?hd (cs := #[.slice A1 t2.length c1]) (t := 74) ?hr ?_; (case hd => rfl); (case hg => rfl); (case hr => first | (go_simp; done) | (go_simp; rfl)); intro gc hg w2 hbox hb; have BC := Aside0.mk hbox; have GC := Aside0.mk (show w.heap.size ≤ gc by rw [hg]; exact below_size (by repeat (first | (with_reducible first | exact HB.out | apply below_alloc | apply pw_below_drewN | apply below_drew1) | exact HB.out))); have n0_ := Aside0.mk (below_step (by repeat (first | (with_reducible first | exact HB.out | apply below_alloc | apply pw_below_drewN | apply below_drew1) | exact HB.out)) hb); clear HB; have HB := n0_; clear n0_; have n1_ := Aside0.mk (Kd.R_below HO.out hb); clear HO; have HO := n1_; clear n1_ hb hbox hg)
    | ((with_reducible refine gate_dst (N := 15) rfl ?_); refine box_event ?hg (N := 15) ?hd (cs := #[.string ⟨#[]⟩, .slice none 0 0, .pointer (some ⟨gc, 0, none⟩), .pointer none, .pointer none, .pointer none, .slice none 0 0, .slice none 0 0, .pointer none, .slice none 0 0]) (t := 86) ?hr ?_; (case hd => rfl); (case hg => rfl); (case hr => first | (go_simp; done) | (go_simp; rfl)); intro gw hg w3 hbox hb; have BW := Aside0.mk hbox; have NE := Aside0.mk (show gw ≠ gc by rw [hg]; exact Nat.ne_of_gt (blk_lt BC.out)); have n0_ := Aside0.mk (below_step (by repeat (first | (with_reducible first | exact HB.out | apply below_alloc | apply pw_below_drewN | apply below_drew1) | exact HB.out)) hb); clear HB; have HB := n0_; clear n0_; have n1_ := Aside0.mk (Kd.R_below HO.out hb); clear HO; have HO := n1_; have n2_ := Aside0.mk (blk_below BC.out hb); clear BC; have BC := n2_; clear n1_ n2_ hb hbox hg))
  go_upto_region 3 with (first
    | (go_at_call 46; refine (setVis k gw gc A1 c1 t2 a b sh t3 _ w (blk_cell BW.out 2) BC.out (Kd.R_reads' HO.out).2.2 (Kd.R_reads' HO.out).2.1 HNIL.out H3.out HB.out GC.out NE.out).mono ?_; rintro e w4 ⟨rfl, v4, hc4, hw4, ho4, hb4⟩; obtain ⟨A4, c4, e4⟩ := Kd.R_slice ho4; subst e4; clear HB HO BC BW; have HB := Aside0.mk hb4; have HO4 := Aside0.mk ho4; have hz4 := blk_cell hc4 0; clear hb4 ho4 hc4))
  go_wp2_with (first
    | (go_at_call 37; (with_reducible refine (excelize_doorLines.calls k A4 c4 t3 t4 _ (Kd.R_reads' HO4.out).2.2 (Kd.R_reads' HO4.out).2.1 H4.out).mono ?_); rintro e w5 ⟨v5, rfl, ho5, hb⟩; have HO5 := Aside0.mk (Kd.R_lower ho5 (below_size HB.out)); clear ho5; have n0_ := Aside0.mk (below_step (by repeat (first | (with_reducible first | exact HB.out | apply below_alloc | apply pw_below_drewN | apply below_drew1) | exact HB.out)) hb); clear HB; have HB := n0_; clear n0_; clear hb))
  go_ret
  exact ⟨_, by rfl, HO5.out, HB.out⟩
/-! ### impl_Level -/
def impl_Level.f (k : Nat) (l0 : List S34) (a n : Int) : Option (List S34) := (impl_linesTo.f k l0).bind fun t1 => (excelize_innerLines.f k t1).bind fun t2 => (excelize_flatCols.f k a a 0 false n 0 true t2 ()).bind fun t3 => (excelize_doorLines.f k t3).bind fun t4 => impl_linesOf.f k t4
theorem impl_Level.mono : ∀ l0 a n k, LeO (impl_Level.f k l0 a n) (impl_Level.f (k + 1) l0 a n) := by
  intro l0 a n k
  unfold impl_Level.f
  refine LeO.bind (impl_linesTo.mono _ _) (fun _ => LeO.bind (excelize_innerLines.mono _ _) (fun _ => ?_))
  exact LeO.bind (excelize_flatCols.mono _ _ _ _ _ _ _ _ _ _) (fun _ => LeO.bind (excelize_doorLines.mono _ _) (fun _ => impl_linesOf.mono _ _))
set_option maxHeartbeats 4000000 in
set_option maxRecDepth 100000 in
theorem impl_Level.calls (k : Nat) (A0 : Option Addr) (c0 : Nat) (l0 : List S34) (a n : Int) (r : List S34) (w : World) (hr0 : Kd.C k34 w A0 l0.length l0) (hc0 : l0.length ≤ c0) (h : impl_Level.f k l0 a n = some r) :
    Calls Try.prog 12 #[.slice A0 l0.length c0, .int .i64 a, .int .i64 n] w fun e w' => ∃ v0_ : Value, e = .returned (v0_) ∧ Kd.R k34 34 w' w.heap.size (fun _ => True) v0_ r ∧ Below w.heap.size w w' := by
  unfold impl_Level.f at h
  obtain ⟨t1, h1, h⟩ := Option.bind_eq_some_iff.mp h
  obtain ⟨t2, h2, h⟩ := Option.bind_eq_some_iff.mp h
  obtain ⟨t3, h3, h⟩ := Option.bind_eq_some_iff.mp h
  obtain ⟨t4, h4, h5⟩ := Option.bind_eq_some_iff.mp h
  have HR := Aside0.mk hr0
  have HC := Aside0.mk hc0
  have H1 := Aside0.mk h1
  have H2 := Aside0.mk h2
  have H3 := Aside0.mk h3
  have H4 := Aside0.mk h4
  have H5 := Aside0.mk h5
  clear hr0 hc0 h h1 h2 h3 h4 h5
  have HB := Aside0.mk (Below.refl w.heap.size w)
  go_enter Try.func12, Try.ntmps12
  go_wp2_with (first
    | (go_at_call 25; (with_reducible refine (impl_linesTo.calls k A0 c0 l0 t1 _ HR.out HC.out H1.out).mono ?_); rintro e w1 ⟨v1, rfl, ho, hb⟩; obtain ⟨A1, c1, e1⟩ := Kd.R_slice ho; subst e1; have HO1 := Aside0.mk ho; clear ho; have n0_ := Aside0.mk (below_step (by repeat (first | (with_reducible first | exact HB.out | apply below_alloc | apply pw_below_drewN | apply below_drew1) | exact HB.out)) hb); clear HB; have HB := n0_; clear n0_ hb)
    | (go_at_call 24; (with_reducible refine (doorLevel k A1 c1 t1 a n t2 t3 t4 _ (Kd.R_reads' HO1.out).2.2 (Kd.R_reads' HO1.out).2.1 H2.out H3.out H4.out).mono ?_); rintro e w2 ⟨v2, rfl, ho, hb⟩; obtain ⟨A2, c2, e2⟩ := Kd.R_slice ho; subst e2; have HO2 := Aside0.mk ho; clear ho; have n0_ := Aside0.mk (below_step (by repeat (first | (with_reducible first | exact HB.out | apply below_alloc | apply pw_below_drewN | apply below_drew1) | exact HB.out)) hb); clear HB; have HB := n0_; clear n0_ hb)
    | (go_at_call 23; (with_reducible refine (impl_linesOf.calls k A2 c2 t4 r _ (Kd.R_reads' HO2.out).2.2 (Kd.R_reads' HO2.out).2.1 H5.out).mono ?_); rintro e w3 ⟨v3, rfl, ho, hb⟩; have HO3 := Aside0.mk (Kd.R_lower ho (below_size HB.out)); clear ho; have n0_ := Aside0.mk (below_step (by repeat (first | (with_reducible first | exact HB.out | apply below_alloc | apply pw_below_drewN | apply below_drew1) | exact HB.out)) hb); clear HB; have HB := n0_; clear n0_ hb))
  go_ret
  exact ⟨_, by rfl, HO3.out, HB.out⟩
/-! ### impl_Hide -/
def impl_Hide.f (k : Nat) (l0 : List S34) (a b : Int) (sh : Bool) : Option (List S34) := (impl_linesTo.f k l0).bind fun t1 => (excelize_innerLines.f k t1).bind fun t2 => if t2.length = 0 then ((excelize_flatCols.f k a b 4622100592565682176 (!sh) 0 0 true t2 ()).bind fun t3 => (excelize_doorLines.f k t3).bind fun t4 => impl_linesOf.f k t4) else none
theorem impl_Hide.mono : ∀ l0 a b sh k, LeO (impl_Hide.f k l0 a b sh) (impl_Hide.f (k + 1) l0 a b sh) := by
  intro l0 a b sh k
  unfold impl_Hide.f
  refine LeO.bind (impl_linesTo.mono _ _) (fun _ => LeO.bind (excelize_innerLines.mono _ _) (fun _ => ?_))
  refine LeO.ite (LeO.bind (excelize_flatCols.mono _ _ _ _ _ _ _ _ _ _) (fun _ => LeO.bind (excelize_doorLines.mono _ _) (fun _ => impl_linesOf.mono _ _))) (LeO.none _)
set_option maxHeartbeats 4000000 in
set_option maxRecDepth 100000 in
theorem impl_Hide.calls (k : Nat) (A0 : Option Addr) (c0 : Nat) (l0 : List S34) (a b : Int) (sh : Bool) (r : List S34) (w : World) (hr0 : Kd.C k34 w A0 l0.length l0) (hc0 : l0.length ≤ c0) (h : impl_Hide.f k l0 a b sh = some r) :
    Calls Try.prog 26 #[.slice A0 l0.length c0, .int .i64 a, .int .i64 b, .bool sh] w fun e w' => ∃ v0_ : Value, e = .returned (v0_) ∧ Kd.R k34 34 w' w.heap.size (fun _ => True) v0_ r ∧ Below w.heap.size w w' := by
  unfold impl_Hide.f at h
  obtain ⟨t1, h1, h⟩ := Option.bind_eq_some_iff.mp h
  obtain ⟨t2, h2, h⟩ := Option.bind_eq_some_iff.mp h
  split at h
  rotate_left
  · cases h
  rename_i hnil
  have HNIL := Aside0.mk (List.eq_nil_of_length_eq_zero hnil)
  clear hnil
  obtain ⟨t3, h3, h⟩ := Option.bind_eq_some_iff.mp h
  obtain ⟨t4, h4, h5⟩ := Option.bind_eq_some_iff.mp h
  have HR := Aside0.mk hr0
  have HC := Aside0.mk hc0
  have H1 := Aside0.mk h1
  have H2 := Aside0.mk h2
  have H3 := Aside0.mk h3
  have H4 := Aside0.mk h4
  have H5 := Aside0.mk h5
  clear hr0 hc0 h h1 h2 h3 h4 h5
  have HB := Aside0.mk (Below.refl w.heap.size w)
  go_enter Try.func26, Try.ntmps26
  go_wp2_with (first
    | (go_at_call 25; (with_reducible refine (impl_linesTo.calls k A0 c0 l0 t1 _ HR.out HC.out H1.out).mono ?_); rintro e w1 ⟨v1, rfl, ho, hb⟩; obtain ⟨A1, c1, e1⟩ := Kd.R_slice ho; subst e1; have HO1 := Aside0.mk ho; clear ho; have n0_ := Aside0.mk (below_step (by repeat (first | (with_reducible first | exact HB.out | apply below_alloc | apply pw_below_drewN | apply below_drew1) | exact HB.out)) hb); clear HB; have HB := n0_; clear n0_ hb)
    | (go_at_call 38; (with_reducible refine (doorHide k A1 c1 t1 a b sh t2 t3 t4 _ (Kd.R_reads' HO1.out).2.2 (Kd.R_reads' HO1.out).2.1 H2.out HNIL.out H3.out H4.out).mono ?_); rintro e w2 ⟨v2, rfl, ho, hb⟩; obtain ⟨A2, c2, e2⟩ := Kd.R_slice ho; subst e2; have HO2 := Aside0.mk ho; clear ho; have n0_ := Aside0.mk (below_step (by repeat (first | (with_reducible first | exact HB.out | apply below_alloc | apply pw_below_drewN | apply below_drew1) | exact HB.out)) hb); clear HB; have HB := n0_; clear n0_ hb)
    | (go_at_call 23; (with_reducible refine (impl_linesOf.calls k A2 c2 t4 r _ (Kd.R_reads' HO2.out).2.2 (Kd.R_reads' HO2.out).2.1 H5.out).mono ?_); rintro e w3 ⟨v3, rfl, ho, hb⟩; have HO3 := Aside0.mk (Kd.R_lower ho (below_size HB.out)); clear ho; have n0_ := Aside0.mk (below_step (by repeat (first | (with_reducible first | exact HB.out | apply below_alloc | apply pw_below_drewN | apply below_drew1) | exact HB.out)) hb); clear HB; have HB := n0_; clear n0_ hb))
  go_ret
  exact ⟨_, by rfl, HO3.out, HB.out⟩
end Go.Proofs.Ytjefbpfpobgmaaa.LvB
