/- The package's flatCols over no columns (with setColVisible's replacer): the call ends in what the printed plain function says. Turned, by a program of this session, from a printed proof. No conditions. -/
import Derived.Test.YtjefbpfpobgmaaaPLvx3
namespace Go.Proofs.Ytjefbpfpobgmaaa.PLv
open Go.RowKit Go.Proofs.YtjefbpfpobgmaaaW.PrintWords Go.Proofs.YtjefbpfpobgmaaaW.PrintLast Go.Proofs.YtjefbpfpobgmaaaW.PrintMore
attribute [local go_sem] Go.Proofs.Ytjefbpfpobgmaaa.Flt.run_store_float max2_int min2_int max_two min_two max_three min_three max_four min_four
set_option linter.unusedVariables false
set_option linter.unusedSimpArgs false
set_option maxHeartbeats 8000000 in
set_option maxRecDepth 100000 in
theorem excelize_flatCols.calls_nil (k : Nat) (a0_0 : Int) (a0_1 : Int) (a0_2 : Nat) (a0_3 : Bool) (a0_4 : Int) (a0_5 : Int) (a0_6 : Bool) (A1 : Option Addr) (c1 : Nat) (l1 : List (S103)) (a2 : Unit) (r : List (S103)) (w : World) (hr1 : Kd.C k103 w A1 l1.length l1) (hc1 : l1.length ≤ c1) (hnil : l1 = []) (h : excelize_flatCols.f k a0_0 a0_1 a0_2 a0_3 a0_4 a0_5 a0_6 l1 a2 = some r) :
    Calls Try.prog 44 #[.agg #[.int .i64 a0_0, .int .i64 a0_1, .float .f64 a0_2, .bool a0_3, .int .i64 a0_4, .int .i64 a0_5, .bool a0_6], .slice A1 l1.length c1, .func (.func 59) #[] #[]] w fun e w' => ∃ v0_ : Value, e = .returned (v0_) ∧ Kd.R k103 103 w' w.heap.size (fun _ => True) v0_ r ∧ Below w.heap.size w w' := by
  have hu103 := Try.underlying103
  have HNIL := Aside0.mk hnil
  clear hnil
  have HR1 := Aside0.mk hr1
  have HC1 := Aside0.mk hc1
  clear hr1 hc1
  have HB := Aside0.mk (Below.refl w.heap.size w)
  have H : (excelize_flatCols.l0 k l1 ([] : List (S103)) (mx 1 a0_0) a0_0 a0_1 a0_2 a0_3 a0_4 a0_5 a0_6) = some r := h
  clear h
  obtain ⟨ji4, hji4⟩ : ∃ j_ : Int, (mx 1 a0_0) = j_ := ⟨_, rfl⟩
  replace H : (excelize_flatCols.l0 k l1 ([] : List (S103)) ji4 a0_0 a0_1 a0_2 a0_3 a0_4 a0_5 a0_6) = some r := by first | (rw [hji4] at H; exact H) | (simp only [hji4] at H ⊢; exact H)
  (try (have hji4l : 1 ≤ ji4 := by (rw [← hji4]; unfold mx; (repeat' split) <;> omega)))
  (try (have hji4m : 0 ≤ ji4 := by omega))
  have hji4_ : (if 1 < a0_0 then a0_0 else 1) = ji4 := hji4
  have H' := Aside0.mk H
  clear H
  go_enter Try.func44, Try.ntmps44
  go_wp2_with (first | ((with_reducible refine gate_dst (N := 3) rfl ?_); refine box_event ?hg (N := 3) ?hd (cs := #[.int .i64 a0_0, .int .i64 a0_1, .float .f64 a0_2, .bool a0_3, .int .i64 a0_4, .int .i64 a0_5, .bool a0_6]) (t := 103) ?hr ?_; (case hd => rfl); (case hg => rfl); (case hr => first | (go_simp; done) | (go_simp; rfl)); intro gb106 hg w5 hbox hb; have n0_ := Aside0.mk (below_step (by repeat (first | (with_reducible first | exact HB.out | apply below_alloc | apply pw_below_drewN | apply below_drew1) | exact HB.out)) hb); have n1_ := Aside0.mk (hbox); have n2_ := Aside0.mk ((by rw [hg]; exact (below_size (by repeat (first | (with_reducible first | exact HB.out | apply below_alloc | apply pw_below_drewN | apply below_drew1) | exact HB.out))) : w.heap.size ≤ gb106)); have n3_ := Aside0.mk ((by rw [hg]; exact (below_size (by repeat (first | (with_reducible first | exact HB.out | apply below_alloc | apply pw_below_drewN | apply below_drew1) | exact HB.out))) : w.heap.size ≤ gb106)); clear HB; have HB := n0_; have BK106 := n1_; have GW106 := n2_; have GE106 := n3_; clear n0_ n1_ n2_ n3_; clear hb hbox hg; have hcz6_0 : w5.cell? ⟨gb106, 0, none⟩ = some (.int .i64 a0_0) := (blk_cell BK106.out 0).trans rfl; have hcz6_1 : w5.cell? ⟨gb106, 1, none⟩ = some (.int .i64 a0_1) := (blk_cell BK106.out 1).trans rfl; have hcz6_2 : w5.cell? ⟨gb106, 2, none⟩ = some (.float .f64 a0_2) := (blk_cell BK106.out 2).trans rfl; have hcz6_3 : w5.cell? ⟨gb106, 3, none⟩ = some (.bool a0_3) := (blk_cell BK106.out 3).trans rfl; have hcz6_4 : w5.cell? ⟨gb106, 4, none⟩ = some (.int .i64 a0_4) := (blk_cell BK106.out 4).trans rfl; have hcz6_5 : w5.cell? ⟨gb106, 5, none⟩ = some (.int .i64 a0_5) := (blk_cell BK106.out 5).trans rfl; have hcz6_6 : w5.cell? ⟨gb106, 6, none⟩ = some (.bool a0_6) := (blk_cell BK106.out 6).trans rfl; have hfz6_0 := blk_frozen BK106.out 0; have hfz6_1 := blk_frozen BK106.out 1; have hfz6_2 := blk_frozen BK106.out 2; have hfz6_3 := blk_frozen BK106.out 3; have hfz6_4 := blk_frozen BK106.out 4; have hfz6_5 := blk_frozen BK106.out 5; have hfz6_6 := blk_frozen BK106.out 6))
  go_loopg [7, 8] k (fun kq v7 v8 w' => ∃ (x7_1 : List (S103)) (x8_1 : Int), v8 = .int .i64 x8_1 ∧ Aside0 (excelize_flatCols.l0 kq l1 x7_1 x8_1 a0_0 a0_1 a0_2 a0_3 a0_4 a0_5 a0_6 = some r) ∧ Aside0 (kq ≤ k) ∧ Aside0 (Kd.R k103 103 w' w.heap.size (fun k_ => k_ ≠ gb106) v7 x7_1) ∧ Aside0 (w'.heap[gb106]? = some (.cells #[.int .i64 a0_0, .int .i64 a0_1, .float .f64 a0_2, .bool a0_3, .int .i64 a0_4, .int .i64 a0_5, .bool a0_6] 103 (0, 0))) ∧ Aside0 (Below w.heap.size w w'))
  case atStart => exact ⟨(([] : List (S103))), (ji4), (by first | rfl | (simp; done) | (simp only [← hji4] <;> (first | rfl | simp)) | (simp [*]; done)), H', ⟨Nat.le_refl _⟩, ⟨by first | exact Kd.R_nil _ _ _ _ _ | exact Kd.N_nil _ _ _ _ _ | exact Kd.V_nil _ _ _ _ _ | exact Kd.Q_nil _ _ _ _ _ | exact Kd.S_nil _ _ _ _ _⟩, ⟨by (with_reducible repeat (first | refine blk_drewN ?_ _ | refine blk_drew ?_ | refine blk_alloc ?_ _)); exact BK106.out⟩, ⟨by repeat (first | (with_reducible first | exact HB.out | apply below_alloc | apply pw_below_drewN | apply below_drew1 | refine below_set ?_ GE106.out) | exact HB.out)⟩⟩
  case round =>
    clear H'
    try clear c1
    try clear p2
    try clear c4
    try clear hcz6_0
    try clear hcz6_1
    try clear hcz6_2
    try clear hcz6_3
    try clear hcz6_4
    try clear hcz6_5
    try clear hcz6_6
    try clear hfz6_0
    try clear hfz6_1
    try clear hfz6_2
    try clear hfz6_3
    try clear hfz6_4
    try clear hfz6_5
    try clear hfz6_6
    obtain ⟨x7_1, x8_1, rfl, HA, HK1, HO_7, BK106, HB⟩ := hrel
    cases gk with
    | zero => exact absurd HA.out (by simp [excelize_flatCols.l0])
    | succ k1 =>
      have H := HA.out
      clear HA
      simp only [excelize_flatCols.l0] at H
      obtain ⟨ji7, hji7⟩ : ∃ j_ : Int, (mn 16384 a0_1) = j_ := ⟨_, rfl⟩
      replace H : (if x8_1 ≤ (ji7) then (if x7_1.length < 2513169434916 then (excelize_flatCols.l0 k1 l1 (x7_1 ++ [(⟨x8_1, x8_1, a0_2, a0_3, a0_4, a0_5, a0_6⟩ : S103)]) (wrap64 (x8_1 + 1)) a0_0 a0_1 a0_2 a0_3 a0_4 a0_5 a0_6) else (none)) else (excelize_flatCols.l1 k1 x7_1 l1 (l1.length : Int) 0)) = some r := by first | (rw [hji7] at H; exact H) | (simp only [hji7] at H ⊢; exact H)
      have hji7_ : (if a0_1 < 16384 then a0_1 else 16384) = ji7 := hji7
      by_cases c8 : x8_1 ≤ (ji7)
      · rw [if_pos c8] at H
        have c8b0 : decide (x8_1 ≤ (ji7)) = true := decide_eq_true c8
        clear c8
        by_cases c9 : x7_1.length < 2513169434916
        · rw [if_pos c9] at H
          have LMc9 := Aside0.mk c9
          clear c9
          obtain ⟨y108, hy108⟩ : ∃ y_ : List (S103), y_ = (x7_1 ++ [(⟨x8_1, x8_1, a0_2, a0_3, a0_4, a0_5, a0_6⟩ : S103)]) := ⟨_, rfl⟩
          replace H : (excelize_flatCols.l0 k1 l1 y108 (wrap64 (x8_1 + 1)) a0_0 a0_1 a0_2 a0_3 a0_4 a0_5 a0_6) = some r := by first | (rw [hy108]; with_reducible exact H) | (have H2_ := (Option.bind_some _ _).symm.trans H; rw [hy108]; with_reducible exact H2_) | (have H2_ := (Option.bind_some _ _).symm.trans H; with_reducible exact H2_) | with_reducible exact H | (rw [hy108]; exact H) | exact H
          have Ny108 := Aside0.mk hy108
          clear hy108
          have H' := Aside0.mk H
          clear H
          have hcz10_0 : wr.cell? ⟨gb106, 0, none⟩ = some (.int .i64 a0_0) := (blk_cell BK106.out 0).trans rfl
          have hcz10_1 : wr.cell? ⟨gb106, 1, none⟩ = some (.int .i64 a0_1) := (blk_cell BK106.out 1).trans rfl
          have hcz10_2 : wr.cell? ⟨gb106, 2, none⟩ = some (.float .f64 a0_2) := (blk_cell BK106.out 2).trans rfl
          have hcz10_3 : wr.cell? ⟨gb106, 3, none⟩ = some (.bool a0_3) := (blk_cell BK106.out 3).trans rfl
          have hcz10_4 : wr.cell? ⟨gb106, 4, none⟩ = some (.int .i64 a0_4) := (blk_cell BK106.out 4).trans rfl
          have hcz10_5 : wr.cell? ⟨gb106, 5, none⟩ = some (.int .i64 a0_5) := (blk_cell BK106.out 5).trans rfl
          have hcz10_6 : wr.cell? ⟨gb106, 6, none⟩ = some (.bool a0_6) := (blk_cell BK106.out 6).trans rfl
          have hfz10_0 := blk_frozen BK106.out 0
          have hfz10_1 := blk_frozen BK106.out 1
          have hfz10_2 := blk_frozen BK106.out 2
          have hfz10_3 := blk_frozen BK106.out 3
          have hfz10_4 := blk_frozen BK106.out 4
          have hfz10_5 := blk_frozen BK106.out 5
          have hfz10_6 := blk_frozen BK106.out 6
          go_wp2_with (first | ((with_reducible refine gate_dst (N := 9) rfl ?_); refine box_event ?hg (N := 9) ?hd (cs := #[.int .i64 0, .int .i64 0, .float .f64 0, .bool false, .int .i64 0, .int .i64 0, .bool false]) (t := 103) ?hr ?_; (case hd => rfl); (case hg => rfl); (case hr => first | (go_simp; done) | (go_simp; rfl)); intro gb107 hg w11 hbox hb; have n0_ := Aside0.mk (Kd.R_below (Kd.R_elderB (by (with_reducible repeat (first | apply Kd.R_alloc | apply Kd.R_drewN | apply Kd.R_drew)); exact HO_7.out) gb107 (Nat.le_of_eq hg.symm)) hb); have n1_ := Aside0.mk (blk_below (g := gb106) (o := .cells #[.int .i64 a0_0, .int .i64 a0_1, .float .f64 a0_2, .bool a0_3, .int .i64 a0_4, .int .i64 a0_5, .bool a0_6] 103 (0, 0)) (by (with_reducible repeat (first | refine blk_drewN ?_ _ | refine blk_drew ?_ | refine blk_alloc ?_ _)); exact BK106.out) hb); have n2_ := Aside0.mk (below_step (by repeat (first | (with_reducible first | exact HB.out | apply below_alloc | apply pw_below_drewN | apply below_drew1 | refine below_set ?_ GE106.out) | exact HB.out)) hb); have n3_ := Aside0.mk (hbox); have n4_ := Aside0.mk ((by rw [hg]; exact (below_size (by repeat (first | (with_reducible first | exact HB.out | apply below_alloc | apply pw_below_drewN | apply below_drew1 | refine below_set ?_ GE106.out) | exact HB.out))) : w.heap.size ≤ gb107)); have n5_ := Aside0.mk ((by rw [hg]; exact (below_size (by repeat (first | (with_reducible first | exact HB.out | apply below_alloc | apply pw_below_drewN | apply below_drew1 | refine below_set ?_ GE106.out) | exact HB.out))) : w.heap.size ≤ gb107)); have n6_ := Aside0.mk ((by rw [hg]; exact Nat.ne_of_lt (blk_lt (g := gb106) (o := .cells #[.int .i64 a0_0, .int .i64 a0_1, .float .f64 a0_2, .bool a0_3, .int .i64 a0_4, .int .i64 a0_5, .bool a0_6] 103 (0, 0)) (by (with_reducible repeat (first | refine blk_drewN ?_ _ | refine blk_drew ?_ | refine blk_alloc ?_ _)); exact BK106.out)) : gb106 ≠ gb107)); have n7_ := Aside0.mk ((by rw [hg]; exact Nat.ne_of_gt (blk_lt (g := gb106) (o := .cells #[.int .i64 a0_0, .int .i64 a0_1, .float .f64 a0_2, .bool a0_3, .int .i64 a0_4, .int .i64 a0_5, .bool a0_6] 103 (0, 0)) (by (with_reducible repeat (first | refine blk_drewN ?_ _ | refine blk_drew ?_ | refine blk_alloc ?_ _)); exact BK106.out)) : gb107 ≠ gb106)); clear HO_7; clear BK106; clear HB; have HO_7 := n0_; have BK106 := n1_; have HB := n2_; have BK107 := n3_; have GW107 := n4_; have GE107 := n5_; have NB106_107 := n6_; have NB107_106 := n7_; clear n0_ n1_ n2_ n3_ n4_ n5_ n6_ n7_; clear hb hbox hg; have hnb12 := NB107_106.out; have hnc12 := NB106_107.out; have hcz13_0 : w11.cell? ⟨gb107, 0, none⟩ = some (.int .i64 0) := (blk_cell BK107.out 0).trans rfl; have hcz13_1 : w11.cell? ⟨gb107, 1, none⟩ = some (.int .i64 0) := (blk_cell BK107.out 1).trans rfl; have hcz13_2 : w11.cell? ⟨gb107, 2, none⟩ = some (.float .f64 0) := (blk_cell BK107.out 2).trans rfl; have hcz13_3 : w11.cell? ⟨gb107, 3, none⟩ = some (.bool false) := (blk_cell BK107.out 3).trans rfl; have hcz13_4 : w11.cell? ⟨gb107, 4, none⟩ = some (.int .i64 0) := (blk_cell BK107.out 4).trans rfl; have hcz13_5 : w11.cell? ⟨gb107, 5, none⟩ = some (.int .i64 0) := (blk_cell BK107.out 5).trans rfl; have hcz13_6 : w11.cell? ⟨gb107, 6, none⟩ = some (.bool false) := (blk_cell BK107.out 6).trans rfl; have hfz13_0 := blk_frozen BK107.out 0; have hfz13_1 := blk_frozen BK107.out 1; have hfz13_2 := blk_frozen BK107.out 2; have hfz13_3 := blk_frozen BK107.out 3; have hfz13_4 := blk_frozen BK107.out 4; have hfz13_5 := blk_frozen BK107.out 5; have hfz13_6 := blk_frozen BK107.out 6) | ((with_reducible refine gate_store (t := 103) (p := 9) rfl ?_); refine store_event (t := 103) (p := 9) (v := ?vo_w11a) (w1 := Flt.sets w11 gb107 0 [.int .i64 a0_0, .int .i64 a0_1, .float .f64 a0_2, .bool a0_3, .int .i64 a0_4, .int .i64 a0_5, .bool a0_6]) ?hg ?ho ?hn ?hr ?_; (case ho => rfl); (case hg => rfl); (case hn => rfl); (case hr => first | (go_simp; done) | (go_simp; rfl)); intro w11a hw; have m0_ := Aside0.mk (show w11a.heap[gb107]? = some (.cells #[.int .i64 a0_0, .int .i64 a0_1, .float .f64 a0_2, .bool a0_3, .int .i64 a0_4, .int .i64 a0_5, .bool a0_6] 103 (0, 0)) by rw [hw]; exact Flt.sets_all [.int .i64 a0_0, .int .i64 a0_1, .float .f64 a0_2, .bool a0_3, .int .i64 a0_4, .int .i64 a0_5, .bool a0_6] BK107.out rfl); have m1_ := Aside0.mk (show w11a.heap[gb106]? = some (.cells #[.int .i64 a0_0, .int .i64 a0_1, .float .f64 a0_2, .bool a0_3, .int .i64 a0_4, .int .i64 a0_5, .bool a0_6] 103 (0, 0)) by rw [hw]; exact (Flt.sets_far NB106_107.out _ _ _).trans BK106.out); have mb_ := Aside0.mk (show Below w.heap.size w w11a by rw [hw]; exact Flt.sets_below GE107.out _ _ _ HB.out); have mo_ := Aside0.mk (Kd.R_step HO_7.out (w1 := w11a) (fun k_ hk _ => by rw [hw]; exact Flt.sets_far hk.2 _ _ _)); clear hw; clear BK107; clear BK106; clear HB; clear HO_7; have BK107 := m0_; have BK106 := m1_; have HB := mb_; have HO_7 := mo_; clear mb_ mo_ m0_ m1_; clear hcz13_0; clear hcz13_1; clear hcz13_2; clear hcz13_3; clear hcz13_4; clear hcz13_5; clear hcz13_6; clear hfz13_0; clear hfz13_1; clear hfz13_2; clear hfz13_3; clear hfz13_4; clear hfz13_5; clear hfz13_6; have hcz13a_0 : w11a.cell? ⟨gb107, 0, none⟩ = some (.int .i64 a0_0) := (blk_cell BK107.out 0).trans rfl; have hcz13a_1 : w11a.cell? ⟨gb107, 1, none⟩ = some (.int .i64 a0_1) := (blk_cell BK107.out 1).trans rfl; have hcz13a_2 : w11a.cell? ⟨gb107, 2, none⟩ = some (.float .f64 a0_2) := (blk_cell BK107.out 2).trans rfl; have hcz13a_3 : w11a.cell? ⟨gb107, 3, none⟩ = some (.bool a0_3) := (blk_cell BK107.out 3).trans rfl; have hcz13a_4 : w11a.cell? ⟨gb107, 4, none⟩ = some (.int .i64 a0_4) := (blk_cell BK107.out 4).trans rfl; have hcz13a_5 : w11a.cell? ⟨gb107, 5, none⟩ = some (.int .i64 a0_5) := (blk_cell BK107.out 5).trans rfl; have hcz13a_6 : w11a.cell? ⟨gb107, 6, none⟩ = some (.bool a0_6) := (blk_cell BK107.out 6).trans rfl; have hfz13a_0 := blk_frozen BK107.out 0; have hfz13a_1 := blk_frozen BK107.out 1; have hfz13a_2 := blk_frozen BK107.out 2; have hfz13a_3 := blk_frozen BK107.out 3; have hfz13a_4 := blk_frozen BK107.out 4; have hfz13a_5 := blk_frozen BK107.out 5; have hfz13a_6 := blk_frozen BK107.out 6) | ((with_reducible refine gate_store (t := 3) (p := 30) rfl ?_); refine store_event (t := 3) (p := 30) (v := ?vo_w11b) (w1 := w11a.setCell ⟨gb107, 0, none⟩ (.int .i64 x8_1)) ?hg ?ho ?hn ?hr ?_; (case ho => rfl); (case hg => rfl); (case hn => rfl); (case hr => first | (go_simp; done) | (go_simp; rfl)); intro w11b hw; have m0_ := Aside0.mk (show w11b.heap[gb107]? = some (.cells #[.int .i64 x8_1, .int .i64 a0_1, .float .f64 a0_2, .bool a0_3, .int .i64 a0_4, .int .i64 a0_5, .bool a0_6] 103 (0, 0)) by rw [hw]; exact blk_put BK107.out 0 _ rfl); have m1_ := Aside0.mk (show w11b.heap[gb106]? = some (.cells #[.int .i64 a0_0, .int .i64 a0_1, .float .f64 a0_2, .bool a0_3, .int .i64 a0_4, .int .i64 a0_5, .bool a0_6] 103 (0, 0)) by rw [hw]; exact (Below.heap_setCell _ _ _ _ (NB106_107.out)).trans BK106.out); have mb_ := Aside0.mk (show Below w.heap.size w w11b by rw [hw]; exact below_set HB.out GE107.out); have mo_ := Aside0.mk (Kd.R_step HO_7.out (w1 := w11b) (fun k_ hk _ => by rw [hw]; exact Below.heap_setCell _ _ _ _ (hk.2))); clear hw; clear BK107; clear BK106; clear HB; clear HO_7; have BK107 := m0_; have BK106 := m1_; have HB := mb_; have HO_7 := mo_; clear mb_ mo_ m0_ m1_; clear hcz13a_0; clear hcz13a_1; clear hcz13a_2; clear hcz13a_3; clear hcz13a_4; clear hcz13a_5; clear hcz13a_6; clear hfz13a_0; clear hfz13a_1; clear hfz13a_2; clear hfz13a_3; clear hfz13a_4; clear hfz13a_5; clear hfz13a_6; have hcz13b_0 : w11b.cell? ⟨gb107, 0, none⟩ = some (.int .i64 x8_1) := (blk_cell BK107.out 0).trans rfl; have hcz13b_1 : w11b.cell? ⟨gb107, 1, none⟩ = some (.int .i64 a0_1) := (blk_cell BK107.out 1).trans rfl; have hcz13b_2 : w11b.cell? ⟨gb107, 2, none⟩ = some (.float .f64 a0_2) := (blk_cell BK107.out 2).trans rfl; have hcz13b_3 : w11b.cell? ⟨gb107, 3, none⟩ = some (.bool a0_3) := (blk_cell BK107.out 3).trans rfl; have hcz13b_4 : w11b.cell? ⟨gb107, 4, none⟩ = some (.int .i64 a0_4) := (blk_cell BK107.out 4).trans rfl; have hcz13b_5 : w11b.cell? ⟨gb107, 5, none⟩ = some (.int .i64 a0_5) := (blk_cell BK107.out 5).trans rfl; have hcz13b_6 : w11b.cell? ⟨gb107, 6, none⟩ = some (.bool a0_6) := (blk_cell BK107.out 6).trans rfl; have hfz13b_0 := blk_frozen BK107.out 0; have hfz13b_1 := blk_frozen BK107.out 1; have hfz13b_2 := blk_frozen BK107.out 2; have hfz13b_3 := blk_frozen BK107.out 3; have hfz13b_4 := blk_frozen BK107.out 4; have hfz13b_5 := blk_frozen BK107.out 5; have hfz13b_6 := blk_frozen BK107.out 6) | ((with_reducible refine gate_store (t := 3) (p := 31) rfl ?_); refine store_event (t := 3) (p := 31) (v := ?vo_w11c) (w1 := w11b.setCell ⟨gb107, 1, none⟩ (.int .i64 x8_1)) ?hg ?ho ?hn ?hr ?_; (case ho => rfl); (case hg => rfl); (case hn => rfl); (case hr => first | (go_simp; done) | (go_simp; rfl)); intro w11c hw; have m0_ := Aside0.mk (show w11c.heap[gb107]? = some (.cells #[.int .i64 x8_1, .int .i64 x8_1, .float .f64 a0_2, .bool a0_3, .int .i64 a0_4, .int .i64 a0_5, .bool a0_6] 103 (0, 0)) by rw [hw]; exact blk_put BK107.out 1 _ rfl); have m1_ := Aside0.mk (show w11c.heap[gb106]? = some (.cells #[.int .i64 a0_0, .int .i64 a0_1, .float .f64 a0_2, .bool a0_3, .int .i64 a0_4, .int .i64 a0_5, .bool a0_6] 103 (0, 0)) by rw [hw]; exact (Below.heap_setCell _ _ _ _ (NB106_107.out)).trans BK106.out); have mb_ := Aside0.mk (show Below w.heap.size w w11c by rw [hw]; exact below_set HB.out GE107.out); have mo_ := Aside0.mk (Kd.R_step HO_7.out (w1 := w11c) (fun k_ hk _ => by rw [hw]; exact Below.heap_setCell _ _ _ _ (hk.2))); clear hw; clear BK107; clear BK106; clear HB; clear HO_7; have BK107 := m0_; have BK106 := m1_; have HB := mb_; have HO_7 := mo_; clear mb_ mo_ m0_ m1_; clear hcz13b_0; clear hcz13b_1; clear hcz13b_2; clear hcz13b_3; clear hcz13b_4; clear hcz13b_5; clear hcz13b_6; clear hfz13b_0; clear hfz13b_1; clear hfz13b_2; clear hfz13b_3; clear hfz13b_4; clear hfz13b_5; clear hfz13b_6; have hcz13c_0 : w11c.cell? ⟨gb107, 0, none⟩ = some (.int .i64 x8_1) := (blk_cell BK107.out 0).trans rfl; have hcz13c_1 : w11c.cell? ⟨gb107, 1, none⟩ = some (.int .i64 x8_1) := (blk_cell BK107.out 1).trans rfl; have hcz13c_2 : w11c.cell? ⟨gb107, 2, none⟩ = some (.float .f64 a0_2) := (blk_cell BK107.out 2).trans rfl; have hcz13c_3 : w11c.cell? ⟨gb107, 3, none⟩ = some (.bool a0_3) := (blk_cell BK107.out 3).trans rfl; have hcz13c_4 : w11c.cell? ⟨gb107, 4, none⟩ = some (.int .i64 a0_4) := (blk_cell BK107.out 4).trans rfl; have hcz13c_5 : w11c.cell? ⟨gb107, 5, none⟩ = some (.int .i64 a0_5) := (blk_cell BK107.out 5).trans rfl; have hcz13c_6 : w11c.cell? ⟨gb107, 6, none⟩ = some (.bool a0_6) := (blk_cell BK107.out 6).trans rfl; have hfz13c_0 := blk_frozen BK107.out 0; have hfz13c_1 := blk_frozen BK107.out 1; have hfz13c_2 := blk_frozen BK107.out 2; have hfz13c_3 := blk_frozen BK107.out 3; have hfz13c_4 := blk_frozen BK107.out 4; have hfz13c_5 := blk_frozen BK107.out 5; have hfz13c_6 := blk_frozen BK107.out 6) | ((with_reducible refine gate_builtin (b := .append) (xs := #[.tmp 32, .tmp 34]) rfl ?_); at_builtin; refine Kd.R_append k103 (w0 := w) w.heap.size rfl (.tmp 32) (.tmp 34) 71 103 (.agg #[(.int .i64 0), (.int .i64 0), (.float .f64 0), (.bool false), (.int .i64 0), (.int .i64 0), (.bool false)]) 56 rfl Try.underlying71 info103 rfl (by decide) (by omega) u7 x7_1 (⟨x8_1, x8_1, a0_2, a0_3, a0_4, a0_5, a0_6⟩ : S103) [.int .i64 x8_1, .int .i64 x8_1, .float .f64 a0_2, .bool a0_3, .int .i64 a0_4, .int .i64 a0_5, .bool a0_6] (fun k_ => k_ ≠ gb106 ∧ k_ ≠ gb107) (fun _ => False) rfl (by first | (go_simp; done) | (go_simp; rfl)) ?aP (fun _ hk => hk.elim) ?aF ?aO ?aB ?aS ?aL ?_; (case aP => exact k103_mkM _ _ _ (⟨x8_1, x8_1, a0_2, a0_3, a0_4, a0_5, a0_6⟩ : S103)); (case aB => exact (by repeat (first | (with_reducible first | exact HB.out | apply below_alloc | apply pw_below_drewN | apply below_drew1) | exact HB.out))); (case aF => exact (fun k_ hk => ⟨Kd.freshB BK106.out k_ hk, Kd.freshB BK107.out k_ hk⟩)); (case aO => exact (by (with_reducible repeat (first | apply Kd.R_alloc | apply Kd.R_drewN | apply Kd.R_drew)); exact Kd.R_mono HO_7.out (fun _ hk => ⟨hk.1, hk.2⟩))); (case aS => exact (below_size (by repeat (first | (with_reducible first | exact HB.out | apply below_alloc | apply pw_below_drewN | apply below_drew1) | exact HB.out)))); (case aL => have := LMc9.out; omega); intro v109 w14 ho hb hg hat; rw [← Ny108.out] at ho; have n0_ := Aside0.mk (blk_grown BK106.out hg (Kd.R_away HO_7.out (fun _ hk => hk.1))); have n1_ := Aside0.mk (blk_grown BK107.out hg (Kd.R_away HO_7.out (fun _ hk => hk.2))); have n2_ := Aside0.mk (hb); have n3_ := Aside0.mk (ho); clear BK106; clear BK107; clear HB; clear HO_7; have BK106 := n0_; have BK107 := n1_; have HB := n2_; have HO110 := n3_; clear n0_ n1_ n2_ n3_; clear ho hb hg hat))
          go_roundg k1
          case measure => have := HK1.out; omega
          case rel => exact ⟨(y108), (wrap64 (x8_1 + 1)), (by first | rfl | (simp; done) | (simp [*]; done)), H', ⟨by have := HK1.out; omega⟩, ⟨by (with_reducible repeat (first | apply Kd.R_alloc | apply Kd.R_drewN | apply Kd.R_drew)); exact Kd.R_mono HO110.out (fun _ hk => hk.1)⟩, ⟨by (with_reducible repeat (first | refine blk_drewN ?_ _ | refine blk_drew ?_ | refine blk_alloc ?_ _)); exact BK106.out⟩, ⟨by repeat (first | (with_reducible first | exact HB.out | apply below_alloc | apply pw_below_drewN | apply below_drew1 | refine below_set ?_ GE106.out | refine below_set ?_ GE107.out) | exact HB.out)⟩⟩
        · rw [if_neg c9] at H
          exact absurd H (by simp)
      · rw [if_neg c8] at H
        have c8b0 : decide (x8_1 ≤ (ji7)) = false := decide_eq_false c8
        clear c8
        have H' := Aside0.mk H
        clear H
        have hcz15_0 : wr.cell? ⟨gb106, 0, none⟩ = some (.int .i64 a0_0) := (blk_cell BK106.out 0).trans rfl
        have hcz15_1 : wr.cell? ⟨gb106, 1, none⟩ = some (.int .i64 a0_1) := (blk_cell BK106.out 1).trans rfl
        have hcz15_2 : wr.cell? ⟨gb106, 2, none⟩ = some (.float .f64 a0_2) := (blk_cell BK106.out 2).trans rfl
        have hcz15_3 : wr.cell? ⟨gb106, 3, none⟩ = some (.bool a0_3) := (blk_cell BK106.out 3).trans rfl
        have hcz15_4 : wr.cell? ⟨gb106, 4, none⟩ = some (.int .i64 a0_4) := (blk_cell BK106.out 4).trans rfl
        have hcz15_5 : wr.cell? ⟨gb106, 5, none⟩ = some (.int .i64 a0_5) := (blk_cell BK106.out 5).trans rfl
        have hcz15_6 : wr.cell? ⟨gb106, 6, none⟩ = some (.bool a0_6) := (blk_cell BK106.out 6).trans rfl
        have hfz15_0 := blk_frozen BK106.out 0
        have hfz15_1 := blk_frozen BK106.out 1
        have hfz15_2 := blk_frozen BK106.out 2
        have hfz15_3 := blk_frozen BK106.out 3
        have hfz15_4 := blk_frozen BK106.out 4
        have hfz15_5 := blk_frozen BK106.out 5
        have hfz15_6 := blk_frozen BK106.out 6
        go_wp2
        go_loopg [7, 38] k1 (fun kq v7 v38 w' => ∃ (x7_2 : List (S103)) (x38_2 : Int) (x107000_2 : Int) (x107001_2 : Int) (x107002_2 : Nat) (x107003_2 : Bool) (x107004_2 : Int) (x107005_2 : Int) (x107006_2 : Bool), v38 = .int .i64 x38_2 ∧ Aside0 (excelize_flatCols.l1 kq x7_2 l1 (l1.length : Int) x38_2 = some r) ∧ Aside0 (kq ≤ k1) ∧ Aside0 (Kd.R k103 103 w' w.heap.size (fun k_ => k_ ≠ gb106) v7 x7_2) ∧ Aside0 (w'.heap[gb106]? = some (.cells #[.int .i64 x107000_2, .int .i64 x107001_2, .float .f64 x107002_2, .bool x107003_2, .int .i64 x107004_2, .int .i64 x107005_2, .bool x107006_2] 103 (0, 0))) ∧ Aside0 (Below w.heap.size w w'))
        case atStart => exact ⟨(x7_1), (0), (a0_0), (a0_1), (a0_2), (a0_3), (a0_4), (a0_5), (a0_6), (by first | rfl | (simp; done) | (simp [*]; done)), H', ⟨Nat.le_refl _⟩, ⟨by (with_reducible repeat (first | apply Kd.R_alloc | apply Kd.R_drewN | apply Kd.R_drew)); exact HO_7.out⟩, ⟨by (with_reducible repeat (first | refine blk_drewN ?_ _ | refine blk_drew ?_ | refine blk_alloc ?_ _)); exact BK106.out⟩, ⟨by repeat (first | (with_reducible first | exact HB.out | apply below_alloc | apply pw_below_drewN | apply below_drew1 | refine below_set ?_ GE106.out) | exact HB.out)⟩⟩
        case round =>
          clear H'
          try clear c1
          try clear p2
          try clear c4
          try clear p6
          try clear c8
          try clear c8b0
          try clear c9
          try clear c12
          try clear hcz10_0
          try clear hcz10_1
          try clear hcz10_2
          try clear hcz10_3
          try clear hcz10_4
          try clear hcz10_5
          try clear hcz10_6
          try clear hcz13_0
          try clear hcz13_1
          try clear hcz13_2
          try clear hcz13_3
          try clear hcz13_4
          try clear hcz13_5
          try clear hcz13_6
          try clear hcz15_0
          try clear hcz15_1
          try clear hcz15_2
          try clear hcz15_3
          try clear hcz15_4
          try clear hcz15_5
          try clear hcz15_6
          try clear hcz6_0
          try clear hcz6_1
          try clear hcz6_2
          try clear hcz6_3
          try clear hcz6_4
          try clear hcz6_5
          try clear hcz6_6
          try clear hfz10_0
          try clear hfz10_1
          try clear hfz10_2
          try clear hfz10_3
          try clear hfz10_4
          try clear hfz10_5
          try clear hfz10_6
          try clear hfz13_0
          try clear hfz13_1
          try clear hfz13_2
          try clear hfz13_3
          try clear hfz13_4
          try clear hfz13_5
          try clear hfz13_6
          try clear hfz15_0
          try clear hfz15_1
          try clear hfz15_2
          try clear hfz15_3
          try clear hfz15_4
          try clear hfz15_5
          try clear hfz15_6
          try clear hfz6_0
          try clear hfz6_1
          try clear hfz6_2
          try clear hfz6_3
          try clear hfz6_4
          try clear hfz6_5
          try clear hfz6_6
          try clear p2
          obtain ⟨x7_2, x38_2, x107000_2, x107001_2, x107002_2, x107003_2, x107004_2, x107005_2, x107006_2, rfl, HA, HK2, HO_7, BK106, HB⟩ := hrel
          cases gk with
          | zero => exact absurd HA.out (by simp [excelize_flatCols.l1])
          | succ k2 =>
            have H := HA.out
            clear HA
            simp only [excelize_flatCols.l1] at H
            by_cases c16 : x38_2 < (l1.length : Int)
            · rw [if_pos c16] at H
              have c16b0 : decide (x38_2 < (l1.length : Int)) = true := decide_eq_true c16
              clear c16
              by_cases c17 : 0 ≤ x38_2
              · rw [if_pos c17] at H
                have c17b0 : decide (0 ≤ x38_2) = true := decide_eq_true c17
                clear c17
                by_cases c18 : x38_2 < (l1.length : Int)
                · rw [if_pos c18] at H
                  exfalso
                  have h1_ := of_decide_eq_true c17b0
                  have h2_ := of_decide_eq_true c16b0
                  rw [HNIL.out] at h2_
                  simp at h2_
                  omega
                · rw [if_neg c18] at H
                  exact absurd H (by simp)
              · rw [if_neg c17] at H
                exact absurd H (by simp)
            · rw [if_neg c16] at H
              have c16b0 : decide (x38_2 < (l1.length : Int)) = false := decide_eq_false c16
              clear c16
              obtain rfl := Option.some.inj H
              go_wp2
              go_ret
              exact ⟨_, by first | rfl | (simp [errW_none, errW_some] <;> rfl) | (simp only [← hji4, ← hji7]; first | rfl | (simp [errW_none, errW_some] <;> rfl)) | (simp [*, errW_none, errW_some] <;> rfl), by (with_reducible repeat (first | apply Kd.R_alloc | apply Kd.R_drewN | apply Kd.R_drew)); exact Kd.R_mono HO_7.out (fun _ hk => trivial), by repeat (first | (with_reducible first | exact HB.out | apply below_alloc | apply pw_below_drewN | apply below_drew1 | refine below_set ?_ GE106.out) | exact HB.out)⟩

end Go.Proofs.Ytjefbpfpobgmaaa.PLv
