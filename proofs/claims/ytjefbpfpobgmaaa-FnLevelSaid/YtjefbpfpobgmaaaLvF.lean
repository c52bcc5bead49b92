/- The package's flatCols (with setColOutlineLevel's replacer): the call ends in what the printed plain function says. Turned, by a program of this session, from a printed proof. No conditions. -/
import Derived.Test.YtjefbpfpobgmaaaPLvx3
namespace Go.Proofs.Ytjefbpfpobgmaaa.PLv
open Go.RowKit Go.Proofs.YtjefbpfpobgmaaaW.PrintWords Go.Proofs.YtjefbpfpobgmaaaW.PrintLast Go.Proofs.YtjefbpfpobgmaaaW.PrintMore
attribute [local go_sem] Go.Proofs.Ytjefbpfpobgmaaa.Flt.run_store_float max2_int min2_int max_two min_two max_three min_three max_four min_four
set_option linter.unusedVariables false
set_option linter.unusedSimpArgs false
set_option maxHeartbeats 8000000 in
set_option maxRecDepth 100000 in
theorem excelize_flatCols.calls (k : Nat) (a0_0 : Int) (a0_1 : Int) (a0_2 : Nat) (a0_3 : Bool) (a0_4 : Int) (a0_5 : Int) (a0_6 : Bool) (A1 : Option Addr) (c1 : Nat) (l1 : List (S103)) (a2 : Unit) (r : List (S103)) (w : World) (hr1 : Kd.C k103 w A1 l1.length l1) (hc1 : l1.length ≤ c1) (h : excelize_flatCols.f k a0_0 a0_1 a0_2 a0_3 a0_4 a0_5 a0_6 l1 a2 = some r) :
    Calls Try.prog 44 #[.agg #[.int .i64 a0_0, .int .i64 a0_1, .float .f64 a0_2, .bool a0_3, .int .i64 a0_4, .int .i64 a0_5, .bool a0_6], .slice A1 l1.length c1, .func (.func 45) #[] #[]] w fun e w' => ∃ v0_ : Value, e = .returned (v0_) ∧ Kd.R k103 103 w' w.heap.size (fun _ => True) v0_ r ∧ Below w.heap.size w w' := by
  have hu103 := Try.underlying103
  have HR1 := Aside0.mk hr1
  have HC1 := Aside0.mk hc1
  clear hr1 hc1
  have HB := Aside0.mk (Below.refl w.heap.size w)
  have H : (excelize_flatCols.l0 k l1 ([] : List (S103)) (mx 1 a0_0) a0_0 a0_1 a0_2 a0_3 a0_4 a0_5 a0_6) = some r := h
  clear h
  obtain ⟨ji4, hji4⟩ : ∃ j_ : Int, (mx 1 a0_0) = j_ := ⟨_, rfl⟩
  replace H : (excelize_flatCols.l0 k l1 ([] : List (S103)) ji4 a0_0 a0_1 a0_2 a0_3 a0_4 a0_5 a0_6) = some r := by first | (rw [hji4] at H; exact H) | (simp only [hji4] at H ⊢; exact H)
  (try (have hji4l : 1 ≤ ji4 := by (rw [← hji4]; unfold mx; (repeat' split) <;> omega)))
  (try (have hji4m : 0 ≤ ji4 := by omega))
  have hji4_ : (if 1 < a0_0 then a0_0 else 1) = ji4 := hji4
  have H' := Aside0.mk H
  clear H
  go_enter Try.func44, Try.ntmps44
  go_wp2_with (first | ((with_reducible refine gate_dst (N := 3) rfl ?_); refine box_event ?hg (N := 3) ?hd (cs := #[.int .i64 a0_0, .int .i64 a0_1, .float .f64 a0_2, .bool a0_3, .int .i64 a0_4, .int .i64 a0_5, .bool a0_6]) (t := 103) ?hr ?_; (case hd => rfl); (case hg => rfl); (case hr => first | (go_simp; done) | (go_simp; rfl)); intro gb106 hg w5 hbox hb; have n0_ := Aside0.mk (below_step (by repeat (first | (with_reducible first | exact HB.out | apply below_alloc | apply pw_below_drewN | apply below_drew1) | exact HB.out)) hb); have n1_ := Aside0.mk (hbox); have n2_ := Aside0.mk ((by rw [hg]; exact (below_size (by repeat (first | (with_reducible first | exact HB.out | apply below_alloc | apply pw_below_drewN | apply below_drew1) | exact HB.out))) : w.heap.size ≤ gb106)); have n3_ := Aside0.mk ((by rw [hg]; exact (below_size (by repeat (first | (with_reducible first | exact HB.out | apply below_alloc | apply pw_below_drewN | apply below_drew1) | exact HB.out))) : w.heap.size ≤ gb106)); clear HB; have HB := n0_; have BK106 := n1_; have GW106 := n2_; have GE106 := n3_; clear n0_ n1_ n2_ n3_; clear hb hbox hg; have hcz6_0 : w5.cell? ⟨gb106, 0, none⟩ = some (.int .i64 a0_0) := (blk_cell BK106.out 0).trans rfl; have hcz6_1 : w5.cell? ⟨gb106, 1, none⟩ = some (.int .i64 a0_1) := (blk_cell BK106.out 1).trans rfl; have hcz6_2 : w5.cell? ⟨gb106, 2, none⟩ = some (.float .f64 a0_2) := (blk_cell BK106.out 2).trans rfl; have hcz6_3 : w5.cell? ⟨gb106, 3, none⟩ = some (.bool a0_3) := (blk_cell BK106.out 3).trans rfl; have hcz6_4 : w5.cell? ⟨gb106, 4, none⟩ = some (.int .i64 a0_4) := (blk_cell BK106.out 4).trans rfl; have hcz6_5 : w5.cell? ⟨gb106, 5, none⟩ = some (.int .i64 a0_5) := (blk_cell BK106.out 5).trans rfl; have hcz6_6 : w5.cell? ⟨gb106, 6, none⟩ = some (.bool a0_6) := (blk_cell BK106.out 6).trans rfl; have hfz6_0 := blk_frozen BK106.out 0; have hfz6_1 := blk_frozen BK106.out 1; have hfz6_2 := blk_frozen BK106.out 2; have hfz6_3 := blk_frozen BK106.out 3; have hfz6_4 := blk_frozen BK106.out 4; have hfz6_5 := blk_frozen BK106.out 5; have hfz6_6 := blk_frozen BK106.out 6))
  go_loopg [7, 8] k (fun kq v7 v8 w' => ∃ (x7_1 : List (S103)) (x8_1 : Int), v8 = .int .i64 x8_1 ∧ Aside0 (excelize_flatCols.l0 kq l1 x7_1 x8_1 a0_0 a0_1 a0_2 a0_3 a0_4 a0_5 a0_6 = some r) ∧ Aside0 (kq ≤ k) ∧ Aside0 (Kd.R k103 103 w' w.heap.size (fun k_ => k_ ≠ gb106) v7 x7_1) ∧ Aside0 (w'.heap[gb106]? = some (.cells #[.int .i64 a0_0, .int .i64 a0_1, .float .f64 a0_2, .bool a0_3, .int .i64 a0_4, .int .i64 a0_5, .bool a0_6] 103 (0, 0))) ∧ Aside0 (Below w.heap.size w w'))
  case atStart => exact ⟨(([] : List (S103))), (ji4), (by first | rfl | (simp; done) | (simp only [← hji4] <;> (first | rfl | simp)) | (simp [*]; done)), H', ⟨Nat.le_refl _⟩, ⟨by first | exact Kd.R_nil _ _ _ _ _ | exact Kd.N_nil _ _ _ _ _ | exact Kd.V_nil _ _ _ _ _ | exact Kd.Q_nil _ _ _ _ _ | exact Kd.S_nil _ _ _ _ _⟩, ⟨by (with_reducible repeat (first | refine blk_drewN ?_ _ | refine blk_drew ?_ | refine blk_alloc ?_ _)); exact BK106.out⟩, ⟨by repeat (first | (with_reducible first | exact HB.out | apply below_alloc | apply pw_below_drewN | apply below_drew1 | refine below_set ?_ GE106.out) | exact HB.out)⟩⟩
  case round =>
    clear H'
    try clear c1
    try clear p2
    try clear c4
    try clear hcz6_0
    try clear hcz6_1
    try clear hcz6_2
    try clear hcz6_3
    try clear hcz6_4
    try clear hcz6_5
    try clear hcz6_6
    try clear hfz6_0
    try clear hfz6_1
    try clear hfz6_2
    try clear hfz6_3
    try clear hfz6_4
    try clear hfz6_5
    try clear hfz6_6
    obtain ⟨x7_1, x8_1, rfl, HA, HK1, HO_7, BK106, HB⟩ := hrel
    cases gk with
    | zero => exact absurd HA.out (by simp [excelize_flatCols.l0])
    | succ k1 =>
      have H := HA.out
      clear HA
      simp only [excelize_flatCols.l0] at H
      obtain ⟨ji7, hji7⟩ : ∃ j_ : Int, (mn 16384 a0_1) = j_ := ⟨_, rfl⟩
      replace H : (if x8_1 ≤ (ji7) then (if x7_1.length < 2513169434916 then (excelize_flatCols.l0 k1 l1 (x7_1 ++ [(⟨x8_1, x8_1, a0_2, a0_3, a0_4, a0_5, a0_6⟩ : S103)]) (wrap64 (x8_1 + 1)) a0_0 a0_1 a0_2 a0_3 a0_4 a0_5 a0_6) else (none)) else (excelize_flatCols.l1 k1 x7_1 l1 (l1.length : Int) 0)) = some r := by first | (rw [hji7] at H; exact H) | (simp only [hji7] at H ⊢; exact H)
      have hji7_ : (if a0_1 < 16384 then a0_1 else 16384) = ji7 := hji7
      by_cases c8 : x8_1 ≤ (ji7)
      · rw [if_pos c8] at H
        have c8b0 : decide (x8_1 ≤ (ji7)) = true := decide_eq_true c8
        clear c8
        by_cases c9 : x7_1.length < 2513169434916
        · rw [if_pos c9] at H
          have LMc9 := Aside0.mk c9
          clear c9
          obtain ⟨y108, hy108⟩ : ∃ y_ : List (S103), y_ = (x7_1 ++ [(⟨x8_1, x8_1, a0_2, a0_3, a0_4, a0_5, a0_6⟩ : S103)]) := ⟨_, rfl⟩
          replace H : (excelize_flatCols.l0 k1 l1 y108 (wrap64 (x8_1 + 1)) a0_0 a0_1 a0_2 a0_3 a0_4 a0_5 a0_6) = some r := by first | (rw [hy108]; with_reducible exact H) | (have H2_ := (Option.bind_some _ _).symm.trans H; rw [hy108]; with_reducible exact H2_) | (have H2_ := (Option.bind_some _ _).symm.trans H; with_reducible exact H2_) | with_reducible exact H | (rw [hy108]; exact H) | exact H
          have Ny108 := Aside0.mk hy108
          clear hy108
          have H' := Aside0.mk H
          clear H
          have hcz10_0 : wr.cell? ⟨gb106, 0, none⟩ = some (.int .i64 a0_0) := (blk_cell BK106.out 0).trans rfl
          have hcz10_1 : wr.cell? ⟨gb106, 1, none⟩ = some (.int .i64 a0_1) := (blk_cell BK106.out 1).trans rfl
          have hcz10_2 : wr.cell? ⟨gb106, 2, none⟩ = some (.float .f64 a0_2) := (blk_cell BK106.out 2).trans rfl
          have hcz10_3 : wr.cell? ⟨gb106, 3, none⟩ = some (.bool a0_3) := (blk_cell BK106.out 3).trans rfl
          have hcz10_4 : wr.cell? ⟨gb106, 4, none⟩ = some (.int .i64 a0_4) := (blk_cell BK106.out 4).trans rfl
          have hcz10_5 : wr.cell? ⟨gb106, 5, none⟩ = some (.int .i64 a0_5) := (blk_cell BK106.out 5).trans rfl
          have hcz10_6 : wr.cell? ⟨gb106, 6, none⟩ = some (.bool a0_6) := (blk_cell BK106.out 6).trans rfl
          have hfz10_0 := blk_frozen BK106.out 0
          have hfz10_1 := blk_frozen BK106.out 1
          have hfz10_2 := blk_frozen BK106.out 2
          have hfz10_3 := blk_frozen BK106.out 3
          have hfz10_4 := blk_frozen BK106.out 4
          have hfz10_5 := blk_frozen BK106.out 5
          have hfz10_6 := blk_frozen BK106.out 6
          go_wp2_with (first | ((with_reducible refine gate_dst (N := 9) rfl ?_); refine box_event ?hg (N := 9) ?hd (cs := #[.int .i64 0, .int .i64 0, .float .f64 0, .bool false, .int .i64 0, .int .i64 0, .bool false]) (t := 103) ?hr ?_; (case hd => rfl); (case hg => rfl); (case hr => first | (go_simp; done) | (go_simp; rfl)); intro gb107 hg w11 hbox hb; have n0_ := Aside0.mk (Kd.R_below (Kd.R_elderB (by (with_reducible repeat (first | apply Kd.R_alloc | apply Kd.R_drewN | apply Kd.R_drew)); exact HO_7.out) gb107 (Nat.le_of_eq hg.symm)) hb); have n1_ := Aside0.mk (blk_below (g := gb106) (o := .cells #[.int .i64 a0_0, .int .i64 a0_1, .float .f64 a0_2, .bool a0_3, .int .i64 a0_4, .int .i64 a0_5, .bool a0_6] 103 (0, 0)) (by (with_reducible repeat (first | refine blk_drewN ?_ _ | refine blk_drew ?_ | refine blk_alloc ?_ _)); exact BK106.out) hb); have n2_ := Aside0.mk (below_step (by repeat (first | (with_reducible first | exact HB.out | apply below_alloc | apply pw_below_drewN | apply below_drew1 | refine below_set ?_ GE106.out) | exact HB.out)) hb); have n3_ := Aside0.mk (hbox); have n4_ := Aside0.mk ((by rw [hg]; exact (below_size (by repeat (first | (with_reducible first | exact HB.out | apply below_alloc | apply pw_below_drewN | apply below_drew1 | refine below_set ?_ GE106.out) | exact HB.out))) : w.heap.size ≤ gb107)); have n5_ := Aside0.mk ((by rw [hg]; exact (below_size (by repeat (first | (with_reducible first | exact HB.out | apply below_alloc | apply pw_below_drewN | apply below_drew1 | refine below_set ?_ GE106.out) | exact HB.out))) : w.heap.size ≤ gb107)); have n6_ := Aside0.mk ((by rw [hg]; exact Nat.ne_of_lt (blk_lt (g := gb106) (o := .cells #[.int .i64 a0_0, .int .i64 a0_1, .float .f64 a0_2, .bool a0_3, .int .i64 a0_4, .int .i64 a0_5, .bool a0_6] 103 (0, 0)) (by (with_reducible repeat (first | refine blk_drewN ?_ _ | refine blk_drew ?_ | refine blk_alloc ?_ _)); exact BK106.out)) : gb106 ≠ gb107)); have n7_ := Aside0.mk ((by rw [hg]; exact Nat.ne_of_gt (blk_lt (g := gb106) (o := .cells #[.int .i64 a0_0, .int .i64 a0_1, .float .f64 a0_2, .bool a0_3, .int .i64 a0_4, .int .i64 a0_5, .bool a0_6] 103 (0, 0)) (by (with_reducible repeat (first | refine blk_drewN ?_ _ | refine blk_drew ?_ | refine blk_alloc ?_ _)); exact BK106.out)) : gb107 ≠ gb106)); clear HO_7; clear BK106; clear HB; have HO_7 := n0_; have BK106 := n1_; have HB := n2_; have BK107 := n3_; have GW107 := n4_; have GE107 := n5_; have NB106_107 := n6_; have NB107_106 := n7_; clear n0_ n1_ n2_ n3_ n4_ n5_ n6_ n7_; clear hb hbox hg; have hnb12 := NB107_106.out; have hnc12 := NB106_107.out; have hcz13_0 : w11.cell? ⟨gb107, 0, none⟩ = some (.int .i64 0) := (blk_cell BK107.out 0).trans rfl; have hcz13_1 : w11.cell? ⟨gb107, 1, none⟩ = some (.int .i64 0) := (blk_cell BK107.out 1).trans rfl; have hcz13_2 : w11.cell? ⟨gb107, 2, none⟩ = some (.float .f64 0) := (blk_cell BK107.out 2).trans rfl; have hcz13_3 : w11.cell? ⟨gb107, 3, none⟩ = some (.bool false) := (blk_cell BK107.out 3).trans rfl; have hcz13_4 : w11.cell? ⟨gb107, 4, none⟩ = some (.int .i64 0) := (blk_cell BK107.out 4).trans rfl; have hcz13_5 : w11.cell? ⟨gb107, 5, none⟩ = some (.int .i64 0) := (blk_cell BK107.out 5).trans rfl; have hcz13_6 : w11.cell? ⟨gb107, 6, none⟩ = some (.bool false) := (blk_cell BK107.out 6).trans rfl; have hfz13_0 := blk_frozen BK107.out 0; have hfz13_1 := blk_frozen BK107.out 1; have hfz13_2 := blk_frozen BK107.out 2; have hfz13_3 := blk_frozen BK107.out 3; have hfz13_4 := blk_frozen BK107.out 4; have hfz13_5 := blk_frozen BK107.out 5; have hfz13_6 := blk_frozen BK107.out 6) | ((with_reducible refine gate_store (t := 103) (p := 9) rfl ?_); refine store_event (t := 103) (p := 9) (v := ?vo_w11a) (w1 := Flt.sets w11 gb107 0 [.int .i64 a0_0, .int .i64 a0_1, .float .f64 a0_2, .bool a0_3, .int .i64 a0_4, .int .i64 a0_5, .bool a0_6]) ?hg ?ho ?hn ?hr ?_; (case ho => rfl); (case hg => rfl); (case hn => rfl); (case hr => first | (go_simp; done) | (go_simp; rfl)); intro w11a hw; have m0_ := Aside0.mk (show w11a.heap[gb107]? = some (.cells #[.int .i64 a0_0, .int .i64 a0_1, .float .f64 a0_2, .bool a0_3, .int .i64 a0_4, .int .i64 a0_5, .bool a0_6] 103 (0, 0)) by rw [hw]; exact Flt.sets_all [.int .i64 a0_0, .int .i64 a0_1, .float .f64 a0_2, .bool a0_3, .int .i64 a0_4, .int .i64 a0_5, .bool a0_6] BK107.out rfl); have m1_ := Aside0.mk (show w11a.heap[gb106]? = some (.cells #[.int .i64 a0_0, .int .i64 a0_1, .float .f64 a0_2, .bool a0_3, .int .i64 a0_4, .int .i64 a0_5, .bool a0_6] 103 (0, 0)) by rw [hw]; exact (Flt.sets_far NB106_107.out _ _ _).trans BK106.out); have mb_ := Aside0.mk (show Below w.heap.size w w11a by rw [hw]; exact Flt.sets_below GE107.out _ _ _ HB.out); have mo_ := Aside0.mk (Kd.R_step HO_7.out (w1 := w11a) (fun k_ hk _ => by rw [hw]; exact Flt.sets_far hk.2 _ _ _)); clear hw; clear BK107; clear BK106; clear HB; clear HO_7; have BK107 := m0_; have BK106 := m1_; have HB := mb_; have HO_7 := mo_; clear mb_ mo_ m0_ m1_; clear hcz13_0; clear hcz13_1; clear hcz13_2; clear hcz13_3; clear hcz13_4; clear hcz13_5; clear hcz13_6; clear hfz13_0; clear hfz13_1; clear hfz13_2; clear hfz13_3; clear hfz13_4; clear hfz13_5; clear hfz13_6; have hcz13a_0 : w11a.cell? ⟨gb107, 0, none⟩ = some (.int .i64 a0_0) := (blk_cell BK107.out 0).trans rfl; have hcz13a_1 : w11a.cell? ⟨gb107, 1, none⟩ = some (.int .i64 a0_1) := (blk_cell BK107.out 1).trans rfl; have hcz13a_2 : w11a.cell? ⟨gb107, 2, none⟩ = some (.float .f64 a0_2) := (blk_cell BK107.out 2).trans rfl; have hcz13a_3 : w11a.cell? ⟨gb107, 3, none⟩ = some (.bool a0_3) := (blk_cell BK107.out 3).trans rfl; have hcz13a_4 : w11a.cell? ⟨gb107, 4, none⟩ = some (.int .i64 a0_4) := (blk_cell BK107.out 4).trans rfl; have hcz13a_5 : w11a.cell? ⟨gb107, 5, none⟩ = some (.int .i64 a0_5) := (blk_cell BK107.out 5).trans rfl; have hcz13a_6 : w11a.cell? ⟨gb107, 6, none⟩ = some (.bool a0_6) := (blk_cell BK107.out 6).trans rfl; have hfz13a_0 := blk_frozen BK107.out 0; have hfz13a_1 := blk_frozen BK107.out 1; have hfz13a_2 := blk_frozen BK107.out 2; have hfz13a_3 := blk_frozen BK107.out 3; have hfz13a_4 := blk_frozen BK107.out 4; have hfz13a_5 := blk_frozen BK107.out 5; have hfz13a_6 := blk_frozen BK107.out 6) | ((with_reducible refine gate_store (t := 3) (p := 30) rfl ?_); refine store_event (t := 3) (p := 30) (v := ?vo_w11b) (w1 := w11a.setCell ⟨gb107, 0, none⟩ (.int .i64 x8_1)) ?hg ?ho ?hn ?hr ?_; (case ho => rfl); (case hg => rfl); (case hn => rfl); (case hr => first | (go_simp; done) | (go_simp; rfl)); intro w11b hw; have m0_ := Aside0.mk (show w11b.heap[gb107]? = some (.cells #[.int .i64 x8_1, .int .i64 a0_1, .float .f64 a0_2, .bool a0_3, .int .i64 a0_4, .int .i64 a0_5, .bool a0_6] 103 (0, 0)) by rw [hw]; exact blk_put BK107.out 0 _ rfl); have m1_ := Aside0.mk (show w11b.heap[gb106]? = some (.cells #[.int .i64 a0_0, .int .i64 a0_1, .float .f64 a0_2, .bool a0_3, .int .i64 a0_4, .int .i64 a0_5, .bool a0_6] 103 (0, 0)) by rw [hw]; exact (Below.heap_setCell _ _ _ _ (NB106_107.out)).trans BK106.out); have mb_ := Aside0.mk (show Below w.heap.size w w11b by rw [hw]; exact below_set HB.out GE107.out); have mo_ := Aside0.mk (Kd.R_step HO_7.out (w1 := w11b) (fun k_ hk _ => by rw [hw]; exact Below.heap_setCell _ _ _ _ (hk.2))); clear hw; clear BK107; clear BK106; clear HB; clear HO_7; have BK107 := m0_; have BK106 := m1_; have HB := mb_; have HO_7 := mo_; clear mb_ mo_ m0_ m1_; clear hcz13a_0; clear hcz13a_1; clear hcz13a_2; clear hcz13a_3; clear hcz13a_4; clear hcz13a_5; clear hcz13a_6; clear hfz13a_0; clear hfz13a_1; clear hfz13a_2; clear hfz13a_3; clear hfz13a_4; clear hfz13a_5; clear hfz13a_6; have hcz13b_0 : w11b.cell? ⟨gb107, 0, none⟩ = some (.int .i64 x8_1) := (blk_cell BK107.out 0).trans rfl; have hcz13b_1 : w11b.cell? ⟨gb107, 1, none⟩ = some (.int .i64 a0_1) := (blk_cell BK107.out 1).trans rfl; have hcz13b_2 : w11b.cell? ⟨gb107, 2, none⟩ = some (.float .f64 a0_2) := (blk_cell BK107.out 2).trans rfl; have hcz13b_3 : w11b.cell? ⟨gb107, 3, none⟩ = some (.bool a0_3) := (blk_cell BK107.out 3).trans rfl; have hcz13b_4 : w11b.cell? ⟨gb107, 4, none⟩ = some (.int .i64 a0_4) := (blk_cell BK107.out 4).trans rfl; have hcz13b_5 : w11b.cell? ⟨gb107, 5, none⟩ = some (.int .i64 a0_5) := (blk_cell BK107.out 5).trans rfl; have hcz13b_6 : w11b.cell? ⟨gb107, 6, none⟩ = some (.bool a0_6) := (blk_cell BK107.out 6).trans rfl; have hfz13b_0 := blk_frozen BK107.out 0; have hfz13b_1 := blk_frozen BK107.out 1; have hfz13b_2 := blk_frozen BK107.out 2; have hfz13b_3 := blk_frozen BK107.out 3; have hfz13b_4 := blk_frozen BK107.out 4; have hfz13b_5 := blk_frozen BK107.out 5; have hfz13b_6 := blk_frozen BK107.out 6) | ((with_reducible refine gate_store (t := 3) (p := 31) rfl ?_); refine store_event (t := 3) (p := 31) (v := ?vo_w11c) (w1 := w11b.setCell ⟨gb107, 1, none⟩ (.int .i64 x8_1)) ?hg ?ho ?hn ?hr ?_; (case ho => rfl); (case hg => rfl); (case hn => rfl); (case hr => first | (go_simp; done) | (go_simp; rfl)); intro w11c hw; have m0_ := Aside0.mk (show w11c.heap[gb107]? = some (.cells #[.int .i64 x8_1, .int .i64 x8_1, .float .f64 a0_2, .bool a0_3, .int .i64 a0_4, .int .i64 a0_5, .bool a0_6] 103 (0, 0)) by rw [hw]; exact blk_put BK107.out 1 _ rfl); have m1_ := Aside0.mk (show w11c.heap[gb106]? = some (.cells #[.int .i64 a0_0, .int .i64 a0_1, .float .f64 a0_2, .bool a0_3, .int .i64 a0_4, .int .i64 a0_5, .bool a0_6] 103 (0, 0)) by rw [hw]; exact (Below.heap_setCell _ _ _ _ (NB106_107.out)).trans BK106.out); have mb_ := Aside0.mk (show Below w.heap.size w w11c by rw [hw]; exact below_set HB.out GE107.out); have mo_ := Aside0.mk (Kd.R_step HO_7.out (w1 := w11c) (fun k_ hk _ => by rw [hw]; exact Below.heap_setCell _ _ _ _ (hk.2))); clear hw; clear BK107; clear BK106; clear HB; clear HO_7; have BK107 := m0_; have BK106 := m1_; have HB := mb_; have HO_7 := mo_; clear mb_ mo_ m0_ m1_; clear hcz13b_0; clear hcz13b_1; clear hcz13b_2; clear hcz13b_3; clear hcz13b_4; clear hcz13b_5; clear hcz13b_6; clear hfz13b_0; clear hfz13b_1; clear hfz13b_2; clear hfz13b_3; clear hfz13b_4; clear hfz13b_5; clear hfz13b_6; have hcz13c_0 : w11c.cell? ⟨gb107, 0, none⟩ = some (.int .i64 x8_1) := (blk_cell BK107.out 0).trans rfl; have hcz13c_1 : w11c.cell? ⟨gb107, 1, none⟩ = some (.int .i64 x8_1) := (blk_cell BK107.out 1).trans rfl; have hcz13c_2 : w11c.cell? ⟨gb107, 2, none⟩ = some (.float .f64 a0_2) := (blk_cell BK107.out 2).trans rfl; have hcz13c_3 : w11c.cell? ⟨gb107, 3, none⟩ = some (.bool a0_3) := (blk_cell BK107.out 3).trans rfl; have hcz13c_4 : w11c.cell? ⟨gb107, 4, none⟩ = some (.int .i64 a0_4) := (blk_cell BK107.out 4).trans rfl; have hcz13c_5 : w11c.cell? ⟨gb107, 5, none⟩ = some (.int .i64 a0_5) := (blk_cell BK107.out 5).trans rfl; have hcz13c_6 : w11c.cell? ⟨gb107, 6, none⟩ = some (.bool a0_6) := (blk_cell BK107.out 6).trans rfl; have hfz13c_0 := blk_frozen BK107.out 0; have hfz13c_1 := blk_frozen BK107.out 1; have hfz13c_2 := blk_frozen BK107.out 2; have hfz13c_3 := blk_frozen BK107.out 3; have hfz13c_4 := blk_frozen BK107.out 4; have hfz13c_5 := blk_frozen BK107.out 5; have hfz13c_6 := blk_frozen BK107.out 6) | ((with_reducible refine gate_builtin (b := .append) (xs := #[.tmp 32, .tmp 34]) rfl ?_); at_builtin; refine Kd.R_append k103 (w0 := w) w.heap.size rfl (.tmp 32) (.tmp 34) 71 103 (.agg #[(.int .i64 0), (.int .i64 0), (.float .f64 0), (.bool false), (.int .i64 0), (.int .i64 0), (.bool false)]) 56 rfl Try.underlying71 info103 rfl (by decide) (by omega) u7 x7_1 (⟨x8_1, x8_1, a0_2, a0_3, a0_4, a0_5, a0_6⟩ : S103) [.int .i64 x8_1, .int .i64 x8_1, .float .f64 a0_2, .bool a0_3, .int .i64 a0_4, .int .i64 a0_5, .bool a0_6] (fun k_ => k_ ≠ gb106 ∧ k_ ≠ gb107) (fun _ => False) rfl (by first | (go_simp; done) | (go_simp; rfl)) ?aP (fun _ hk => hk.elim) ?aF ?aO ?aB ?aS ?aL ?_; (case aP => exact k103_mkM _ _ _ (⟨x8_1, x8_1, a0_2, a0_3, a0_4, a0_5, a0_6⟩ : S103)); (case aB => exact (by repeat (first | (with_reducible first | exact HB.out | apply below_alloc | apply pw_below_drewN | apply below_drew1) | exact HB.out))); (case aF => exact (fun k_ hk => ⟨Kd.freshB BK106.out k_ hk, Kd.freshB BK107.out k_ hk⟩)); (case aO => exact (by (with_reducible repeat (first | apply Kd.R_alloc | apply Kd.R_drewN | apply Kd.R_drew)); exact Kd.R_mono HO_7.out (fun _ hk => ⟨hk.1, hk.2⟩))); (case aS => exact (below_size (by repeat (first | (with_reducible first | exact HB.out | apply below_alloc | apply pw_below_drewN | apply below_drew1) | exact HB.out)))); (case aL => have := LMc9.out; omega); intro v109 w14 ho hb hg hat; rw [← Ny108.out] at ho; have n0_ := Aside0.mk (blk_grown BK106.out hg (Kd.R_away HO_7.out (fun _ hk => hk.1))); have n1_ := Aside0.mk (blk_grown BK107.out hg (Kd.R_away HO_7.out (fun _ hk => hk.2))); have n2_ := Aside0.mk (hb); have n3_ := Aside0.mk (ho); clear BK106; clear BK107; clear HB; clear HO_7; have BK106 := n0_; have BK107 := n1_; have HB := n2_; have HO110 := n3_; clear n0_ n1_ n2_ n3_; clear ho hb hg hat))
          go_roundg k1
          case measure => have := HK1.out; omega
          case rel => exact ⟨(y108), (wrap64 (x8_1 + 1)), (by first | rfl | (simp; done) | (simp [*]; done)), H', ⟨by have := HK1.out; omega⟩, ⟨by (with_reducible repeat (first | apply Kd.R_alloc | apply Kd.R_drewN | apply Kd.R_drew)); exact Kd.R_mono HO110.out (fun _ hk => hk.1)⟩, ⟨by (with_reducible repeat (first | refine blk_drewN ?_ _ | refine blk_drew ?_ | refine blk_alloc ?_ _)); exact BK106.out⟩, ⟨by repeat (first | (with_reducible first | exact HB.out | apply below_alloc | apply pw_below_drewN | apply below_drew1 | refine below_set ?_ GE106.out | refine below_set ?_ GE107.out) | exact HB.out)⟩⟩
        · rw [if_neg c9] at H
          exact absurd H (by simp)
      · rw [if_neg c8] at H
        have c8b0 : decide (x8_1 ≤ (ji7)) = false := decide_eq_false c8
        clear c8
        have H' := Aside0.mk H
        clear H
        have hcz15_0 : wr.cell? ⟨gb106, 0, none⟩ = some (.int .i64 a0_0) := (blk_cell BK106.out 0).trans rfl
        have hcz15_1 : wr.cell? ⟨gb106, 1, none⟩ = some (.int .i64 a0_1) := (blk_cell BK106.out 1).trans rfl
        have hcz15_2 : wr.cell? ⟨gb106, 2, none⟩ = some (.float .f64 a0_2) := (blk_cell BK106.out 2).trans rfl
        have hcz15_3 : wr.cell? ⟨gb106, 3, none⟩ = some (.bool a0_3) := (blk_cell BK106.out 3).trans rfl
        have hcz15_4 : wr.cell? ⟨gb106, 4, none⟩ = some (.int .i64 a0_4) := (blk_cell BK106.out 4).trans rfl
        have hcz15_5 : wr.cell? ⟨gb106, 5, none⟩ = some (.int .i64 a0_5) := (blk_cell BK106.out 5).trans rfl
        have hcz15_6 : wr.cell? ⟨gb106, 6, none⟩ = some (.bool a0_6) := (blk_cell BK106.out 6).trans rfl
        have hfz15_0 := blk_frozen BK106.out 0
        have hfz15_1 := blk_frozen BK106.out 1
        have hfz15_2 := blk_frozen BK106.out 2
        have hfz15_3 := blk_frozen BK106.out 3
        have hfz15_4 := blk_frozen BK106.out 4
        have hfz15_5 := blk_frozen BK106.out 5
        have hfz15_6 := blk_frozen BK106.out 6
        go_wp2
        go_loopg [7, 38] k1 (fun kq v7 v38 w' => ∃ (x7_2 : List (S103)) (x38_2 : Int) (x107000_2 : Int) (x107001_2 : Int) (x107002_2 : Nat) (x107003_2 : Bool) (x107004_2 : Int) (x107005_2 : Int) (x107006_2 : Bool), v38 = .int .i64 x38_2 ∧ Aside0 (excelize_flatCols.l1 kq x7_2 l1 (l1.length : Int) x38_2 = some r) ∧ Aside0 (kq ≤ k1) ∧ Aside0 (Kd.R k103 103 w' w.heap.size (fun k_ => k_ ≠ gb106) v7 x7_2) ∧ Aside0 (w'.heap[gb106]? = some (.cells #[.int .i64 x107000_2, .int .i64 x107001_2, .float .f64 x107002_2, .bool x107003_2, .int .i64 x107004_2, .int .i64 x107005_2, .bool x107006_2] 103 (0, 0))) ∧ Aside0 (Below w.heap.size w w'))
        case atStart => exact ⟨(x7_1), (0), (a0_0), (a0_1), (a0_2), (a0_3), (a0_4), (a0_5), (a0_6), (by first | rfl | (simp; done) | (simp [*]; done)), H', ⟨Nat.le_refl _⟩, ⟨by (with_reducible repeat (first | apply Kd.R_alloc | apply Kd.R_drewN | apply Kd.R_drew)); exact HO_7.out⟩, ⟨by (with_reducible repeat (first | refine blk_drewN ?_ _ | refine blk_drew ?_ | refine blk_alloc ?_ _)); exact BK106.out⟩, ⟨by repeat (first | (with_reducible first | exact HB.out | apply below_alloc | apply pw_below_drewN | apply below_drew1 | refine below_set ?_ GE106.out) | exact HB.out)⟩⟩
        case round =>
          clear H'
          try clear c1
          try clear p2
          try clear c4
          try clear p6
          try clear c8
          try clear c8b0
          try clear c9
          try clear c12
          try clear hcz10_0
          try clear hcz10_1
          try clear hcz10_2
          try clear hcz10_3
          try clear hcz10_4
          try clear hcz10_5
          try clear hcz10_6
          try clear hcz13_0
          try clear hcz13_1
          try clear hcz13_2
          try clear hcz13_3
          try clear hcz13_4
          try clear hcz13_5
          try clear hcz13_6
          try clear hcz15_0
          try clear hcz15_1
          try clear hcz15_2
          try clear hcz15_3
          try clear hcz15_4
          try clear hcz15_5
          try clear hcz15_6
          try clear hcz6_0
          try clear hcz6_1
          try clear hcz6_2
          try clear hcz6_3
          try clear hcz6_4
          try clear hcz6_5
          try clear hcz6_6
          try clear hfz10_0
          try clear hfz10_1
          try clear hfz10_2
          try clear hfz10_3
          try clear hfz10_4
          try clear hfz10_5
          try clear hfz10_6
          try clear hfz13_0
          try clear hfz13_1
          try clear hfz13_2
          try clear hfz13_3
          try clear hfz13_4
          try clear hfz13_5
          try clear hfz13_6
          try clear hfz15_0
          try clear hfz15_1
          try clear hfz15_2
          try clear hfz15_3
          try clear hfz15_4
          try clear hfz15_5
          try clear hfz15_6
          try clear hfz6_0
          try clear hfz6_1
          try clear hfz6_2
          try clear hfz6_3
          try clear hfz6_4
          try clear hfz6_5
          try clear hfz6_6
          try clear p2
          obtain ⟨x7_2, x38_2, x107000_2, x107001_2, x107002_2, x107003_2, x107004_2, x107005_2, x107006_2, rfl, HA, HK2, HO_7, BK106, HB⟩ := hrel
          cases gk with
          | zero => exact absurd HA.out (by simp [excelize_flatCols.l1])
          | succ k2 =>
            have H := HA.out
            clear HA
            simp only [excelize_flatCols.l1] at H
            by_cases c16 : x38_2 < (l1.length : Int)
            · rw [if_pos c16] at H
              have c16b0 : decide (x38_2 < (l1.length : Int)) = true := decide_eq_true c16
              clear c16
              by_cases c17 : 0 ≤ x38_2
              · rw [if_pos c17] at H
                have c17b0 : decide (0 ≤ x38_2) = true := decide_eq_true c17
                clear c17
                by_cases c18 : x38_2 < (l1.length : Int)
                · rw [if_pos c18] at H
                  have c18b0 : decide (x38_2 < (l1.length : Int)) = true := decide_eq_true c18
                  clear c18
                  obtain ⟨ji19, hji19⟩ : ∃ j_ : Int, (mx 1 ((rd_T103 l1 x38_2).f0)) = j_ := ⟨_, rfl⟩
                  replace H : (excelize_flatCols.l2 k2 x7_2 ji19 l1 (l1.length : Int) x38_2 ((rd_T103 l1 x38_2).f0) ((rd_T103 l1 x38_2).f1) ((rd_T103 l1 x38_2).f2) ((rd_T103 l1 x38_2).f3) ((rd_T103 l1 x38_2).f4) ((rd_T103 l1 x38_2).f5) ((rd_T103 l1 x38_2).f6)) = some r := by first | (rw [hji19] at H; exact H) | (simp only [hji19] at H ⊢; exact H)
                  have hji19_ : (if 1 < ((rd_T103 l1 x38_2).f0) then ((rd_T103 l1 x38_2).f0) else 1) = ji19 := hji19
                  have H' := Aside0.mk H
                  clear H
                  have p111 : 0 ≤ (x38_2 : Int) := of_decide_eq_true (by first | (with_reducible assumption) | assumption)
                  have q111 : x38_2 < (l1.length : Int) := of_decide_eq_true (by first | (with_reducible assumption) | assumption)
                  obtain ⟨ad111, e111, hx111_0, hx111_1, hx111_2, hx111_3, hx111_4, hx111_5, hx111_6⟩ := at_T103 HR1.out x38_2 p111 q111
                  cases e111
                  replace hx111_0 := (HB.out.cell (World.block_lt_of_cell? w _ hx111_0)).trans hx111_0
                  replace hx111_1 := (HB.out.cell (World.block_lt_of_cell? w _ hx111_1)).trans hx111_1
                  replace hx111_2 := (HB.out.cell (World.block_lt_of_cell? w _ hx111_2)).trans hx111_2
                  replace hx111_3 := (HB.out.cell (World.block_lt_of_cell? w _ hx111_3)).trans hx111_3
                  replace hx111_4 := (HB.out.cell (World.block_lt_of_cell? w _ hx111_4)).trans hx111_4
                  replace hx111_5 := (HB.out.cell (World.block_lt_of_cell? w _ hx111_5)).trans hx111_5
                  replace hx111_6 := (HB.out.cell (World.block_lt_of_cell? w _ hx111_6)).trans hx111_6
                  replace p111 := eq_true p111
                  replace q111 := eq_true q111
                  go_wp2_with (first | ((with_reducible refine gate_dst (N := 12) rfl ?_); refine box_event ?hg (N := 12) ?hd (cs := #[.int .i64 0, .int .i64 0, .float .f64 0, .bool false, .int .i64 0, .int .i64 0, .bool false]) (t := 103) ?hr ?_; (case hd => rfl); (case hg => rfl); (case hr => first | (go_simp; done) | (go_simp; rfl)); intro gb112 hg w20 hbox hb; have n0_ := Aside0.mk (Kd.R_below (Kd.R_elderB (by (with_reducible repeat (first | apply Kd.R_alloc | apply Kd.R_drewN | apply Kd.R_drew)); exact HO_7.out) gb112 (Nat.le_of_eq hg.symm)) hb); have n1_ := Aside0.mk (blk_below (g := gb106) (o := .cells #[.int .i64 x107000_2, .int .i64 x107001_2, .float .f64 x107002_2, .bool x107003_2, .int .i64 x107004_2, .int .i64 x107005_2, .bool x107006_2] 103 (0, 0)) (by (with_reducible repeat (first | refine blk_drewN ?_ _ | refine blk_drew ?_ | refine blk_alloc ?_ _)); exact BK106.out) hb); have n2_ := Aside0.mk (below_step (by repeat (first | (with_reducible first | exact HB.out | apply below_alloc | apply pw_below_drewN | apply below_drew1 | refine below_set ?_ GE106.out) | exact HB.out)) hb); have n3_ := Aside0.mk (hbox); have n4_ := Aside0.mk ((by rw [hg]; exact (below_size (by repeat (first | (with_reducible first | exact HB.out | apply below_alloc | apply pw_below_drewN | apply below_drew1 | refine below_set ?_ GE106.out) | exact HB.out))) : w.heap.size ≤ gb112)); have n5_ := Aside0.mk ((by rw [hg]; exact (below_size (by repeat (first | (with_reducible first | exact HB.out | apply below_alloc | apply pw_below_drewN | apply below_drew1 | refine below_set ?_ GE106.out) | exact HB.out))) : w.heap.size ≤ gb112)); have n6_ := Aside0.mk ((by rw [hg]; exact Nat.ne_of_lt (blk_lt (g := gb106) (o := .cells #[.int .i64 x107000_2, .int .i64 x107001_2, .float .f64 x107002_2, .bool x107003_2, .int .i64 x107004_2, .int .i64 x107005_2, .bool x107006_2] 103 (0, 0)) (by (with_reducible repeat (first | refine blk_drewN ?_ _ | refine blk_drew ?_ | refine blk_alloc ?_ _)); exact BK106.out)) : gb106 ≠ gb112)); have n7_ := Aside0.mk ((by rw [hg]; exact Nat.ne_of_gt (blk_lt (g := gb106) (o := .cells #[.int .i64 x107000_2, .int .i64 x107001_2, .float .f64 x107002_2, .bool x107003_2, .int .i64 x107004_2, .int .i64 x107005_2, .bool x107006_2] 103 (0, 0)) (by (with_reducible repeat (first | refine blk_drewN ?_ _ | refine blk_drew ?_ | refine blk_alloc ?_ _)); exact BK106.out)) : gb112 ≠ gb106)); clear HO_7; clear BK106; clear HB; have HO_7 := n0_; have BK106 := n1_; have HB := n2_; have BK112 := n3_; have GW112 := n4_; have GE112 := n5_; have NB106_112 := n6_; have NB112_106 := n7_; clear n0_ n1_ n2_ n3_ n4_ n5_ n6_ n7_; clear hb hbox hg; have hnb21 := NB112_106.out; have hnc21 := NB106_112.out; have hcz22_0 : w20.cell? ⟨gb112, 0, none⟩ = some (.int .i64 0) := (blk_cell BK112.out 0).trans rfl; have hcz22_1 : w20.cell? ⟨gb112, 1, none⟩ = some (.int .i64 0) := (blk_cell BK112.out 1).trans rfl; have hcz22_2 : w20.cell? ⟨gb112, 2, none⟩ = some (.float .f64 0) := (blk_cell BK112.out 2).trans rfl; have hcz22_3 : w20.cell? ⟨gb112, 3, none⟩ = some (.bool false) := (blk_cell BK112.out 3).trans rfl; have hcz22_4 : w20.cell? ⟨gb112, 4, none⟩ = some (.int .i64 0) := (blk_cell BK112.out 4).trans rfl; have hcz22_5 : w20.cell? ⟨gb112, 5, none⟩ = some (.int .i64 0) := (blk_cell BK112.out 5).trans rfl; have hcz22_6 : w20.cell? ⟨gb112, 6, none⟩ = some (.bool false) := (blk_cell BK112.out 6).trans rfl; have hfz22_0 := blk_frozen BK112.out 0; have hfz22_1 := blk_frozen BK112.out 1; have hfz22_2 := blk_frozen BK112.out 2; have hfz22_3 := blk_frozen BK112.out 3; have hfz22_4 := blk_frozen BK112.out 4; have hfz22_5 := blk_frozen BK112.out 5; have hfz22_6 := blk_frozen BK112.out 6))
                  go_loopg [7, 13] k2 (fun kq v7 v13 w' => ∃ (x7_3 : List (S103)) (x13_3 : Int) (x107000_3 : Int) (x107001_3 : Int) (x107002_3 : Nat) (x107003_3 : Bool) (x107004_3 : Int) (x107005_3 : Int) (x107006_3 : Bool) (x113000_3 : Int) (x113001_3 : Int) (x113002_3 : Nat) (x113003_3 : Bool) (x113004_3 : Int) (x113005_3 : Int) (x113006_3 : Bool), v13 = .int .i64 x13_3 ∧ Aside0 (excelize_flatCols.l2 kq x7_3 x13_3 l1 (l1.length : Int) x38_2 x113000_3 x113001_3 x113002_3 x113003_3 x113004_3 x113005_3 x113006_3 = some r) ∧ Aside0 (kq ≤ k2) ∧ Aside0 (Kd.R k103 103 w' w.heap.size (fun k_ => k_ ≠ gb106 ∧ k_ ≠ gb112) v7 x7_3) ∧ Aside0 (w'.heap[gb106]? = some (.cells #[.int .i64 x107000_3, .int .i64 x107001_3, .float .f64 x107002_3, .bool x107003_3, .int .i64 x107004_3, .int .i64 x107005_3, .bool x107006_3] 103 (0, 0))) ∧ Aside0 (w'.heap[gb112]? = some (.cells #[.int .i64 x113000_3, .int .i64 x113001_3, .float .f64 x113002_3, .bool x113003_3, .int .i64 x113004_3, .int .i64 x113005_3, .bool x113006_3] 103 (0, 0))) ∧ Aside0 (Below w.heap.size w w'))
                  case atStart => exact ⟨(x7_2), (ji19), (x107000_2), (x107001_2), (x107002_2), (x107003_2), (x107004_2), (x107005_2), (x107006_2), ((rd_T103 l1 x38_2).f0), ((rd_T103 l1 x38_2).f1), ((rd_T103 l1 x38_2).f2), ((rd_T103 l1 x38_2).f3), ((rd_T103 l1 x38_2).f4), ((rd_T103 l1 x38_2).f5), ((rd_T103 l1 x38_2).f6), (by first | rfl | (simp; done) | (simp only [← hji19] <;> (first | rfl | simp)) | (simp [*]; done)), H', ⟨Nat.le_refl _⟩, ⟨by (with_reducible repeat (first | apply Kd.R_alloc | apply Kd.R_drewN | apply Kd.R_drew)); exact Kd.R_mono (Kd.R_far (p := ⟨gb112, 6, none⟩) (Kd.R_far (p := ⟨gb112, 5, none⟩) (Kd.R_far (p := ⟨gb112, 4, none⟩) (Kd.R_far (p := ⟨gb112, 3, none⟩) (Kd.R_far (p := ⟨gb112, 2, none⟩) (Kd.R_far (p := ⟨gb112, 1, none⟩) (Kd.R_far (p := ⟨gb112, 0, none⟩) (Kd.R_mono HO_7.out (fun k_ hk => (⟨hk, hk.2⟩ : _ ∧ k_ ≠ gb112))) (fun _ hk => hk.2) (.int .i64 ((rd_T103 l1 x38_2).f0))) (fun _ hk => hk.2) (.int .i64 ((rd_T103 l1 x38_2).f1))) (fun _ hk => hk.2) (.float .f64 ((rd_T103 l1 x38_2).f2))) (fun _ hk => hk.2) (.bool ((rd_T103 l1 x38_2).f3))) (fun _ hk => hk.2) (.int .i64 ((rd_T103 l1 x38_2).f4))) (fun _ hk => hk.2) (.int .i64 ((rd_T103 l1 x38_2).f5))) (fun _ hk => hk.2) (.bool ((rd_T103 l1 x38_2).f6))) (fun _ hk => ⟨hk.1.1, hk.1.2⟩)⟩, ⟨by (with_reducible repeat (first | refine blk_drewN ?_ _ | refine blk_drew ?_ | refine blk_alloc ?_ _)); refine blk_far ?_ NB106_112.out _; (with_reducible repeat (first | refine blk_drewN ?_ _ | refine blk_drew ?_ | refine blk_alloc ?_ _)); refine blk_far ?_ NB106_112.out _; (with_reducible repeat (first | refine blk_drewN ?_ _ | refine blk_drew ?_ | refine blk_alloc ?_ _)); refine blk_far ?_ NB106_112.out _; (with_reducible repeat (first | refine blk_drewN ?_ _ | refine blk_drew ?_ | refine blk_alloc ?_ _)); refine blk_far ?_ NB106_112.out _; (with_reducible repeat (first | refine blk_drewN ?_ _ | refine blk_drew ?_ | refine blk_alloc ?_ _)); refine blk_far ?_ NB106_112.out _; (with_reducible repeat (first | refine blk_drewN ?_ _ | refine blk_drew ?_ | refine blk_alloc ?_ _)); refine blk_far ?_ NB106_112.out _; (with_reducible repeat (first | refine blk_drewN ?_ _ | refine blk_drew ?_ | refine blk_alloc ?_ _)); refine blk_far ?_ NB106_112.out _; (with_reducible repeat (first | refine blk_drewN ?_ _ | refine blk_drew ?_ | refine blk_alloc ?_ _)); exact BK106.out⟩, ⟨by (with_reducible repeat (first | refine blk_drewN ?_ _ | refine blk_drew ?_ | refine blk_alloc ?_ _)); refine blk_put (cs := #[.int .i64 ((rd_T103 l1 x38_2).f0), .int .i64 ((rd_T103 l1 x38_2).f1), .float .f64 ((rd_T103 l1 x38_2).f2), .bool ((rd_T103 l1 x38_2).f3), .int .i64 ((rd_T103 l1 x38_2).f4), .int .i64 ((rd_T103 l1 x38_2).f5), .bool false]) ?_ 6 _ rfl; (with_reducible repeat (first | refine blk_drewN ?_ _ | refine blk_drew ?_ | refine blk_alloc ?_ _)); refine blk_put (cs := #[.int .i64 ((rd_T103 l1 x38_2).f0), .int .i64 ((rd_T103 l1 x38_2).f1), .float .f64 ((rd_T103 l1 x38_2).f2), .bool ((rd_T103 l1 x38_2).f3), .int .i64 ((rd_T103 l1 x38_2).f4), .int .i64 0, .bool false]) ?_ 5 _ rfl; (with_reducible repeat (first | refine blk_drewN ?_ _ | refine blk_drew ?_ | refine blk_alloc ?_ _)); refine blk_put (cs := #[.int .i64 ((rd_T103 l1 x38_2).f0), .int .i64 ((rd_T103 l1 x38_2).f1), .float .f64 ((rd_T103 l1 x38_2).f2), .bool ((rd_T103 l1 x38_2).f3), .int .i64 0, .int .i64 0, .bool false]) ?_ 4 _ rfl; (with_reducible repeat (first | refine blk_drewN ?_ _ | refine blk_drew ?_ | refine blk_alloc ?_ _)); refine blk_put (cs := #[.int .i64 ((rd_T103 l1 x38_2).f0), .int .i64 ((rd_T103 l1 x38_2).f1), .float .f64 ((rd_T103 l1 x38_2).f2), .bool false, .int .i64 0, .int .i64 0, .bool false]) ?_ 3 _ rfl; (with_reducible repeat (first | refine blk_drewN ?_ _ | refine blk_drew ?_ | refine blk_alloc ?_ _)); refine blk_put (cs := #[.int .i64 ((rd_T103 l1 x38_2).f0), .int .i64 ((rd_T103 l1 x38_2).f1), .float .f64 0, .bool false, .int .i64 0, .int .i64 0, .bool false]) ?_ 2 _ rfl; (with_reducible repeat (first | refine blk_drewN ?_ _ | refine blk_drew ?_ | refine blk_alloc ?_ _)); refine blk_put (cs := #[.int .i64 ((rd_T103 l1 x38_2).f0), .int .i64 0, .float .f64 0, .bool false, .int .i64 0, .int .i64 0, .bool false]) ?_ 1 _ rfl; (with_reducible repeat (first | refine blk_drewN ?_ _ | refine blk_drew ?_ | refine blk_alloc ?_ _)); refine blk_put (cs := #[.int .i64 0, .int .i64 0, .float .f64 0, .bool false, .int .i64 0, .int .i64 0, .bool false]) ?_ 0 _ rfl; (with_reducible repeat (first | refine blk_drewN ?_ _ | refine blk_drew ?_ | refine blk_alloc ?_ _)); exact BK112.out⟩, ⟨by repeat (first | (with_reducible first | exact HB.out | apply below_alloc | apply pw_below_drewN | apply below_drew1 | refine below_set ?_ GE106.out | refine below_set ?_ GE112.out) | exact HB.out)⟩⟩
                  case round =>
                    clear H'
                    try clear c1
                    try clear p1
                    try clear q1
                    try clear hx1
                    try clear c2
                    try clear p2
                    try clear c4
                    try clear p6
                    try clear c8
                    try clear c8b0
                    try clear c9
                    try clear p11
                    try clear q11
                    try clear hx11
                    try clear c12
                    try clear c16
                    try clear c16b0
                    try clear c17
                    try clear c17b0
                    try clear c18
                    try clear c18b0
                    try clear c21
                    try clear hcz10_0
                    try clear hcz10_1
                    try clear hcz10_2
                    try clear hcz10_3
                    try clear hcz10_4
                    try clear hcz10_5
                    try clear hcz10_6
                    try clear hcz13_0
                    try clear hcz13_1
                    try clear hcz13_2
                    try clear hcz13_3
                    try clear hcz13_4
                    try clear hcz13_5
                    try clear hcz13_6
                    try clear hcz15_0
                    try clear hcz15_1
                    try clear hcz15_2
                    try clear hcz15_3
                    try clear hcz15_4
                    try clear hcz15_5
                    try clear hcz15_6
                    try clear hcz22_0
                    try clear hcz22_1
                    try clear hcz22_2
                    try clear hcz22_3
                    try clear hcz22_4
                    try clear hcz22_5
                    try clear hcz22_6
                    try clear hcz6_0
                    try clear hcz6_1
                    try clear hcz6_2
                    try clear hcz6_3
                    try clear hcz6_4
                    try clear hcz6_5
                    try clear hcz6_6
                    try clear hfz10_0
                    try clear hfz10_1
                    try clear hfz10_2
                    try clear hfz10_3
                    try clear hfz10_4
                    try clear hfz10_5
                    try clear hfz10_6
                    try clear hfz13_0
                    try clear hfz13_1
                    try clear hfz13_2
                    try clear hfz13_3
                    try clear hfz13_4
                    try clear hfz13_5
                    try clear hfz13_6
                    try clear hfz15_0
                    try clear hfz15_1
                    try clear hfz15_2
                    try clear hfz15_3
                    try clear hfz15_4
                    try clear hfz15_5
                    try clear hfz15_6
                    try clear hfz22_0
                    try clear hfz22_1
                    try clear hfz22_2
                    try clear hfz22_3
                    try clear hfz22_4
                    try clear hfz22_5
                    try clear hfz22_6
                    try clear hfz6_0
                    try clear hfz6_1
                    try clear hfz6_2
                    try clear hfz6_3
                    try clear hfz6_4
                    try clear hfz6_5
                    try clear hfz6_6
                    try clear hx111_0
                    try clear hx111_1
                    try clear hx111_2
                    try clear hx111_3
                    try clear hx111_4
                    try clear hx111_5
                    try clear hx111_6
                    try clear p111
                    try clear p2
                    try clear p6
                    try clear q111
                    obtain ⟨x7_3, x13_3, x107000_3, x107001_3, x107002_3, x107003_3, x107004_3, x107005_3, x107006_3, x113000_3, x113001_3, x113002_3, x113003_3, x113004_3, x113005_3, x113006_3, rfl, HA, HK3, HO_7, BK106, BK112, HB⟩ := hrel
                    cases gk with
                    | zero => exact absurd HA.out (by simp [excelize_flatCols.l2])
                    | succ k3 =>
                      have H := HA.out
                      clear HA
                      simp only [excelize_flatCols.l2] at H
                      obtain ⟨ji23, hji23⟩ : ∃ j_ : Int, (mn 16384 x113001_3) = j_ := ⟨_, rfl⟩
                      replace H : (if x13_3 ≤ (ji23) then ((excelize_flatCols_1.f k3 x13_3 x7_3).bind fun bt113 => (if bt113.2 = true then (if 0 ≤ bt113.1 then (if bt113.1 < (x7_3.length : Int) then ((excelize_xlsxWorksheet_setColOutlineLevel_1.f ((rd_T103 x7_3 bt113.1).f0) ((rd_T103 x7_3 bt113.1).f1) ((rd_T103 x7_3 bt113.1).f2) ((rd_T103 x7_3 bt113.1).f3) ((rd_T103 x7_3 bt113.1).f4) ((rd_T103 x7_3 bt113.1).f5) ((rd_T103 x7_3 bt113.1).f6) x113000_3 x113001_3 x113002_3 x113003_3 x113004_3 x113005_3 x113006_3).bind fun bt116 => (excelize_flatCols.l2 k3 (x7_3.set (bt113.1 : Int).toNat (⟨bt116.1, bt116.2.1, bt116.2.2.1, bt116.2.2.2.1, bt116.2.2.2.2.1, bt116.2.2.2.2.2.1, bt116.2.2.2.2.2.2⟩ : S103)) (wrap64 (x13_3 + 1)) l1 (l1.length : Int) x38_2 x113000_3 x113001_3 x113002_3 x113003_3 x113004_3 x113005_3 x113006_3)) else (none)) else (none)) else (if x7_3.length < 2513169434916 then (excelize_flatCols.l2 k3 (x7_3 ++ [(⟨x13_3, x13_3, x113002_3, x113003_3, x113004_3, x113005_3, x113006_3⟩ : S103)]) (wrap64 (x13_3 + 1)) l1 (l1.length : Int) x38_2 x113000_3 x113001_3 x113002_3 x113003_3 x113004_3 x113005_3 x113006_3) else (none)))) else (excelize_flatCols.l1 k3 x7_3 l1 (l1.length : Int) (wrap64 (x38_2 + 1)))) = some r := by first | (rw [hji23] at H; exact H) | (simp only [hji23] at H ⊢; exact H)
                      have hji23_ : (if x113001_3 < 16384 then x113001_3 else 16384) = ji23 := hji23
                      by_cases c24 : x13_3 ≤ (ji23)
                      · rw [if_pos c24] at H
                        have c24b0 : decide (x13_3 ≤ (ji23)) = true := decide_eq_true c24
                        clear c24
                        replace H := Option.bind_eq_some_iff.mp H
                        obtain ⟨⟨t113, t114⟩, A250, H⟩ := H
                        replace H : (if t114 = true then (if 0 ≤ t113 then (if t113 < (x7_3.length : Int) then ((excelize_xlsxWorksheet_setColOutlineLevel_1.f ((rd_T103 x7_3 t113).f0) ((rd_T103 x7_3 t113).f1) ((rd_T103 x7_3 t113).f2) ((rd_T103 x7_3 t113).f3) ((rd_T103 x7_3 t113).f4) ((rd_T103 x7_3 t113).f5) ((rd_T103 x7_3 t113).f6) x113000_3 x113001_3 x113002_3 x113003_3 x113004_3 x113005_3 x113006_3).bind fun bt116 => (excelize_flatCols.l2 k3 (x7_3.set (t113 : Int).toNat (⟨bt116.1, bt116.2.1, bt116.2.2.1, bt116.2.2.2.1, bt116.2.2.2.2.1, bt116.2.2.2.2.2.1, bt116.2.2.2.2.2.2⟩ : S103)) (wrap64 (x13_3 + 1)) l1 (l1.length : Int) x38_2 x113000_3 x113001_3 x113002_3 x113003_3 x113004_3 x113005_3 x113006_3)) else (none)) else (none)) else (if x7_3.length < 2513169434916 then (excelize_flatCols.l2 k3 (x7_3 ++ [(⟨x13_3, x13_3, x113002_3, x113003_3, x113004_3, x113005_3, x113006_3⟩ : S103)]) (wrap64 (x13_3 + 1)) l1 (l1.length : Int) x38_2 x113000_3 x113001_3 x113002_3 x113003_3 x113004_3 x113005_3 x113006_3) else (none))) = some r := H
                        have A25 := Aside0.mk A250
                        clear A250
                        by_cases c26 : t114 = true
                        · subst c26
                          have H1 : (if 0 ≤ t113 then (if t113 < (x7_3.length : Int) then ((excelize_xlsxWorksheet_setColOutlineLevel_1.f ((rd_T103 x7_3 t113).f0) ((rd_T103 x7_3 t113).f1) ((rd_T103 x7_3 t113).f2) ((rd_T103 x7_3 t113).f3) ((rd_T103 x7_3 t113).f4) ((rd_T103 x7_3 t113).f5) ((rd_T103 x7_3 t113).f6) x113000_3 x113001_3 x113002_3 x113003_3 x113004_3 x113005_3 x113006_3).bind fun bt116 => (excelize_flatCols.l2 k3 (x7_3.set (t113 : Int).toNat (⟨bt116.1, bt116.2.1, bt116.2.2.1, bt116.2.2.2.1, bt116.2.2.2.2.1, bt116.2.2.2.2.2.1, bt116.2.2.2.2.2.2⟩ : S103)) (wrap64 (x13_3 + 1)) l1 (l1.length : Int) x38_2 x113000_3 x113001_3 x113002_3 x113003_3 x113004_3 x113005_3 x113006_3)) else (none)) else (none)) = some r := by rw [if_pos rfl] at H; exact H
                          clear H
                          have H := H1
                          clear H1
                          by_cases c27 : 0 ≤ t113
                          · rw [if_pos c27] at H
                            have c27b0 : decide (0 ≤ t113) = true := decide_eq_true c27
                            clear c27
                            by_cases c28 : t113 < (x7_3.length : Int)
                            · rw [if_pos c28] at H
                              have c28b0 : decide (t113 < (x7_3.length : Int)) = true := decide_eq_true c28
                              clear c28
                              replace H := Option.bind_eq_some_iff.mp H
                              obtain ⟨⟨t116, t117, t118, t119, t120, t121, t122⟩, A290, H⟩ := H
                              replace H : (excelize_flatCols.l2 k3 (x7_3.set (t113 : Int).toNat (⟨t116, t117, t118, t119, t120, t121, t122⟩ : S103)) (wrap64 (x13_3 + 1)) l1 (l1.length : Int) x38_2 x113000_3 x113001_3 x113002_3 x113003_3 x113004_3 x113005_3 x113006_3) = some r := H
                              have A29 := Aside0.mk A290
                              clear A290
                              obtain ⟨y123, hy123⟩ : ∃ y_ : List (S103), y_ = (x7_3.set (t113 : Int).toNat (⟨t116, t117, t118, t119, t120, t121, t122⟩ : S103)) := ⟨_, rfl⟩
                              replace H : (excelize_flatCols.l2 k3 y123 (wrap64 (x13_3 + 1)) l1 (l1.length : Int) x38_2 x113000_3 x113001_3 x113002_3 x113003_3 x113004_3 x113005_3 x113006_3) = some r := by first | (rw [hy123]; with_reducible exact H) | (have H2_ := (Option.bind_some _ _).symm.trans H; rw [hy123]; with_reducible exact H2_) | (have H2_ := (Option.bind_some _ _).symm.trans H; with_reducible exact H2_) | with_reducible exact H | (rw [hy123]; exact H) | exact H
                              have Ny123 := Aside0.mk hy123
                              clear hy123
                              have H' := Aside0.mk H
                              clear H
                              have hnb31 := NB112_106.out
                              have hnc31 := NB106_112.out
                              have hcz32_0 : wr.cell? ⟨gb112, 0, none⟩ = some (.int .i64 x113000_3) := (blk_cell BK112.out 0).trans rfl
                              have hcz32_1 : wr.cell? ⟨gb112, 1, none⟩ = some (.int .i64 x113001_3) := (blk_cell BK112.out 1).trans rfl
                              have hcz32_2 : wr.cell? ⟨gb112, 2, none⟩ = some (.float .f64 x113002_3) := (blk_cell BK112.out 2).trans rfl
                              have hcz32_3 : wr.cell? ⟨gb112, 3, none⟩ = some (.bool x113003_3) := (blk_cell BK112.out 3).trans rfl
                              have hcz32_4 : wr.cell? ⟨gb112, 4, none⟩ = some (.int .i64 x113004_3) := (blk_cell BK112.out 4).trans rfl
                              have hcz32_5 : wr.cell? ⟨gb112, 5, none⟩ = some (.int .i64 x113005_3) := (blk_cell BK112.out 5).trans rfl
                              have hcz32_6 : wr.cell? ⟨gb112, 6, none⟩ = some (.bool x113006_3) := (blk_cell BK112.out 6).trans rfl
                              have hfz32_0 := blk_frozen BK112.out 0
                              have hfz32_1 := blk_frozen BK112.out 1
                              have hfz32_2 := blk_frozen BK112.out 2
                              have hfz32_3 := blk_frozen BK112.out 3
                              have hfz32_4 := blk_frozen BK112.out 4
                              have hfz32_5 := blk_frozen BK112.out 5
                              have hfz32_6 := blk_frozen BK112.out 6
                              obtain ⟨Ao33, co33, eo33⟩ := Kd.R_slice HO_7.out
                              subst eo33
                              try go_wp2_with (first | (go_at_call 58; (with_reducible refine (excelize_flatCols_1.calls k3 x13_3 _ _ x7_3 t113 true _ ?side1 ?side2 A25.out).mono ?_); (case side1 => repeat (first | exact (Kd.R_reads' HO_7.out).2.2 | (with_reducible refine Kd.C_alloc ?_ _) | (with_reducible refine Kd.C_drewN ?_ _) | (with_reducible refine Kd.C_drew ?_))); (case side2 => exact (Kd.R_reads' HO_7.out).2.1); rintro e w34 ⟨rfl, hb⟩; have n0_ := Aside0.mk (Kd.R_below (by (with_reducible repeat (first | apply Kd.R_alloc | apply Kd.R_drewN | apply Kd.R_drew)); exact HO_7.out) hb); have n1_ := Aside0.mk (blk_below (g := gb106) (o := .cells #[.int .i64 x107000_3, .int .i64 x107001_3, .float .f64 x107002_3, .bool x107003_3, .int .i64 x107004_3, .int .i64 x107005_3, .bool x107006_3] 103 (0, 0)) (by (with_reducible repeat (first | refine blk_drewN ?_ _ | refine blk_drew ?_ | refine blk_alloc ?_ _)); exact BK106.out) hb); have n2_ := Aside0.mk (blk_below (g := gb112) (o := .cells #[.int .i64 x113000_3, .int .i64 x113001_3, .float .f64 x113002_3, .bool x113003_3, .int .i64 x113004_3, .int .i64 x113005_3, .bool x113006_3] 103 (0, 0)) (by (with_reducible repeat (first | refine blk_drewN ?_ _ | refine blk_drew ?_ | refine blk_alloc ?_ _)); exact BK112.out) hb); have n3_ := Aside0.mk (below_step (by repeat (first | (with_reducible first | exact HB.out | apply below_alloc | apply pw_below_drewN | apply below_drew1 | refine below_set ?_ GE106.out | refine below_set ?_ GE112.out) | exact HB.out)) hb); clear HO_7; clear BK106; clear BK112; clear HB; have HO_7 := n0_; have BK106 := n1_; have BK112 := n2_; have HB := n3_; clear n0_ n1_ n2_ n3_; (try clear hb); (try clear hb2); (try clear hk); (try clear hi)))
                              have n0_ := Aside0.mk (Kd.R_drew HO_7.out)
                              have n1_ := Aside0.mk (blk_drew BK106.out)
                              have n2_ := Aside0.mk (blk_drew BK112.out)
                              have n3_ := Aside0.mk (below_drew1 HB.out)
                              clear HO_7
                              clear BK106
                              clear BK112
                              clear HB
                              have HO_7 := n0_
                              have BK106 := n1_
                              have BK112 := n2_
                              have HB := n3_
                              clear n0_ n1_ n2_ n3_
                              have p115 : 0 ≤ (t113 : Int) := of_decide_eq_true (by first | (with_reducible assumption) | assumption)
                              have q115 : t113 < (x7_3.length : Int) := of_decide_eq_true (by first | (with_reducible assumption) | assumption)
                              obtain ⟨ad115, e115, hx115_0, hx115_1, hx115_2, hx115_3, hx115_4, hx115_5, hx115_6⟩ := at_T103 (Kd.R_reads' HO_7.out).2.2 t113 p115 q115
                              cases e115
                              replace p115 := eq_true p115
                              replace q115 := eq_true q115
                              refine start_ (n := 11) (S := fun w' => w'.cell? ⟨gb112, 0, none⟩ = some (.int .i64 x113000_3) ∧ w'.cell? ⟨gb112, 1, none⟩ = some (.int .i64 x113001_3) ∧ w'.cell? ⟨gb112, 2, none⟩ = some (.float .f64 x113002_3) ∧ w'.cell? ⟨gb112, 3, none⟩ = some (.bool x113003_3) ∧ w'.cell? ⟨gb112, 4, none⟩ = some (.int .i64 x113004_3) ∧ w'.cell? ⟨gb112, 5, none⟩ = some (.int .i64 x113005_3) ∧ w'.cell? ⟨gb112, 6, none⟩ = some (.bool x113006_3) ∧ w'.cell? (ad115.add ((t113).toNat * 7)) = some (.int .i64 ((rd_T103 x7_3 t113).f0)) ∧ w'.cell? ⟨(ad115.add ((t113).toNat * 7)).block, (ad115.add ((t113).toNat * 7)).off + 1, none⟩ = some (.int .i64 ((rd_T103 x7_3 t113).f1)) ∧ w'.cell? ⟨(ad115.add ((t113).toNat * 7)).block, (ad115.add ((t113).toNat * 7)).off + 2, none⟩ = some (.float .f64 ((rd_T103 x7_3 t113).f2)) ∧ w'.cell? ⟨(ad115.add ((t113).toNat * 7)).block, (ad115.add ((t113).toNat * 7)).off + 3, none⟩ = some (.bool ((rd_T103 x7_3 t113).f3)) ∧ w'.cell? ⟨(ad115.add ((t113).toNat * 7)).block, (ad115.add ((t113).toNat * 7)).off + 4, none⟩ = some (.int .i64 ((rd_T103 x7_3 t113).f4)) ∧ w'.cell? ⟨(ad115.add ((t113).toNat * 7)).block, (ad115.add ((t113).toNat * 7)).off + 5, none⟩ = some (.int .i64 ((rd_T103 x7_3 t113).f5)) ∧ w'.cell? ⟨(ad115.add ((t113).toNat * 7)).block, (ad115.add ((t113).toNat * 7)).off + 6, none⟩ = some (.bool ((rd_T103 x7_3 t113).f6))) (ds := [10]) #[false, false, false, false, false, false, false, false, false, false, false] (by kernel_rfl) rfl rfl ⟨(blk_cell BK112.out 0).trans rfl, (blk_cell BK112.out 1).trans rfl, (blk_cell BK112.out 2).trans rfl, (blk_cell BK112.out 3).trans rfl, (blk_cell BK112.out 4).trans rfl, (blk_cell BK112.out 5).trans rfl, (blk_cell BK112.out 6).trans rfl, hx115_0, hx115_1, hx115_2, hx115_3, hx115_4, hx115_5, hx115_6⟩ (fun hHeld => ?_); refine with_tabW excelize_flatCols.tab17 excelize_flatCols.bits17 (fun HT_ HW_ => ?_)
                              generalize w34.drew = w35 at HO_7 BK106 BK112 HB hx115_0 hx115_1 hx115_2 hx115_3 hx115_4 hx115_5 hx115_6 hHeld ⊢
                              refine pure_ (i := 0) (N := some 60) (v := ?_) (a' := ?_) #[true, false, false, false, false, false, false, false, false, false, false] rfl rfl (any_of HT_.out (by kernel_rfl)) (fun _ _ _ h => h) (Or.inl ⟨by rfl, ?_⟩) ?_ ?_
                              rotate_left
                              · intro w'
                                go_simp
                                with_reducible rfl
                              rotate_left
                              · simp only [Act.put, List.setIfInBounds_toArray, List.set_cons_zero, List.set_cons_succ, i64_w, i32_w]
                                rfl
                              refine pure_ (i := 1) (N := some 61) (v := ?_) (a' := ?_) #[true, true, false, false, false, false, false, false, false, false, false] rfl rfl (any_of HT_.out (by kernel_rfl)) (fun _ _ _ h => h) (Or.inl ⟨by rfl, ?_⟩) ?_ ?_
                              rotate_left
                              · intro w'
                                go_simp
                                with_reducible rfl
                              rotate_left
                              · simp only [Act.put, List.setIfInBounds_toArray, List.set_cons_zero, List.set_cons_succ, i64_w, i32_w]
                                rfl
                              refine pure_ (i := 2) (N := some 62) (v := ?_) (a' := ?_) #[true, true, true, false, false, false, false, false, false, false, false] rfl rfl (any_of HT_.out (by kernel_rfl)) (fun _ _ _ h => h) (Or.inl ⟨by rfl, ?_⟩) ?_ ?_
                              rotate_left
                              · intro w'
                                go_simp
                                with_reducible rfl
                              rotate_left
                              · simp only [Act.put, List.setIfInBounds_toArray, List.set_cons_zero, List.set_cons_succ, i64_w, i32_w]
                                rfl
                              refine pure_ (i := 3) (N := some 63) (v := ?_) (a' := ?_) #[true, true, true, true, false, false, false, false, false, false, false] rfl rfl (any_of HT_.out (by kernel_rfl)) (fun _ _ _ h => h) (Or.inl ⟨by rfl, ?_⟩) ?_ ?_
                              rotate_left
                              · intro w'
                                go_simp
                                with_reducible rfl
                              rotate_left
                              · simp only [Act.put, List.setIfInBounds_toArray, List.set_cons_zero, List.set_cons_succ, i64_w, i32_w]
                                rfl
                              refine pure_ (i := 4) (N := some 64) (v := ?_) (a' := ?_) #[true, true, true, true, true, false, false, false, false, false, false] rfl rfl (any_of HT_.out (by kernel_rfl)) (fun _ _ _ h => h) (Or.inl ⟨by rfl, ?_⟩) ?_ ?_
                              rotate_left
                              · intro w'
                                go_simp
                                with_reducible rfl
                              rotate_left
                              · simp only [Act.put, List.setIfInBounds_toArray, List.set_cons_zero, List.set_cons_succ, i64_w, i32_w]
                                rfl
                              refine pure_ (i := 5) (N := some 65) (v := ?_) (a' := ?_) #[true, true, true, true, true, true, false, false, false, false, false] rfl rfl (any_of HT_.out (by kernel_rfl)) (fun _ _ _ h => h) (Or.inl ⟨by rfl, ?_⟩) ?_ ?_
                              rotate_left
                              · intro w'
                                go_simp
                                with_reducible rfl
                              rotate_left
                              · simp only [Act.put, List.setIfInBounds_toArray, List.set_cons_zero, List.set_cons_succ, i64_w, i32_w]
                                rfl
                              refine take_ (i := 6) (N := some 66) (v := ?_) (a' := ?_) #[true, true, true, true, true, true, true, false, false, false, false] rfl rfl (take_ofW HT_.out HW_.out (by kernel_rfl)) (fun _ _ _ h => h) (Or.inl ⟨by rfl, ?_⟩) hHeld ?_ ?_
                              rotate_left
                              · rintro w' ⟨s0, s1, s2, s3, s4, s5, s6, s7, s8, s9, s10, s11, s12, s13⟩
                                go_simp
                                with_reducible rfl
                              rotate_left
                              · simp only [Act.put, List.setIfInBounds_toArray, List.set_cons_zero, List.set_cons_succ, i64_w, i32_w]
                                rfl
                              refine take_ (i := 7) (N := some 67) (v := ?_) (a' := ?_) #[true, true, true, true, true, true, true, true, false, false, false] rfl rfl (take_ofW HT_.out HW_.out (by kernel_rfl)) (fun _ _ _ h => h) (Or.inl ⟨by rfl, ?_⟩) hHeld ?_ ?_
                              rotate_left
                              · rintro w' ⟨s0, s1, s2, s3, s4, s5, s6, s7, s8, s9, s10, s11, s12, s13⟩
                                go_simp
                                with_reducible rfl
                              rotate_left
                              · simp only [Act.put, List.setIfInBounds_toArray, List.set_cons_zero, List.set_cons_succ, i64_w, i32_w]
                                rfl
                              refine one_ (i := 8) (N := some 68) #[true, true, true, true, true, true, true, true, true, false, false] rfl rfl (one_of HT_.out (by kernel_rfl)) (by decide) (fun K hK => ?_)
                              refine Flt.goesT_ Try.func45 (by kernel_rfl) rfl #[.agg #[.int .i64 ((rd_T103 x7_3 t113).f0), .int .i64 ((rd_T103 x7_3 t113).f1), .float .f64 ((rd_T103 x7_3 t113).f2), .bool ((rd_T103 x7_3 t113).f3), .int .i64 ((rd_T103 x7_3 t113).f4), .int .i64 ((rd_T103 x7_3 t113).f5), .bool ((rd_T103 x7_3 t113).f6)], .agg #[.int .i64 x113000_3, .int .i64 x113001_3, .float .f64 x113002_3, .bool x113003_3, .int .i64 x113004_3, .int .i64 x113005_3, .bool x113006_3]] (by rfl) rfl rfl (by rfl) (by (try simp only [List.map_toArray, List.map_cons, List.map_nil]); first | done | rfl | (simp only [List.length_drop, List.length_take]; rfl)) ?_
                              with_reducible refine (excelize_xlsxWorksheet_setColOutlineLevel_1.calls ((rd_T103 x7_3 t113).f0) ((rd_T103 x7_3 t113).f1) ((rd_T103 x7_3 t113).f2) ((rd_T103 x7_3 t113).f3) ((rd_T103 x7_3 t113).f4) ((rd_T103 x7_3 t113).f5) ((rd_T103 x7_3 t113).f6) x113000_3 x113001_3 x113002_3 x113003_3 x113004_3 x113005_3 x113006_3 t116 t117 t118 t119 t120 t121 t122 _ A29.out).mono ?_
                              rintro e w36 ⟨rfl, hb⟩
                              have HS7_ := (hb.cell (World.block_lt_of_cell? _ _ (hHeld.2.2.2.2.2.2.2.1))).trans (hHeld.2.2.2.2.2.2.2.1)
                              have HS8_ := (hb.cell (World.block_lt_of_cell? _ _ (hHeld.2.2.2.2.2.2.2.2.1))).trans (hHeld.2.2.2.2.2.2.2.2.1)
                              have HS9_ := (hb.cell (World.block_lt_of_cell? _ _ (hHeld.2.2.2.2.2.2.2.2.2.1))).trans (hHeld.2.2.2.2.2.2.2.2.2.1)
                              have HS10_ := (hb.cell (World.block_lt_of_cell? _ _ (hHeld.2.2.2.2.2.2.2.2.2.2.1))).trans (hHeld.2.2.2.2.2.2.2.2.2.2.1)
                              have HS11_ := (hb.cell (World.block_lt_of_cell? _ _ (hHeld.2.2.2.2.2.2.2.2.2.2.2.1))).trans (hHeld.2.2.2.2.2.2.2.2.2.2.2.1)
                              have HS12_ := (hb.cell (World.block_lt_of_cell? _ _ (hHeld.2.2.2.2.2.2.2.2.2.2.2.2.1))).trans (hHeld.2.2.2.2.2.2.2.2.2.2.2.2.1)
                              have HS13_ := (hb.cell (World.block_lt_of_cell? _ _ (hHeld.2.2.2.2.2.2.2.2.2.2.2.2.2))).trans (hHeld.2.2.2.2.2.2.2.2.2.2.2.2.2)
                              refine ⟨_, rfl, ?_⟩
                              have n0_ := Aside0.mk (Kd.R_below (by (with_reducible repeat (first | apply Kd.R_alloc | apply Kd.R_drewN | apply Kd.R_drew)); exact HO_7.out) hb)
                              have n1_ := Aside0.mk (blk_below (g := gb106) (o := .cells #[.int .i64 x107000_3, .int .i64 x107001_3, .float .f64 x107002_3, .bool x107003_3, .int .i64 x107004_3, .int .i64 x107005_3, .bool x107006_3] 103 (0, 0)) (by (with_reducible repeat (first | refine blk_drewN ?_ _ | refine blk_drew ?_ | refine blk_alloc ?_ _)); exact BK106.out) hb)
                              have n2_ := Aside0.mk (blk_below (g := gb112) (o := .cells #[.int .i64 x113000_3, .int .i64 x113001_3, .float .f64 x113002_3, .bool x113003_3, .int .i64 x113004_3, .int .i64 x113005_3, .bool x113006_3] 103 (0, 0)) (by (with_reducible repeat (first | refine blk_drewN ?_ _ | refine blk_drew ?_ | refine blk_alloc ?_ _)); exact BK112.out) hb)
                              have n3_ := Aside0.mk (below_step (by repeat (first | (with_reducible first | exact HB.out | apply below_alloc | apply pw_below_drewN | apply below_drew1 | refine below_set ?_ GE106.out | refine below_set ?_ GE112.out) | exact HB.out)) hb)
                              clear HO_7
                              clear BK106
                              clear BK112
                              clear HB
                              have HO_7 := n0_
                              have BK106 := n1_
                              have BK112 := n2_
                              have HB := n3_
                              clear n0_ n1_ n2_ n3_
                              (try clear hb)
                              (try clear hb2)
                              (try clear hk)
                              (try clear hi)
                              have p30 : 0 ≤ (t113 : Int) := of_decide_eq_true (by first | (with_reducible assumption) | assumption)
                              have q30 : (t113 : Int) < ((x7_3.length : Int) : Int) := of_decide_eq_true (by first | (with_reducible assumption) | assumption)
                              obtain ⟨go30, co30, eo30, gb30, gl30, cl30, HG30⟩ := Kd.R_form HO_7.out (by omega)
                              (first | cases eo30 | (injection eo30 with ea_ en_ ec_; (first | subst ea_ | (injection ea_ with ea_; subst ea_)); subst ec_; clear en_))
                              have GB30 := Aside0.mk gb30
                              have GG30 := Aside0.mk HG30
                              clear gb30 gl30 HG30
                              (first | simp only [add_plain] at hx115_0 | skip)
                              (first | simp only [add_plain] at hx115_1 | skip)
                              (first | simp only [add_plain] at hx115_2 | skip)
                              (first | simp only [add_plain] at hx115_3 | skip)
                              (first | simp only [add_plain] at hx115_4 | skip)
                              (first | simp only [add_plain] at hx115_5 | skip)
                              (first | simp only [add_plain] at hx115_6 | skip)
                              obtain ⟨ce30, hcl30, hM30, hcc30, hfr30⟩ := Kd.R_elem HO_7.out z103 (t113 : Int) p30 q30
                              obtain rfl := k103_openM hM30
                              have hx30_0 : World.cell? _ ⟨go30, (t113 : Int).toNat * 7, none⟩ = some (.int .i64 ((rd_T103 x7_3 t113).f0)) := hcc30 0 _ rfl
                              have hx30_1 : World.cell? _ ⟨go30, (t113 : Int).toNat * 7 + 1, none⟩ = some (.int .i64 ((rd_T103 x7_3 t113).f1)) := hcc30 1 _ rfl
                              have hx30_2 : World.cell? _ ⟨go30, (t113 : Int).toNat * 7 + 2, none⟩ = some (.float .f64 ((rd_T103 x7_3 t113).f2)) := hcc30 2 _ rfl
                              have hx30_3 : World.cell? _ ⟨go30, (t113 : Int).toNat * 7 + 3, none⟩ = some (.bool ((rd_T103 x7_3 t113).f3)) := hcc30 3 _ rfl
                              have hx30_4 : World.cell? _ ⟨go30, (t113 : Int).toNat * 7 + 4, none⟩ = some (.int .i64 ((rd_T103 x7_3 t113).f4)) := hcc30 4 _ rfl
                              have hx30_5 : World.cell? _ ⟨go30, (t113 : Int).toNat * 7 + 5, none⟩ = some (.int .i64 ((rd_T103 x7_3 t113).f5)) := hcc30 5 _ rfl
                              have hx30_6 : World.cell? _ ⟨go30, (t113 : Int).toNat * 7 + 6, none⟩ = some (.bool ((rd_T103 x7_3 t113).f6)) := hcc30 6 _ rfl
                              have hf30_0 : World.frozen? _ ⟨go30, (t113 : Int).toNat * 7, none⟩ = false := hfr30 0
                              have hf30_1 : World.frozen? _ ⟨go30, (t113 : Int).toNat * 7 + 1, none⟩ = false := hfr30 1
                              have hf30_2 : World.frozen? _ ⟨go30, (t113 : Int).toNat * 7 + 2, none⟩ = false := hfr30 2
                              have hf30_3 : World.frozen? _ ⟨go30, (t113 : Int).toNat * 7 + 3, none⟩ = false := hfr30 3
                              have hf30_4 : World.frozen? _ ⟨go30, (t113 : Int).toNat * 7 + 4, none⟩ = false := hfr30 4
                              have hf30_5 : World.frozen? _ ⟨go30, (t113 : Int).toNat * 7 + 5, none⟩ = false := hfr30 5
                              have hf30_6 : World.frozen? _ ⟨go30, (t113 : Int).toNat * 7 + 6, none⟩ = false := hfr30 6
                              clear hcl30 hcc30 hfr30 hM30
                              replace p30 := eq_true p30
                              replace q30 := eq_true q30
                              obtain ⟨ce37, hcl37, hM37, hcc37, hfr37⟩ := Kd.R_elem HO_7.out z103 (t113 : Int) (of_decide_eq_true (by first | (with_reducible assumption) | assumption)) (by have h_ : (t113 : Int) < ((x7_3.length : Int) : Int) := of_decide_eq_true (by first | (with_reducible assumption) | assumption); first | exact h_ | (have e_ := (Kd.R_reads' HO_7.out).1; omega) | simpa using h_)
                              obtain rfl := k103_openM hM37
                              have HP37 := (Kd.R_seg HO_7.out (t113 : Int) (of_decide_eq_true (by first | (with_reducible assumption) | assumption)) (by have h_ : (t113 : Int) < ((x7_3.length : Int) : Int) := of_decide_eq_true (by first | (with_reducible assumption) | assumption); first | exact h_ | (have e_ := (Kd.R_reads' HO_7.out).1; omega) | simpa using h_) (seg := [.int .i64 t116, .int .i64 t117, .float .f64 t118, .bool t119, .int .i64 t120, .int .i64 t121, .bool t122]) (j := 0) hcl37 hcc37 (show 7 ≤ 7 from by decide) (x' := (⟨t116, t117, t118, t119, t120, t121, t122⟩ : S103)) (k103_mkM _ _ _ (⟨t116, t117, t118, t119, t120, t121, t122⟩ : S103) ) (fun _ hk => hk)).1
                              rw [← Ny123.out] at HP37
                              have HQ37 := Aside0.mk HP37
                              clear hcl37 hcc37 hfr37 hM37 HP37
                              refine hK.out _ _ ⟨(blk_cell BK112.out 0).trans rfl, (blk_cell BK112.out 1).trans rfl, (blk_cell BK112.out 2).trans rfl, (blk_cell BK112.out 3).trans rfl, (blk_cell BK112.out 4).trans rfl, (blk_cell BK112.out 5).trans rfl, (blk_cell BK112.out 6).trans rfl, HS7_, HS8_, HS9_, HS10_, HS11_, HS12_, HS13_⟩ (fun hHeld => ?_)
                              clear hK K
                              refine norm_ (a' := ?_) ?_ ?_
                              rotate_left
                              · show Act.put _ (some 68) _ = _
                                simp only [Act.put, List.setIfInBounds_toArray, List.set_cons_zero, List.set_cons_succ, i64_w, i32_w]
                                rfl
                              refine pure_ (i := 9) (N := some 69) (v := ?_) (a' := ?_) #[true, true, true, true, true, true, true, true, true, true, false] rfl rfl (any_of HT_.out (by kernel_rfl)) (fun _ _ _ h => h) (Or.inl ⟨by rfl, ?_⟩) ?_ ?_
                              rotate_left
                              · intro w'
                                go_simp
                                with_reducible rfl
                              rotate_left
                              · simp only [Act.put, List.setIfInBounds_toArray, List.set_cons_zero, List.set_cons_succ, i64_w, i32_w]
                                rfl
                              refine last_ (i := 10) (N := none) #[true, true, true, true, true, true, true, true, true, true, true] rfl rfl (one_of HT_.out (by kernel_rfl)) (by decide) (fun K hK => ?_)
                              refine skip_ (w1 := ?_) (by rfl) rfl ?_ ?_
                              rotate_left
                              · go_simp
                                rfl
                              refine hK.out _ _ ?_
                              clear hK K
                              refine done_ (done_of HT_.out (by kernel_rfl)) ?_
                              try go_wp2
                              go_roundg k3
                              case measure => have := HK1.out; have := HK2.out; have := HK3.out; omega
                              case rel => exact ⟨(y123), (wrap64 (x13_3 + 1)), (x107000_3), (x107001_3), (x107002_3), (x107003_3), (x107004_3), (x107005_3), (x107006_3), (x113000_3), (x113001_3), (x113002_3), (x113003_3), (x113004_3), (x113005_3), (x113006_3), (by first | rfl | (simp; done) | (simp [*]; done)), H', ⟨by have := HK1.out; have := HK2.out; have := HK3.out; omega⟩, ⟨by (with_reducible repeat (first | apply Kd.R_alloc | apply Kd.R_drewN | apply Kd.R_drew)); exact HQ37.out⟩, ⟨by (with_reducible repeat (first | refine blk_drewN ?_ _ | refine blk_drew ?_ | refine blk_alloc ?_ _)); refine blk_far ?_ (by have h_ := Kd.R_away HO_7.out (fun _ hk => hk.1); intro e_; exact h_ (by rw [e_]; rfl)) _; (with_reducible repeat (first | refine blk_drewN ?_ _ | refine blk_drew ?_ | refine blk_alloc ?_ _)); refine blk_far ?_ (by have h_ := Kd.R_away HO_7.out (fun _ hk => hk.1); intro e_; exact h_ (by rw [e_]; rfl)) _; (with_reducible repeat (first | refine blk_drewN ?_ _ | refine blk_drew ?_ | refine blk_alloc ?_ _)); refine blk_far ?_ (by have h_ := Kd.R_away HO_7.out (fun _ hk => hk.1); intro e_; exact h_ (by rw [e_]; rfl)) _; (with_reducible repeat (first | refine blk_drewN ?_ _ | refine blk_drew ?_ | refine blk_alloc ?_ _)); refine blk_far ?_ (by have h_ := Kd.R_away HO_7.out (fun _ hk => hk.1); intro e_; exact h_ (by rw [e_]; rfl)) _; (with_reducible repeat (first | refine blk_drewN ?_ _ | refine blk_drew ?_ | refine blk_alloc ?_ _)); refine blk_far ?_ (by have h_ := Kd.R_away HO_7.out (fun _ hk => hk.1); intro e_; exact h_ (by rw [e_]; rfl)) _; (with_reducible repeat (first | refine blk_drewN ?_ _ | refine blk_drew ?_ | refine blk_alloc ?_ _)); refine blk_far ?_ (by have h_ := Kd.R_away HO_7.out (fun _ hk => hk.1); intro e_; exact h_ (by rw [e_]; rfl)) _; (with_reducible repeat (first | refine blk_drewN ?_ _ | refine blk_drew ?_ | refine blk_alloc ?_ _)); refine blk_far ?_ (by have h_ := Kd.R_away HO_7.out (fun _ hk => hk.1); intro e_; exact h_ (by rw [e_]; rfl)) _; (with_reducible repeat (first | refine blk_drewN ?_ _ | refine blk_drew ?_ | refine blk_alloc ?_ _)); exact BK106.out⟩, ⟨by (with_reducible repeat (first | refine blk_drewN ?_ _ | refine blk_drew ?_ | refine blk_alloc ?_ _)); refine blk_far ?_ (by have h_ := Kd.R_away HO_7.out (fun _ hk => hk.2); intro e_; exact h_ (by rw [e_]; rfl)) _; (with_reducible repeat (first | refine blk_drewN ?_ _ | refine blk_drew ?_ | refine blk_alloc ?_ _)); refine blk_far ?_ (by have h_ := Kd.R_away HO_7.out (fun _ hk => hk.2); intro e_; exact h_ (by rw [e_]; rfl)) _; (with_reducible repeat (first | refine blk_drewN ?_ _ | refine blk_drew ?_ | refine blk_alloc ?_ _)); refine blk_far ?_ (by have h_ := Kd.R_away HO_7.out (fun _ hk => hk.2); intro e_; exact h_ (by rw [e_]; rfl)) _; (with_reducible repeat (first | refine blk_drewN ?_ _ | refine blk_drew ?_ | refine blk_alloc ?_ _)); refine blk_far ?_ (by have h_ := Kd.R_away HO_7.out (fun _ hk => hk.2); intro e_; exact h_ (by rw [e_]; rfl)) _; (with_reducible repeat (first | refine blk_drewN ?_ _ | refine blk_drew ?_ | refine blk_alloc ?_ _)); refine blk_far ?_ (by have h_ := Kd.R_away HO_7.out (fun _ hk => hk.2); intro e_; exact h_ (by rw [e_]; rfl)) _; (with_reducible repeat (first | refine blk_drewN ?_ _ | refine blk_drew ?_ | refine blk_alloc ?_ _)); refine blk_far ?_ (by have h_ := Kd.R_away HO_7.out (fun _ hk => hk.2); intro e_; exact h_ (by rw [e_]; rfl)) _; (with_reducible repeat (first | refine blk_drewN ?_ _ | refine blk_drew ?_ | refine blk_alloc ?_ _)); refine blk_far ?_ (by have h_ := Kd.R_away HO_7.out (fun _ hk => hk.2); intro e_; exact h_ (by rw [e_]; rfl)) _; (with_reducible repeat (first | refine blk_drewN ?_ _ | refine blk_drew ?_ | refine blk_alloc ?_ _)); exact BK112.out⟩, ⟨by repeat (first | (with_reducible first | exact HB.out | apply below_alloc | apply pw_below_drewN | apply below_drew1 | refine below_set ?_ GB30.out | refine below_set ?_ GB30.out | refine below_set ?_ GB30.out | refine below_set ?_ GB30.out | refine below_set ?_ GB30.out | refine below_set ?_ GB30.out | refine below_set ?_ GB30.out | refine below_set ?_ GE106.out | refine below_set ?_ GE112.out) | exact HB.out)⟩⟩
                            · rw [if_neg c28] at H
                              exact absurd H (by simp)
                          · rw [if_neg c27] at H
                            exact absurd H (by simp)
                        · replace c26 := Bool.eq_false_iff.mpr c26
                          subst c26
                          have H1 : (if x7_3.length < 2513169434916 then (excelize_flatCols.l2 k3 (x7_3 ++ [(⟨x13_3, x13_3, x113002_3, x113003_3, x113004_3, x113005_3, x113006_3⟩ : S103)]) (wrap64 (x13_3 + 1)) l1 (l1.length : Int) x38_2 x113000_3 x113001_3 x113002_3 x113003_3 x113004_3 x113005_3 x113006_3) else (none)) = some r := by rw [if_neg (show ¬ (false = true) by decide)] at H; exact H
                          clear H
                          have H := H1
                          clear H1
                          by_cases c38 : x7_3.length < 2513169434916
                          · rw [if_pos c38] at H
                            have LMc38 := Aside0.mk c38
                            clear c38
                            obtain ⟨y125, hy125⟩ : ∃ y_ : List (S103), y_ = (x7_3 ++ [(⟨x13_3, x13_3, x113002_3, x113003_3, x113004_3, x113005_3, x113006_3⟩ : S103)]) := ⟨_, rfl⟩
                            replace H : (excelize_flatCols.l2 k3 y125 (wrap64 (x13_3 + 1)) l1 (l1.length : Int) x38_2 x113000_3 x113001_3 x113002_3 x113003_3 x113004_3 x113005_3 x113006_3) = some r := by first | (rw [hy125]; with_reducible exact H) | (have H2_ := (Option.bind_some _ _).symm.trans H; rw [hy125]; with_reducible exact H2_) | (have H2_ := (Option.bind_some _ _).symm.trans H; with_reducible exact H2_) | with_reducible exact H | (rw [hy125]; exact H) | exact H
                            have Ny125 := Aside0.mk hy125
                            clear hy125
                            have H' := Aside0.mk H
                            clear H
                            have hnb39 := NB112_106.out
                            have hnc39 := NB106_112.out
                            have hcz40_0 : wr.cell? ⟨gb112, 0, none⟩ = some (.int .i64 x113000_3) := (blk_cell BK112.out 0).trans rfl
                            have hcz40_1 : wr.cell? ⟨gb112, 1, none⟩ = some (.int .i64 x113001_3) := (blk_cell BK112.out 1).trans rfl
                            have hcz40_2 : wr.cell? ⟨gb112, 2, none⟩ = some (.float .f64 x113002_3) := (blk_cell BK112.out 2).trans rfl
                            have hcz40_3 : wr.cell? ⟨gb112, 3, none⟩ = some (.bool x113003_3) := (blk_cell BK112.out 3).trans rfl
                            have hcz40_4 : wr.cell? ⟨gb112, 4, none⟩ = some (.int .i64 x113004_3) := (blk_cell BK112.out 4).trans rfl
                            have hcz40_5 : wr.cell? ⟨gb112, 5, none⟩ = some (.int .i64 x113005_3) := (blk_cell BK112.out 5).trans rfl
                            have hcz40_6 : wr.cell? ⟨gb112, 6, none⟩ = some (.bool x113006_3) := (blk_cell BK112.out 6).trans rfl
                            have hfz40_0 := blk_frozen BK112.out 0
                            have hfz40_1 := blk_frozen BK112.out 1
                            have hfz40_2 := blk_frozen BK112.out 2
                            have hfz40_3 := blk_frozen BK112.out 3
                            have hfz40_4 := blk_frozen BK112.out 4
                            have hfz40_5 := blk_frozen BK112.out 5
                            have hfz40_6 := blk_frozen BK112.out 6
                            obtain ⟨Ao41, co41, eo41⟩ := Kd.R_slice HO_7.out
                            subst eo41
                            go_wp2_with (first | (go_at_call 58; (with_reducible refine (excelize_flatCols_1.calls k3 x13_3 _ _ x7_3 t113 false _ ?side1 ?side2 A25.out).mono ?_); (case side1 => repeat (first | exact (Kd.R_reads' HO_7.out).2.2 | (with_reducible refine Kd.C_alloc ?_ _) | (with_reducible refine Kd.C_drewN ?_ _) | (with_reducible refine Kd.C_drew ?_))); (case side2 => exact (Kd.R_reads' HO_7.out).2.1); rintro e w42 ⟨rfl, hb⟩; have n0_ := Aside0.mk (Kd.R_below (by (with_reducible repeat (first | apply Kd.R_alloc | apply Kd.R_drewN | apply Kd.R_drew)); exact HO_7.out) hb); have n1_ := Aside0.mk (blk_below (g := gb106) (o := .cells #[.int .i64 x107000_3, .int .i64 x107001_3, .float .f64 x107002_3, .bool x107003_3, .int .i64 x107004_3, .int .i64 x107005_3, .bool x107006_3] 103 (0, 0)) (by (with_reducible repeat (first | refine blk_drewN ?_ _ | refine blk_drew ?_ | refine blk_alloc ?_ _)); exact BK106.out) hb); have n2_ := Aside0.mk (blk_below (g := gb112) (o := .cells #[.int .i64 x113000_3, .int .i64 x113001_3, .float .f64 x113002_3, .bool x113003_3, .int .i64 x113004_3, .int .i64 x113005_3, .bool x113006_3] 103 (0, 0)) (by (with_reducible repeat (first | refine blk_drewN ?_ _ | refine blk_drew ?_ | refine blk_alloc ?_ _)); exact BK112.out) hb); have n3_ := Aside0.mk (below_step (by repeat (first | (with_reducible first | exact HB.out | apply below_alloc | apply pw_below_drewN | apply below_drew1 | refine below_set ?_ GE106.out | refine below_set ?_ GE112.out) | exact HB.out)) hb); clear HO_7; clear BK106; clear BK112; clear HB; have HO_7 := n0_; have BK106 := n1_; have BK112 := n2_; have HB := n3_; clear n0_ n1_ n2_ n3_; (try clear hb); (try clear hb2); (try clear hk); (try clear hi); have hcz43_0 : w42.cell? ⟨gb112, 0, none⟩ = some (.int .i64 x113000_3) := (blk_cell BK112.out 0).trans rfl; have hcz43_1 : w42.cell? ⟨gb112, 1, none⟩ = some (.int .i64 x113001_3) := (blk_cell BK112.out 1).trans rfl; have hcz43_2 : w42.cell? ⟨gb112, 2, none⟩ = some (.float .f64 x113002_3) := (blk_cell BK112.out 2).trans rfl; have hcz43_3 : w42.cell? ⟨gb112, 3, none⟩ = some (.bool x113003_3) := (blk_cell BK112.out 3).trans rfl; have hcz43_4 : w42.cell? ⟨gb112, 4, none⟩ = some (.int .i64 x113004_3) := (blk_cell BK112.out 4).trans rfl; have hcz43_5 : w42.cell? ⟨gb112, 5, none⟩ = some (.int .i64 x113005_3) := (blk_cell BK112.out 5).trans rfl; have hcz43_6 : w42.cell? ⟨gb112, 6, none⟩ = some (.bool x113006_3) := (blk_cell BK112.out 6).trans rfl; have hfz43_0 := blk_frozen BK112.out 0; have hfz43_1 := blk_frozen BK112.out 1; have hfz43_2 := blk_frozen BK112.out 2; have hfz43_3 := blk_frozen BK112.out 3; have hfz43_4 := blk_frozen BK112.out 4; have hfz43_5 := blk_frozen BK112.out 5; have hfz43_6 := blk_frozen BK112.out 6) | ((with_reducible refine gate_dst (N := 16) rfl ?_); refine box_event ?hg (N := 16) ?hd (cs := #[.int .i64 0, .int .i64 0, .float .f64 0, .bool false, .int .i64 0, .int .i64 0, .bool false]) (t := 103) ?hr ?_; (case hd => rfl); (case hg => rfl); (case hr => first | (go_simp; done) | (go_simp; rfl)); intro gb124 hg w44 hbox hb; have n0_ := Aside0.mk (Kd.R_below (Kd.R_elderB (by (with_reducible repeat (first | apply Kd.R_alloc | apply Kd.R_drewN | apply Kd.R_drew)); exact HO_7.out) gb124 (Nat.le_of_eq hg.symm)) hb); have n1_ := Aside0.mk (blk_below (g := gb106) (o := .cells #[.int .i64 x107000_3, .int .i64 x107001_3, .float .f64 x107002_3, .bool x107003_3, .int .i64 x107004_3, .int .i64 x107005_3, .bool x107006_3] 103 (0, 0)) (by (with_reducible repeat (first | refine blk_drewN ?_ _ | refine blk_drew ?_ | refine blk_alloc ?_ _)); exact BK106.out) hb); have n2_ := Aside0.mk (blk_below (g := gb112) (o := .cells #[.int .i64 x113000_3, .int .i64 x113001_3, .float .f64 x113002_3, .bool x113003_3, .int .i64 x113004_3, .int .i64 x113005_3, .bool x113006_3] 103 (0, 0)) (by (with_reducible repeat (first | refine blk_drewN ?_ _ | refine blk_drew ?_ | refine blk_alloc ?_ _)); exact BK112.out) hb); have n3_ := Aside0.mk (below_step (by repeat (first | (with_reducible first | exact HB.out | apply below_alloc | apply pw_below_drewN | apply below_drew1 | refine below_set ?_ GE106.out | refine below_set ?_ GE112.out) | exact HB.out)) hb); have n4_ := Aside0.mk (hbox); have n5_ := Aside0.mk ((by rw [hg]; exact (below_size (by repeat (first | (with_reducible first | exact HB.out | apply below_alloc | apply pw_below_drewN | apply below_drew1 | refine below_set ?_ GE106.out | refine below_set ?_ GE112.out) | exact HB.out))) : w.heap.size ≤ gb124)); have n6_ := Aside0.mk ((by rw [hg]; exact (below_size (by repeat (first | (with_reducible first | exact HB.out | apply below_alloc | apply pw_below_drewN | apply below_drew1 | refine below_set ?_ GE106.out | refine below_set ?_ GE112.out) | exact HB.out))) : w.heap.size ≤ gb124)); have n7_ := Aside0.mk ((by rw [hg]; exact Nat.ne_of_lt (blk_lt (g := gb106) (o := .cells #[.int .i64 x107000_3, .int .i64 x107001_3, .float .f64 x107002_3, .bool x107003_3, .int .i64 x107004_3, .int .i64 x107005_3, .bool x107006_3] 103 (0, 0)) (by (with_reducible repeat (first | refine blk_drewN ?_ _ | refine blk_drew ?_ | refine blk_alloc ?_ _)); exact BK106.out)) : gb106 ≠ gb124)); have n8_ := Aside0.mk ((by rw [hg]; exact Nat.ne_of_gt (blk_lt (g := gb106) (o := .cells #[.int .i64 x107000_3, .int .i64 x107001_3, .float .f64 x107002_3, .bool x107003_3, .int .i64 x107004_3, .int .i64 x107005_3, .bool x107006_3] 103 (0, 0)) (by (with_reducible repeat (first | refine blk_drewN ?_ _ | refine blk_drew ?_ | refine blk_alloc ?_ _)); exact BK106.out)) : gb124 ≠ gb106)); have n9_ := Aside0.mk ((by rw [hg]; exact Nat.ne_of_lt (blk_lt (g := gb112) (o := .cells #[.int .i64 x113000_3, .int .i64 x113001_3, .float .f64 x113002_3, .bool x113003_3, .int .i64 x113004_3, .int .i64 x113005_3, .bool x113006_3] 103 (0, 0)) (by (with_reducible repeat (first | refine blk_drewN ?_ _ | refine blk_drew ?_ | refine blk_alloc ?_ _)); exact BK112.out)) : gb112 ≠ gb124)); have n10_ := Aside0.mk ((by rw [hg]; exact Nat.ne_of_gt (blk_lt (g := gb112) (o := .cells #[.int .i64 x113000_3, .int .i64 x113001_3, .float .f64 x113002_3, .bool x113003_3, .int .i64 x113004_3, .int .i64 x113005_3, .bool x113006_3] 103 (0, 0)) (by (with_reducible repeat (first | refine blk_drewN ?_ _ | refine blk_drew ?_ | refine blk_alloc ?_ _)); exact BK112.out)) : gb124 ≠ gb112)); clear HO_7; clear BK106; clear BK112; clear HB; have HO_7 := n0_; have BK106 := n1_; have BK112 := n2_; have HB := n3_; have BK124 := n4_; have GW124 := n5_; have GE124 := n6_; have NB106_124 := n7_; have NB124_106 := n8_; have NB112_124 := n9_; have NB124_112 := n10_; clear n0_ n1_ n2_ n3_ n4_ n5_ n6_ n7_ n8_ n9_ n10_; clear hb hbox hg; have hnb45 := NB124_106.out; have hnc45 := NB106_124.out; have hnb46 := NB124_112.out; have hnc46 := NB112_124.out; have hcz47_0 : w44.cell? ⟨gb124, 0, none⟩ = some (.int .i64 0) := (blk_cell BK124.out 0).trans rfl; have hcz47_1 : w44.cell? ⟨gb124, 1, none⟩ = some (.int .i64 0) := (blk_cell BK124.out 1).trans rfl; have hcz47_2 : w44.cell? ⟨gb124, 2, none⟩ = some (.float .f64 0) := (blk_cell BK124.out 2).trans rfl; have hcz47_3 : w44.cell? ⟨gb124, 3, none⟩ = some (.bool false) := (blk_cell BK124.out 3).trans rfl; have hcz47_4 : w44.cell? ⟨gb124, 4, none⟩ = some (.int .i64 0) := (blk_cell BK124.out 4).trans rfl; have hcz47_5 : w44.cell? ⟨gb124, 5, none⟩ = some (.int .i64 0) := (blk_cell BK124.out 5).trans rfl; have hcz47_6 : w44.cell? ⟨gb124, 6, none⟩ = some (.bool false) := (blk_cell BK124.out 6).trans rfl; have hfz47_0 := blk_frozen BK124.out 0; have hfz47_1 := blk_frozen BK124.out 1; have hfz47_2 := blk_frozen BK124.out 2; have hfz47_3 := blk_frozen BK124.out 3; have hfz47_4 := blk_frozen BK124.out 4; have hfz47_5 := blk_frozen BK124.out 5; have hfz47_6 := blk_frozen BK124.out 6) | ((with_reducible refine gate_store (t := 103) (p := 16) rfl ?_); refine store_event (t := 103) (p := 16) (v := ?vo_w44a) (w1 := Flt.sets w44 gb124 0 [.int .i64 x113000_3, .int .i64 x113001_3, .float .f64 x113002_3, .bool x113003_3, .int .i64 x113004_3, .int .i64 x113005_3, .bool x113006_3]) ?hg ?ho ?hn ?hr ?_; (case ho => rfl); (case hg => rfl); (case hn => rfl); (case hr => first | (go_simp; done) | (go_simp; rfl)); intro w44a hw; have m0_ := Aside0.mk (show w44a.heap[gb124]? = some (.cells #[.int .i64 x113000_3, .int .i64 x113001_3, .float .f64 x113002_3, .bool x113003_3, .int .i64 x113004_3, .int .i64 x113005_3, .bool x113006_3] 103 (0, 0)) by rw [hw]; exact Flt.sets_all [.int .i64 x113000_3, .int .i64 x113001_3, .float .f64 x113002_3, .bool x113003_3, .int .i64 x113004_3, .int .i64 x113005_3, .bool x113006_3] BK124.out rfl); have m1_ := Aside0.mk (show w44a.heap[gb106]? = some (.cells #[.int .i64 x107000_3, .int .i64 x107001_3, .float .f64 x107002_3, .bool x107003_3, .int .i64 x107004_3, .int .i64 x107005_3, .bool x107006_3] 103 (0, 0)) by rw [hw]; exact (Flt.sets_far NB106_124.out _ _ _).trans BK106.out); have m2_ := Aside0.mk (show w44a.heap[gb112]? = some (.cells #[.int .i64 x113000_3, .int .i64 x113001_3, .float .f64 x113002_3, .bool x113003_3, .int .i64 x113004_3, .int .i64 x113005_3, .bool x113006_3] 103 (0, 0)) by rw [hw]; exact (Flt.sets_far NB112_124.out _ _ _).trans BK112.out); have mb_ := Aside0.mk (show Below w.heap.size w w44a by rw [hw]; exact Flt.sets_below GE124.out _ _ _ HB.out); have mo_ := Aside0.mk (Kd.R_step HO_7.out (w1 := w44a) (fun k_ hk _ => by rw [hw]; exact Flt.sets_far hk.2 _ _ _)); clear hw; clear BK124; clear BK106; clear BK112; clear HB; clear HO_7; have BK124 := m0_; have BK106 := m1_; have BK112 := m2_; have HB := mb_; have HO_7 := mo_; clear mb_ mo_ m0_ m1_ m2_; clear hcz47_0; clear hcz47_1; clear hcz47_2; clear hcz47_3; clear hcz47_4; clear hcz47_5; clear hcz47_6; clear hfz47_0; clear hfz47_1; clear hfz47_2; clear hfz47_3; clear hfz47_4; clear hfz47_5; clear hfz47_6; have hcz47a_0 : w44a.cell? ⟨gb124, 0, none⟩ = some (.int .i64 x113000_3) := (blk_cell BK124.out 0).trans rfl; have hcz47a_1 : w44a.cell? ⟨gb124, 1, none⟩ = some (.int .i64 x113001_3) := (blk_cell BK124.out 1).trans rfl; have hcz47a_2 : w44a.cell? ⟨gb124, 2, none⟩ = some (.float .f64 x113002_3) := (blk_cell BK124.out 2).trans rfl; have hcz47a_3 : w44a.cell? ⟨gb124, 3, none⟩ = some (.bool x113003_3) := (blk_cell BK124.out 3).trans rfl; have hcz47a_4 : w44a.cell? ⟨gb124, 4, none⟩ = some (.int .i64 x113004_3) := (blk_cell BK124.out 4).trans rfl; have hcz47a_5 : w44a.cell? ⟨gb124, 5, none⟩ = some (.int .i64 x113005_3) := (blk_cell BK124.out 5).trans rfl; have hcz47a_6 : w44a.cell? ⟨gb124, 6, none⟩ = some (.bool x113006_3) := (blk_cell BK124.out 6).trans rfl; have hfz47a_0 := blk_frozen BK124.out 0; have hfz47a_1 := blk_frozen BK124.out 1; have hfz47a_2 := blk_frozen BK124.out 2; have hfz47a_3 := blk_frozen BK124.out 3; have hfz47a_4 := blk_frozen BK124.out 4; have hfz47a_5 := blk_frozen BK124.out 5; have hfz47a_6 := blk_frozen BK124.out 6) | ((with_reducible refine gate_store (t := 3) (p := 73) rfl ?_); refine store_event (t := 3) (p := 73) (v := ?vo_w44b) (w1 := w44a.setCell ⟨gb124, 0, none⟩ (.int .i64 x13_3)) ?hg ?ho ?hn ?hr ?_; (case ho => rfl); (case hg => rfl); (case hn => rfl); (case hr => first | (go_simp; done) | (go_simp; rfl)); intro w44b hw; have m0_ := Aside0.mk (show w44b.heap[gb124]? = some (.cells #[.int .i64 x13_3, .int .i64 x113001_3, .float .f64 x113002_3, .bool x113003_3, .int .i64 x113004_3, .int .i64 x113005_3, .bool x113006_3] 103 (0, 0)) by rw [hw]; exact blk_put BK124.out 0 _ rfl); have m1_ := Aside0.mk (show w44b.heap[gb106]? = some (.cells #[.int .i64 x107000_3, .int .i64 x107001_3, .float .f64 x107002_3, .bool x107003_3, .int .i64 x107004_3, .int .i64 x107005_3, .bool x107006_3] 103 (0, 0)) by rw [hw]; exact (Below.heap_setCell _ _ _ _ (NB106_124.out)).trans BK106.out); have m2_ := Aside0.mk (show w44b.heap[gb112]? = some (.cells #[.int .i64 x113000_3, .int .i64 x113001_3, .float .f64 x113002_3, .bool x113003_3, .int .i64 x113004_3, .int .i64 x113005_3, .bool x113006_3] 103 (0, 0)) by rw [hw]; exact (Below.heap_setCell _ _ _ _ (NB112_124.out)).trans BK112.out); have mb_ := Aside0.mk (show Below w.heap.size w w44b by rw [hw]; exact below_set HB.out GE124.out); have mo_ := Aside0.mk (Kd.R_step HO_7.out (w1 := w44b) (fun k_ hk _ => by rw [hw]; exact Below.heap_setCell _ _ _ _ (hk.2))); clear hw; clear BK124; clear BK106; clear BK112; clear HB; clear HO_7; have BK124 := m0_; have BK106 := m1_; have BK112 := m2_; have HB := mb_; have HO_7 := mo_; clear mb_ mo_ m0_ m1_ m2_; clear hcz47a_0; clear hcz47a_1; clear hcz47a_2; clear hcz47a_3; clear hcz47a_4; clear hcz47a_5; clear hcz47a_6; clear hfz47a_0; clear hfz47a_1; clear hfz47a_2; clear hfz47a_3; clear hfz47a_4; clear hfz47a_5; clear hfz47a_6; have hcz47b_0 : w44b.cell? ⟨gb124, 0, none⟩ = some (.int .i64 x13_3) := (blk_cell BK124.out 0).trans rfl; have hcz47b_1 : w44b.cell? ⟨gb124, 1, none⟩ = some (.int .i64 x113001_3) := (blk_cell BK124.out 1).trans rfl; have hcz47b_2 : w44b.cell? ⟨gb124, 2, none⟩ = some (.float .f64 x113002_3) := (blk_cell BK124.out 2).trans rfl; have hcz47b_3 : w44b.cell? ⟨gb124, 3, none⟩ = some (.bool x113003_3) := (blk_cell BK124.out 3).trans rfl; have hcz47b_4 : w44b.cell? ⟨gb124, 4, none⟩ = some (.int .i64 x113004_3) := (blk_cell BK124.out 4).trans rfl; have hcz47b_5 : w44b.cell? ⟨gb124, 5, none⟩ = some (.int .i64 x113005_3) := (blk_cell BK124.out 5).trans rfl; have hcz47b_6 : w44b.cell? ⟨gb124, 6, none⟩ = some (.bool x113006_3) := (blk_cell BK124.out 6).trans rfl; have hfz47b_0 := blk_frozen BK124.out 0; have hfz47b_1 := blk_frozen BK124.out 1; have hfz47b_2 := blk_frozen BK124.out 2; have hfz47b_3 := blk_frozen BK124.out 3; have hfz47b_4 := blk_frozen BK124.out 4; have hfz47b_5 := blk_frozen BK124.out 5; have hfz47b_6 := blk_frozen BK124.out 6) | ((with_reducible refine gate_store (t := 3) (p := 74) rfl ?_); refine store_event (t := 3) (p := 74) (v := ?vo_w44c) (w1 := w44b.setCell ⟨gb124, 1, none⟩ (.int .i64 x13_3)) ?hg ?ho ?hn ?hr ?_; (case ho => rfl); (case hg => rfl); (case hn => rfl); (case hr => first | (go_simp; done) | (go_simp; rfl)); intro w44c hw; have m0_ := Aside0.mk (show w44c.heap[gb124]? = some (.cells #[.int .i64 x13_3, .int .i64 x13_3, .float .f64 x113002_3, .bool x113003_3, .int .i64 x113004_3, .int .i64 x113005_3, .bool x113006_3] 103 (0, 0)) by rw [hw]; exact blk_put BK124.out 1 _ rfl); have m1_ := Aside0.mk (show w44c.heap[gb106]? = some (.cells #[.int .i64 x107000_3, .int .i64 x107001_3, .float .f64 x107002_3, .bool x107003_3, .int .i64 x107004_3, .int .i64 x107005_3, .bool x107006_3] 103 (0, 0)) by rw [hw]; exact (Below.heap_setCell _ _ _ _ (NB106_124.out)).trans BK106.out); have m2_ := Aside0.mk (show w44c.heap[gb112]? = some (.cells #[.int .i64 x113000_3, .int .i64 x113001_3, .float .f64 x113002_3, .bool x113003_3, .int .i64 x113004_3, .int .i64 x113005_3, .bool x113006_3] 103 (0, 0)) by rw [hw]; exact (Below.heap_setCell _ _ _ _ (NB112_124.out)).trans BK112.out); have mb_ := Aside0.mk (show Below w.heap.size w w44c by rw [hw]; exact below_set HB.out GE124.out); have mo_ := Aside0.mk (Kd.R_step HO_7.out (w1 := w44c) (fun k_ hk _ => by rw [hw]; exact Below.heap_setCell _ _ _ _ (hk.2))); clear hw; clear BK124; clear BK106; clear BK112; clear HB; clear HO_7; have BK124 := m0_; have BK106 := m1_; have BK112 := m2_; have HB := mb_; have HO_7 := mo_; clear mb_ mo_ m0_ m1_ m2_; clear hcz47b_0; clear hcz47b_1; clear hcz47b_2; clear hcz47b_3; clear hcz47b_4; clear hcz47b_5; clear hcz47b_6; clear hfz47b_0; clear hfz47b_1; clear hfz47b_2; clear hfz47b_3; clear hfz47b_4; clear hfz47b_5; clear hfz47b_6; have hcz47c_0 : w44c.cell? ⟨gb124, 0, none⟩ = some (.int .i64 x13_3) := (blk_cell BK124.out 0).trans rfl; have hcz47c_1 : w44c.cell? ⟨gb124, 1, none⟩ = some (.int .i64 x13_3) := (blk_cell BK124.out 1).trans rfl; have hcz47c_2 : w44c.cell? ⟨gb124, 2, none⟩ = some (.float .f64 x113002_3) := (blk_cell BK124.out 2).trans rfl; have hcz47c_3 : w44c.cell? ⟨gb124, 3, none⟩ = some (.bool x113003_3) := (blk_cell BK124.out 3).trans rfl; have hcz47c_4 : w44c.cell? ⟨gb124, 4, none⟩ = some (.int .i64 x113004_3) := (blk_cell BK124.out 4).trans rfl; have hcz47c_5 : w44c.cell? ⟨gb124, 5, none⟩ = some (.int .i64 x113005_3) := (blk_cell BK124.out 5).trans rfl; have hcz47c_6 : w44c.cell? ⟨gb124, 6, none⟩ = some (.bool x113006_3) := (blk_cell BK124.out 6).trans rfl; have hfz47c_0 := blk_frozen BK124.out 0; have hfz47c_1 := blk_frozen BK124.out 1; have hfz47c_2 := blk_frozen BK124.out 2; have hfz47c_3 := blk_frozen BK124.out 3; have hfz47c_4 := blk_frozen BK124.out 4; have hfz47c_5 := blk_frozen BK124.out 5; have hfz47c_6 := blk_frozen BK124.out 6) | ((with_reducible refine gate_builtin (b := .append) (xs := #[.tmp 75, .tmp 77]) rfl ?_); at_builtin; refine Kd.R_append k103 (w0 := w) w.heap.size rfl (.tmp 75) (.tmp 77) 71 103 (.agg #[(.int .i64 0), (.int .i64 0), (.float .f64 0), (.bool false), (.int .i64 0), (.int .i64 0), (.bool false)]) 56 rfl Try.underlying71 info103 rfl (by decide) (by omega) (.slice Ao41 x7_3.length co41) x7_3 (⟨x13_3, x13_3, x113002_3, x113003_3, x113004_3, x113005_3, x113006_3⟩ : S103) [.int .i64 x13_3, .int .i64 x13_3, .float .f64 x113002_3, .bool x113003_3, .int .i64 x113004_3, .int .i64 x113005_3, .bool x113006_3] (fun k_ => k_ ≠ gb106 ∧ k_ ≠ gb112 ∧ k_ ≠ gb124) (fun _ => False) rfl (by first | (go_simp; done) | (go_simp; rfl)) ?aP (fun _ hk => hk.elim) ?aF ?aO ?aB ?aS ?aL ?_; (case aP => exact k103_mkM _ _ _ (⟨x13_3, x13_3, x113002_3, x113003_3, x113004_3, x113005_3, x113006_3⟩ : S103)); (case aB => exact (by repeat (first | (with_reducible first | exact HB.out | apply below_alloc | apply pw_below_drewN | apply below_drew1) | exact HB.out))); (case aF => exact (fun k_ hk => ⟨Kd.freshB BK106.out k_ hk, Kd.freshB BK112.out k_ hk, Kd.freshB BK124.out k_ hk⟩)); (case aO => exact (by (with_reducible repeat (first | apply Kd.R_alloc | apply Kd.R_drewN | apply Kd.R_drew)); exact Kd.R_mono HO_7.out (fun _ hk => ⟨hk.1.1, hk.1.2, hk.2⟩))); (case aS => exact (below_size (by repeat (first | (with_reducible first | exact HB.out | apply below_alloc | apply pw_below_drewN | apply below_drew1) | exact HB.out)))); (case aL => have := LMc38.out; omega); intro v126 w48 ho hb hg hat; rw [← Ny125.out] at ho; have n0_ := Aside0.mk (blk_grown BK106.out hg (Kd.R_away HO_7.out (fun _ hk => hk.1.1))); have n1_ := Aside0.mk (blk_grown BK112.out hg (Kd.R_away HO_7.out (fun _ hk => hk.1.2))); have n2_ := Aside0.mk (blk_grown BK124.out hg (Kd.R_away HO_7.out (fun _ hk => hk.2))); have n3_ := Aside0.mk (hb); have n4_ := Aside0.mk (ho); clear BK106; clear BK112; clear BK124; clear HB; clear HO_7; have BK106 := n0_; have BK112 := n1_; have BK124 := n2_; have HB := n3_; have HO127 := n4_; clear n0_ n1_ n2_ n3_ n4_; clear ho hb hg hat))
                            go_roundg k3
                            case measure => have := HK1.out; have := HK2.out; have := HK3.out; omega
                            case rel => exact ⟨(y125), (wrap64 (x13_3 + 1)), (x107000_3), (x107001_3), (x107002_3), (x107003_3), (x107004_3), (x107005_3), (x107006_3), (x113000_3), (x113001_3), (x113002_3), (x113003_3), (x113004_3), (x113005_3), (x113006_3), (by first | rfl | (simp; done) | (simp [*]; done)), H', ⟨by have := HK1.out; have := HK2.out; have := HK3.out; omega⟩, ⟨by (with_reducible repeat (first | apply Kd.R_alloc | apply Kd.R_drewN | apply Kd.R_drew)); exact Kd.R_mono HO127.out (fun _ hk => ⟨hk.1, hk.2.1⟩)⟩, ⟨by (with_reducible repeat (first | refine blk_drewN ?_ _ | refine blk_drew ?_ | refine blk_alloc ?_ _)); exact BK106.out⟩, ⟨by (with_reducible repeat (first | refine blk_drewN ?_ _ | refine blk_drew ?_ | refine blk_alloc ?_ _)); exact BK112.out⟩, ⟨by repeat (first | (with_reducible first | exact HB.out | apply below_alloc | apply pw_below_drewN | apply below_drew1 | refine below_set ?_ GE106.out | refine below_set ?_ GE112.out | refine below_set ?_ GE124.out) | exact HB.out)⟩⟩
                          · rw [if_neg c38] at H
                            exact absurd H (by simp)
                      · rw [if_neg c24] at H
                        have c24b0 : decide (x13_3 ≤ (ji23)) = false := decide_eq_false c24
                        clear c24
                        have H' := Aside0.mk H
                        clear H
                        have hnb49 := NB112_106.out
                        have hnc49 := NB106_112.out
                        have hcz50_0 : wr.cell? ⟨gb112, 0, none⟩ = some (.int .i64 x113000_3) := (blk_cell BK112.out 0).trans rfl
                        have hcz50_1 : wr.cell? ⟨gb112, 1, none⟩ = some (.int .i64 x113001_3) := (blk_cell BK112.out 1).trans rfl
                        have hcz50_2 : wr.cell? ⟨gb112, 2, none⟩ = some (.float .f64 x113002_3) := (blk_cell BK112.out 2).trans rfl
                        have hcz50_3 : wr.cell? ⟨gb112, 3, none⟩ = some (.bool x113003_3) := (blk_cell BK112.out 3).trans rfl
                        have hcz50_4 : wr.cell? ⟨gb112, 4, none⟩ = some (.int .i64 x113004_3) := (blk_cell BK112.out 4).trans rfl
                        have hcz50_5 : wr.cell? ⟨gb112, 5, none⟩ = some (.int .i64 x113005_3) := (blk_cell BK112.out 5).trans rfl
                        have hcz50_6 : wr.cell? ⟨gb112, 6, none⟩ = some (.bool x113006_3) := (blk_cell BK112.out 6).trans rfl
                        have hfz50_0 := blk_frozen BK112.out 0
                        have hfz50_1 := blk_frozen BK112.out 1
                        have hfz50_2 := blk_frozen BK112.out 2
                        have hfz50_3 := blk_frozen BK112.out 3
                        have hfz50_4 := blk_frozen BK112.out 4
                        have hfz50_5 := blk_frozen BK112.out 5
                        have hfz50_6 := blk_frozen BK112.out 6
                        go_wp2
                        go_roundg k3
                        case measure => have := HK1.out; have := HK2.out; have := HK3.out; omega
                        case rel => exact ⟨(x7_3), (wrap64 (x38_2 + 1)), (x107000_3), (x107001_3), (x107002_3), (x107003_3), (x107004_3), (x107005_3), (x107006_3), (by first | rfl | (simp; done) | (simp [*]; done)), H', ⟨by have := HK1.out; have := HK2.out; have := HK3.out; omega⟩, ⟨by (with_reducible repeat (first | apply Kd.R_alloc | apply Kd.R_drewN | apply Kd.R_drew)); exact Kd.R_mono HO_7.out (fun _ hk => hk.1)⟩, ⟨by (with_reducible repeat (first | refine blk_drewN ?_ _ | refine blk_drew ?_ | refine blk_alloc ?_ _)); exact BK106.out⟩, ⟨by repeat (first | (with_reducible first | exact HB.out | apply below_alloc | apply pw_below_drewN | apply below_drew1 | refine below_set ?_ GE106.out | refine below_set ?_ GE112.out) | exact HB.out)⟩⟩
                · rw [if_neg c18] at H
                  exact absurd H (by simp)
              · rw [if_neg c17] at H
                exact absurd H (by simp)
            · rw [if_neg c16] at H
              have c16b0 : decide (x38_2 < (l1.length : Int)) = false := decide_eq_false c16
              clear c16
              obtain rfl := Option.some.inj H
              go_wp2
              go_ret
              exact ⟨_, by first | rfl | (simp [errW_none, errW_some] <;> rfl) | (simp only [← hji4, ← hji7]; first | rfl | (simp [errW_none, errW_some] <;> rfl)) | (simp [*, errW_none, errW_some] <;> rfl), by (with_reducible repeat (first | apply Kd.R_alloc | apply Kd.R_drewN | apply Kd.R_drew)); exact Kd.R_mono HO_7.out (fun _ hk => trivial), by repeat (first | (with_reducible first | exact HB.out | apply below_alloc | apply pw_below_drewN | apply below_drew1 | refine below_set ?_ GE106.out) | exact HB.out)⟩

end Go.Proofs.Ytjefbpfpobgmaaa.PLv
