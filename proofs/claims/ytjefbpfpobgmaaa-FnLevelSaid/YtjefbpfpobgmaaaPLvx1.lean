/- Contracts of functions that the text "Lv" uses: the call ends in what the plain Lean function says, where that says something. Written by a program of this session. No conditions. -/
import Derived.Test.YtjefbpfpobgmaaaPLvx0
namespace Go.Proofs.Ytjefbpfpobgmaaa.PLv
open Go.RowKit Go.Proofs.YtjefbpfpobgmaaaW.PrintWords Go.Proofs.YtjefbpfpobgmaaaW.PrintLast Go.Proofs.YtjefbpfpobgmaaaW.PrintMore
attribute [local go_sem] Go.Proofs.Ytjefbpfpobgmaaa.Flt.run_store_float max2_int min2_int max_two min_two max_three min_three max_four min_four   -- for this text's walks alone
set_option linter.unusedVariables false
set_option linter.unusedSimpArgs false

/-! ### excelize_flatCols_1: function 58 -/
def excelize_flatCols_1.l0 : Nat → Int → List (S103) → Int → Int → Option (Int × Bool)
  | 0, _, _, _, _ => none
  | k + 1, x0, x8, x9, x10 => if x10 < x9 then (if 0 ≤ x10 then (if x10 < (x8.length : Int) then (if ((rd_T103 x8 x10).f1) = x0 then (if ((rd_T103 x8 x10).f0) = x0 then (some (x10, true)) else (excelize_flatCols_1.l0 k x0 x8 x9 (wrap64 (x10 + 1)))) else (excelize_flatCols_1.l0 k x0 x8 x9 (wrap64 (x10 + 1)))) else (none)) else (none)) else (some ((-1), false))
def excelize_flatCols_1.f (k : Nat) (a0 : Int) (l1 : List (S103)) : Option (Int × Bool) := excelize_flatCols_1.l0 k a0 l1 (l1.length : Int) 0
theorem excelize_flatCols_1.mono_l : ∀ k, (∀ y0 y1 y2 y3, LeO (excelize_flatCols_1.l0 k y0 y1 y2 y3) (excelize_flatCols_1.l0 (k + 1) y0 y1 y2 y3))
  | 0 => fun _ _ _ _ r h => by simp [excelize_flatCols_1.l0] at h
  | k + 1 => by
    have ih0 := excelize_flatCols_1.mono_l k
    · intro y0 y1 y2 y3
      unfold excelize_flatCols_1.l0
      repeat' first
      | (with_reducible exact ih0 _ _ _ _)
      | (with_reducible exact LeO.refl _)
      | (with_reducible exact LeO.none _)
      | (with_reducible refine LeO.ite ?_ ?_)
      | (with_reducible refine LeO.bind ?_ (fun _ => ?_))
      | exact ih0 _ _ _ _
      | exact LeO.none _
      | refine LeO.ite ?_ ?_
      | refine LeO.bind ?_ (fun _ => ?_)
theorem excelize_flatCols_1.mono : ∀ a0 a1 k, LeO (excelize_flatCols_1.f k a0 a1) (excelize_flatCols_1.f (k + 1) a0 a1) := by
  intro a0 a1 k
  have ih0 := excelize_flatCols_1.mono_l k
  unfold excelize_flatCols_1.f
  repeat' first
      | (with_reducible exact ih0 _ _ _ _)
      | (with_reducible exact LeO.refl _)
      | (with_reducible exact LeO.none _)
      | (with_reducible refine LeO.ite ?_ ?_)
      | (with_reducible refine LeO.bind ?_ (fun _ => ?_))
      | exact ih0 _ _ _ _
      | exact LeO.none _
      | refine LeO.ite ?_ ?_
      | refine LeO.bind ?_ (fun _ => ?_)
set_option maxHeartbeats 8000000 in
set_option maxRecDepth 100000 in
theorem excelize_flatCols_1.calls (k : Nat) (a0 : Int) (A1 : Option Addr) (c1 : Nat) (l1 : List (S103)) (r1 : Int) (r2 : Bool) (w : World) (hr1 : Kd.C k103 w A1 l1.length l1) (hc1 : l1.length ≤ c1) (h : excelize_flatCols_1.f k a0 l1 = some (r1, r2)) :
    Calls Try.prog 58 #[.int .i64 a0, .slice A1 l1.length c1] w fun e w' => e = .returned (.tuple #[.int .i64 r1, .bool r2]) ∧ Below w.heap.size w w' := by
  have hu103 := Try.underlying103
  have HR1 := Aside0.mk hr1
  have HC1 := Aside0.mk hc1
  clear hr1 hc1
  have HB := Aside0.mk (Below.refl w.heap.size w)
  have H : (excelize_flatCols_1.l0 k a0 l1 (l1.length : Int) 0) = some (r1, r2) := h
  clear h
  have H' := Aside0.mk H
  clear H
  go_enter Try.func58, Try.ntmps58
  go_wp2
  go_loopg [10] k (fun kq v10 w' => ∃ (x10_1 : Int), v10 = .int .i64 x10_1 ∧ Aside0 (excelize_flatCols_1.l0 kq a0 l1 (l1.length : Int) x10_1 = some (r1, r2)) ∧ Aside0 (kq ≤ k) ∧ Aside0 (Below w.heap.size w w'))
  case atStart => exact ⟨(0), (by first | rfl | (simp; done) | (simp [*]; done)), H', ⟨Nat.le_refl _⟩, ⟨by repeat (first | (with_reducible first | exact HB.out | apply below_alloc | apply pw_below_drewN | apply below_drew1) | exact HB.out)⟩⟩
  case round =>
    clear H'
    try clear c1
    try clear p2
    obtain ⟨x10_1, rfl, HA, HK1, HB⟩ := hrel
    cases gk with
    | zero => exact absurd HA.out (by simp [excelize_flatCols_1.l0])
    | succ k1 =>
      have H := HA.out
      clear HA
      simp only [excelize_flatCols_1.l0] at H
      by_cases c3 : x10_1 < (l1.length : Int)
      · rw [if_pos c3] at H
        have c3b0 : decide (x10_1 < (l1.length : Int)) = true := decide_eq_true c3
        clear c3
        by_cases c4 : 0 ≤ x10_1
        · rw [if_pos c4] at H
          have c4b0 : decide (0 ≤ x10_1) = true := decide_eq_true c4
          clear c4
          by_cases c5 : x10_1 < (l1.length : Int)
          · rw [if_pos c5] at H
            have c5b0 : decide (x10_1 < (l1.length : Int)) = true := decide_eq_true c5
            clear c5
            by_cases c6 : ((rd_T103 l1 x10_1).f1) = a0
            · rw [if_pos c6] at H
              have c6b0 : (((rd_T103 l1 x10_1).f1) == a0) = true := beq_iff_eq.mpr c6
              have c6b1 : (((rd_T103 l1 x10_1).f1) != a0) = false := bne_eq_false_iff_eq.mpr c6
              clear c6
              by_cases c7 : ((rd_T103 l1 x10_1).f0) = a0
              · rw [if_pos c7] at H
                have c7b0 : (((rd_T103 l1 x10_1).f0) == a0) = true := beq_iff_eq.mpr c7
                have c7b1 : (((rd_T103 l1 x10_1).f0) != a0) = false := bne_eq_false_iff_eq.mpr c7
                clear c7
                simp only [Option.some.injEq, Prod.mk.injEq] at H
                obtain ⟨rfl, rfl⟩ := H
                have p101 : 0 ≤ (x10_1 : Int) := of_decide_eq_true (by first | (with_reducible assumption) | assumption)
                have q101 : x10_1 < (l1.length : Int) := of_decide_eq_true (by first | (with_reducible assumption) | assumption)
                obtain ⟨ad101, e101, hx101_0, hx101_1, hx101_2, hx101_3, hx101_4, hx101_5, hx101_6⟩ := at_T103 HR1.out x10_1 p101 q101
                cases e101
                replace hx101_0 := (HB.out.cell (World.block_lt_of_cell? w _ hx101_0)).trans hx101_0
                replace hx101_1 := (HB.out.cell (World.block_lt_of_cell? w _ hx101_1)).trans hx101_1
                replace hx101_2 := (HB.out.cell (World.block_lt_of_cell? w _ hx101_2)).trans hx101_2
                replace hx101_3 := (HB.out.cell (World.block_lt_of_cell? w _ hx101_3)).trans hx101_3
                replace hx101_4 := (HB.out.cell (World.block_lt_of_cell? w _ hx101_4)).trans hx101_4
                replace hx101_5 := (HB.out.cell (World.block_lt_of_cell? w _ hx101_5)).trans hx101_5
                replace hx101_6 := (HB.out.cell (World.block_lt_of_cell? w _ hx101_6)).trans hx101_6
                replace p101 := eq_true p101
                replace q101 := eq_true q101
                go_wp2_with (first | ((with_reducible refine gate_dst (N := 7) rfl ?_); refine box_event ?hg (N := 7) ?hd (cs := #[.int .i64 0, .int .i64 0, .float .f64 0, .bool false, .int .i64 0, .int .i64 0, .bool false]) (t := 103) ?hr ?_; (case hd => rfl); (case hg => rfl); (case hr => first | (go_simp; done) | (go_simp; rfl)); intro gb102 hg w8 hbox hb; have n0_ := Aside0.mk (below_step (by repeat (first | (with_reducible first | exact HB.out | apply below_alloc | apply pw_below_drewN | apply below_drew1) | exact HB.out)) hb); have n1_ := Aside0.mk (hbox); have n2_ := Aside0.mk ((by rw [hg]; exact (below_size (by repeat (first | (with_reducible first | exact HB.out | apply below_alloc | apply pw_below_drewN | apply below_drew1) | exact HB.out))) : w.heap.size ≤ gb102)); have n3_ := Aside0.mk ((by rw [hg]; exact (below_size (by repeat (first | (with_reducible first | exact HB.out | apply below_alloc | apply pw_below_drewN | apply below_drew1) | exact HB.out))) : w.heap.size ≤ gb102)); clear HB; have HB := n0_; have BK102 := n1_; have GW102 := n2_; have GE102 := n3_; clear n0_ n1_ n2_ n3_; clear hb hbox hg; have hcz9_0 : w8.cell? ⟨gb102, 0, none⟩ = some (.int .i64 0) := (blk_cell BK102.out 0).trans rfl; have hcz9_1 : w8.cell? ⟨gb102, 1, none⟩ = some (.int .i64 0) := (blk_cell BK102.out 1).trans rfl; have hcz9_2 : w8.cell? ⟨gb102, 2, none⟩ = some (.float .f64 0) := (blk_cell BK102.out 2).trans rfl; have hcz9_3 : w8.cell? ⟨gb102, 3, none⟩ = some (.bool false) := (blk_cell BK102.out 3).trans rfl; have hcz9_4 : w8.cell? ⟨gb102, 4, none⟩ = some (.int .i64 0) := (blk_cell BK102.out 4).trans rfl; have hcz9_5 : w8.cell? ⟨gb102, 5, none⟩ = some (.int .i64 0) := (blk_cell BK102.out 5).trans rfl; have hcz9_6 : w8.cell? ⟨gb102, 6, none⟩ = some (.bool false) := (blk_cell BK102.out 6).trans rfl; have hfz9_0 := blk_frozen BK102.out 0; have hfz9_1 := blk_frozen BK102.out 1; have hfz9_2 := blk_frozen BK102.out 2; have hfz9_3 := blk_frozen BK102.out 3; have hfz9_4 := blk_frozen BK102.out 4; have hfz9_5 := blk_frozen BK102.out 5; have hfz9_6 := blk_frozen BK102.out 6))
                go_ret2
                exact ⟨by first | rfl | (simp [errW_none, errW_some] <;> rfl) | (simp [*, errW_none, errW_some] <;> rfl), by repeat (first | (with_reducible first | exact HB.out | apply below_alloc | apply pw_below_drewN | apply below_drew1 | refine below_set ?_ GE102.out) | exact HB.out)⟩
              · rw [if_neg c7] at H
                have c7b0 : (((rd_T103 l1 x10_1).f0) == a0) = false := beq_eq_false_iff_ne.mpr c7
                have c7b1 : (((rd_T103 l1 x10_1).f0) != a0) = true := bne_iff_ne.mpr c7
                have H' := Aside0.mk H
                clear H
                have p101 : 0 ≤ (x10_1 : Int) := of_decide_eq_true (by first | (with_reducible assumption) | assumption)
                have q101 : x10_1 < (l1.length : Int) := of_decide_eq_true (by first | (with_reducible assumption) | assumption)
                obtain ⟨ad101, e101, hx101_0, hx101_1, hx101_2, hx101_3, hx101_4, hx101_5, hx101_6⟩ := at_T103 HR1.out x10_1 p101 q101
                cases e101
                replace hx101_0 := (HB.out.cell (World.block_lt_of_cell? w _ hx101_0)).trans hx101_0
                replace hx101_1 := (HB.out.cell (World.block_lt_of_cell? w _ hx101_1)).trans hx101_1
                replace hx101_2 := (HB.out.cell (World.block_lt_of_cell? w _ hx101_2)).trans hx101_2
                replace hx101_3 := (HB.out.cell (World.block_lt_of_cell? w _ hx101_3)).trans hx101_3
                replace hx101_4 := (HB.out.cell (World.block_lt_of_cell? w _ hx101_4)).trans hx101_4
                replace hx101_5 := (HB.out.cell (World.block_lt_of_cell? w _ hx101_5)).trans hx101_5
                replace hx101_6 := (HB.out.cell (World.block_lt_of_cell? w _ hx101_6)).trans hx101_6
                replace p101 := eq_true p101
                replace q101 := eq_true q101
                go_wp2_with (first | ((with_reducible refine gate_dst (N := 7) rfl ?_); refine box_event ?hg (N := 7) ?hd (cs := #[.int .i64 0, .int .i64 0, .float .f64 0, .bool false, .int .i64 0, .int .i64 0, .bool false]) (t := 103) ?hr ?_; (case hd => rfl); (case hg => rfl); (case hr => first | (go_simp; done) | (go_simp; rfl)); intro gb102 hg w10 hbox hb; have n0_ := Aside0.mk (below_step (by repeat (first | (with_reducible first | exact HB.out | apply below_alloc | apply pw_below_drewN | apply below_drew1) | exact HB.out)) hb); have n1_ := Aside0.mk (hbox); have n2_ := Aside0.mk ((by rw [hg]; exact (below_size (by repeat (first | (with_reducible first | exact HB.out | apply below_alloc | apply pw_below_drewN | apply below_drew1) | exact HB.out))) : w.heap.size ≤ gb102)); have n3_ := Aside0.mk ((by rw [hg]; exact (below_size (by repeat (first | (with_reducible first | exact HB.out | apply below_alloc | apply pw_below_drewN | apply below_drew1) | exact HB.out))) : w.heap.size ≤ gb102)); clear HB; have HB := n0_; have BK102 := n1_; have GW102 := n2_; have GE102 := n3_; clear n0_ n1_ n2_ n3_; clear hb hbox hg; have hcz11_0 : w10.cell? ⟨gb102, 0, none⟩ = some (.int .i64 0) := (blk_cell BK102.out 0).trans rfl; have hcz11_1 : w10.cell? ⟨gb102, 1, none⟩ = some (.int .i64 0) := (blk_cell BK102.out 1).trans rfl; have hcz11_2 : w10.cell? ⟨gb102, 2, none⟩ = some (.float .f64 0) := (blk_cell BK102.out 2).trans rfl; have hcz11_3 : w10.cell? ⟨gb102, 3, none⟩ = some (.bool false) := (blk_cell BK102.out 3).trans rfl; have hcz11_4 : w10.cell? ⟨gb102, 4, none⟩ = some (.int .i64 0) := (blk_cell BK102.out 4).trans rfl; have hcz11_5 : w10.cell? ⟨gb102, 5, none⟩ = some (.int .i64 0) := (blk_cell BK102.out 5).trans rfl; have hcz11_6 : w10.cell? ⟨gb102, 6, none⟩ = some (.bool false) := (blk_cell BK102.out 6).trans rfl; have hfz11_0 := blk_frozen BK102.out 0; have hfz11_1 := blk_frozen BK102.out 1; have hfz11_2 := blk_frozen BK102.out 2; have hfz11_3 := blk_frozen BK102.out 3; have hfz11_4 := blk_frozen BK102.out 4; have hfz11_5 := blk_frozen BK102.out 5; have hfz11_6 := blk_frozen BK102.out 6))
                go_roundg k1
                case measure => have := HK1.out; omega
                case rel => exact ⟨(wrap64 (x10_1 + 1)), (by first | rfl | (simp; done) | (simp [*]; done)), H', ⟨by have := HK1.out; omega⟩, ⟨by repeat (first | (with_reducible first | exact HB.out | apply below_alloc | apply pw_below_drewN | apply below_drew1 | refine below_set ?_ GE102.out) | exact HB.out)⟩⟩
            · rw [if_neg c6] at H
              have c6b0 : (((rd_T103 l1 x10_1).f1) == a0) = false := beq_eq_false_iff_ne.mpr c6
              have c6b1 : (((rd_T103 l1 x10_1).f1) != a0) = true := bne_iff_ne.mpr c6
              have H' := Aside0.mk H
              clear H
              have p101 : 0 ≤ (x10_1 : Int) := of_decide_eq_true (by first | (with_reducible assumption) | assumption)
              have q101 : x10_1 < (l1.length : Int) := of_decide_eq_true (by first | (with_reducible assumption) | assumption)
              obtain ⟨ad101, e101, hx101_0, hx101_1, hx101_2, hx101_3, hx101_4, hx101_5, hx101_6⟩ := at_T103 HR1.out x10_1 p101 q101
              cases e101
              replace hx101_0 := (HB.out.cell (World.block_lt_of_cell? w _ hx101_0)).trans hx101_0
              replace hx101_1 := (HB.out.cell (World.block_lt_of_cell? w _ hx101_1)).trans hx101_1
              replace hx101_2 := (HB.out.cell (World.block_lt_of_cell? w _ hx101_2)).trans hx101_2
              replace hx101_3 := (HB.out.cell (World.block_lt_of_cell? w _ hx101_3)).trans hx101_3
              replace hx101_4 := (HB.out.cell (World.block_lt_of_cell? w _ hx101_4)).trans hx101_4
              replace hx101_5 := (HB.out.cell (World.block_lt_of_cell? w _ hx101_5)).trans hx101_5
              replace hx101_6 := (HB.out.cell (World.block_lt_of_cell? w _ hx101_6)).trans hx101_6
              replace p101 := eq_true p101
              replace q101 := eq_true q101
              go_wp2_with (first | ((with_reducible refine gate_dst (N := 7) rfl ?_); refine box_event ?hg (N := 7) ?hd (cs := #[.int .i64 0, .int .i64 0, .float .f64 0, .bool false, .int .i64 0, .int .i64 0, .bool false]) (t := 103) ?hr ?_; (case hd => rfl); (case hg => rfl); (case hr => first | (go_simp; done) | (go_simp; rfl)); intro gb102 hg w12 hbox hb; have n0_ := Aside0.mk (below_step (by repeat (first | (with_reducible first | exact HB.out | apply below_alloc | apply pw_below_drewN | apply below_drew1) | exact HB.out)) hb); have n1_ := Aside0.mk (hbox); have n2_ := Aside0.mk ((by rw [hg]; exact (below_size (by repeat (first | (with_reducible first | exact HB.out | apply below_alloc | apply pw_below_drewN | apply below_drew1) | exact HB.out))) : w.heap.size ≤ gb102)); have n3_ := Aside0.mk ((by rw [hg]; exact (below_size (by repeat (first | (with_reducible first | exact HB.out | apply below_alloc | apply pw_below_drewN | apply below_drew1) | exact HB.out))) : w.heap.size ≤ gb102)); clear HB; have HB := n0_; have BK102 := n1_; have GW102 := n2_; have GE102 := n3_; clear n0_ n1_ n2_ n3_; clear hb hbox hg; have hcz13_0 : w12.cell? ⟨gb102, 0, none⟩ = some (.int .i64 0) := (blk_cell BK102.out 0).trans rfl; have hcz13_1 : w12.cell? ⟨gb102, 1, none⟩ = some (.int .i64 0) := (blk_cell BK102.out 1).trans rfl; have hcz13_2 : w12.cell? ⟨gb102, 2, none⟩ = some (.float .f64 0) := (blk_cell BK102.out 2).trans rfl; have hcz13_3 : w12.cell? ⟨gb102, 3, none⟩ = some (.bool false) := (blk_cell BK102.out 3).trans rfl; have hcz13_4 : w12.cell? ⟨gb102, 4, none⟩ = some (.int .i64 0) := (blk_cell BK102.out 4).trans rfl; have hcz13_5 : w12.cell? ⟨gb102, 5, none⟩ = some (.int .i64 0) := (blk_cell BK102.out 5).trans rfl; have hcz13_6 : w12.cell? ⟨gb102, 6, none⟩ = some (.bool false) := (blk_cell BK102.out 6).trans rfl; have hfz13_0 := blk_frozen BK102.out 0; have hfz13_1 := blk_frozen BK102.out 1; have hfz13_2 := blk_frozen BK102.out 2; have hfz13_3 := blk_frozen BK102.out 3; have hfz13_4 := blk_frozen BK102.out 4; have hfz13_5 := blk_frozen BK102.out 5; have hfz13_6 := blk_frozen BK102.out 6))
              go_roundg k1
              case measure => have := HK1.out; omega
              case rel => exact ⟨(wrap64 (x10_1 + 1)), (by first | rfl | (simp; done) | (simp [*]; done)), H', ⟨by have := HK1.out; omega⟩, ⟨by repeat (first | (with_reducible first | exact HB.out | apply below_alloc | apply pw_below_drewN | apply below_drew1 | refine below_set ?_ GE102.out) | exact HB.out)⟩⟩
          · rw [if_neg c5] at H
            exact absurd H (by simp)
        · rw [if_neg c4] at H
          exact absurd H (by simp)
      · rw [if_neg c3] at H
        have c3b0 : decide (x10_1 < (l1.length : Int)) = false := decide_eq_false c3
        clear c3
        simp only [Option.some.injEq, Prod.mk.injEq] at H
        obtain ⟨rfl, rfl⟩ := H
        go_wp2
        go_ret2
        exact ⟨by first | rfl | (simp [errW_none, errW_some] <;> rfl) | (simp [*, errW_none, errW_some] <;> rfl), by repeat (first | (with_reducible first | exact HB.out | apply below_alloc | apply pw_below_drewN | apply below_drew1) | exact HB.out)⟩

end Go.Proofs.Ytjefbpfpobgmaaa.PLv
