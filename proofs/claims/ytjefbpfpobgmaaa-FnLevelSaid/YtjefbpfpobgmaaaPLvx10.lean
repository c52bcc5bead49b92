/- Contracts of functions that the text "Lv" uses: the call ends in what the plain Lean function says, where that says something. Written by a program of this session. No conditions. -/
import Derived.Test.YtjefbpfpobgmaaaPLvx0
namespace Go.Proofs.Ytjefbpfpobgmaaa.PLv
open Go.RowKit Go.Proofs.YtjefbpfpobgmaaaW.PrintWords Go.Proofs.YtjefbpfpobgmaaaW.PrintLast Go.Proofs.YtjefbpfpobgmaaaW.PrintMore
attribute [local go_sem] Go.Proofs.Ytjefbpfpobgmaaa.Flt.run_store_float max2_int min2_int max_two min_two max_three min_three max_four min_four   -- for this text's walks alone
set_option linter.unusedVariables false
set_option linter.unusedSimpArgs false

/-! ### laws_refLine: function 13 -/
def laws_refLine.l0 : Nat → List (S34) → Int → Int → Option (Int × Int × Int × Int × Nat × Bool × Bool)
  | 0, _, _, _ => none
  | k + 1, x0, x1, x5 => if x5 < (x0.length : Int) then (if 0 ≤ x5 then (if ((rd_T34 x0 x5).f0) ≤ x1 then (if x1 ≤ ((rd_T34 x0 x5).f1) then (some (x1, x1, (rd_T34 x0 x5).f2, (rd_T34 x0 x5).f3, (rd_T34 x0 x5).f4, (rd_T34 x0 x5).f5, (rd_T34 x0 x5).f6)) else (laws_refLine.l0 k x0 x1 (wrap64 (x5 + 1)))) else (laws_refLine.l0 k x0 x1 (wrap64 (x5 + 1)))) else (none)) else (some (x1, x1, 0, 0, 0, false, false))
def laws_refLine.f (k : Nat) (l0 : List (S34)) (a1 : Int) : Option (Int × Int × Int × Int × Nat × Bool × Bool) := laws_refLine.l0 k l0 a1 0
theorem laws_refLine.mono_l : ∀ k, (∀ y0 y1 y2, LeO (laws_refLine.l0 k y0 y1 y2) (laws_refLine.l0 (k + 1) y0 y1 y2))
  | 0 => fun _ _ _ r h => by simp [laws_refLine.l0] at h
  | k + 1 => by
    have ih0 := laws_refLine.mono_l k
    · intro y0 y1 y2
      unfold laws_refLine.l0
      repeat' first
      | (with_reducible exact ih0 _ _ _)
      | (with_reducible exact LeO.refl _)
      | (with_reducible exact LeO.none _)
      | (with_reducible refine LeO.ite ?_ ?_)
      | (with_reducible refine LeO.bind ?_ (fun _ => ?_))
      | exact ih0 _ _ _
      | exact LeO.none _
      | refine LeO.ite ?_ ?_
      | refine LeO.bind ?_ (fun _ => ?_)
theorem laws_refLine.mono : ∀ a0 a1 k, LeO (laws_refLine.f k a0 a1) (laws_refLine.f (k + 1) a0 a1) := by
  intro a0 a1 k
  have ih0 := laws_refLine.mono_l k
  unfold laws_refLine.f
  repeat' first
      | (with_reducible exact ih0 _ _ _)
      | (with_reducible exact LeO.refl _)
      | (with_reducible exact LeO.none _)
      | (with_reducible refine LeO.ite ?_ ?_)
      | (with_reducible refine LeO.bind ?_ (fun _ => ?_))
      | exact ih0 _ _ _
      | exact LeO.none _
      | refine LeO.ite ?_ ?_
      | refine LeO.bind ?_ (fun _ => ?_)
set_option maxHeartbeats 8000000 in
set_option maxRecDepth 100000 in
theorem laws_refLine.calls (k : Nat) (A0 : Option Addr) (c0 : Nat) (l0 : List (S34)) (a1 : Int) (r1 : Int) (r2 : Int) (r3 : Int) (r4 : Int) (r5 : Nat) (r6 : Bool) (r7 : Bool) (w : World) (hr0 : Kd.C k34 w A0 l0.length l0) (hc0 : l0.length ≤ c0) (h : laws_refLine.f k l0 a1 = some (r1, r2, r3, r4, r5, r6, r7)) :
    Calls Try.prog 13 #[.slice A0 l0.length c0, .int .i64 a1] w fun e w' => e = .returned (.agg #[.int .i64 r1, .int .i64 r2, .int .i64 r3, .int .i64 r4, .float .f64 r5, .bool r6, .bool r7]) ∧ Below w.heap.size w w' := by
  have hu34 := Try.underlying34
  have HR0 := Aside0.mk hr0
  have HC0 := Aside0.mk hc0
  clear hr0 hc0
  have HB := Aside0.mk (Below.refl w.heap.size w)
  have H : (laws_refLine.l0 k l0 a1 0) = some (r1, r2, r3, r4, r5, r6, r7) := h
  clear h
  have H' := Aside0.mk H
  clear H
  go_enter Try.func13, Try.ntmps13
  go_wp2_with (first | ((with_reducible refine gate_dst (N := 4) rfl ?_); refine box_event ?hg (N := 4) ?hd (cs := #[.int .i64 0, .int .i64 0, .int .i64 0, .int .i64 0, .float .f64 0, .bool false, .bool false]) (t := 34) ?hr ?_; (case hd => rfl); (case hg => rfl); (case hr => first | (go_simp; done) | (go_simp; rfl)); intro gb161 hg w3 hbox hb; have n0_ := Aside0.mk (below_step (by repeat (first | (with_reducible first | exact HB.out | apply below_alloc | apply pw_below_drewN | apply below_drew1) | exact HB.out)) hb); have n1_ := Aside0.mk (hbox); have n2_ := Aside0.mk ((by rw [hg]; exact (below_size (by repeat (first | (with_reducible first | exact HB.out | apply below_alloc | apply pw_below_drewN | apply below_drew1) | exact HB.out))) : w.heap.size ≤ gb161)); have n3_ := Aside0.mk ((by rw [hg]; exact (below_size (by repeat (first | (with_reducible first | exact HB.out | apply below_alloc | apply pw_below_drewN | apply below_drew1) | exact HB.out))) : w.heap.size ≤ gb161)); clear HB; have HB := n0_; have BK161 := n1_; have GW161 := n2_; have GE161 := n3_; clear n0_ n1_ n2_ n3_; clear hb hbox hg))
  go_loopg [5] k (fun kq v5 w' => ∃ (x5_1 : Int) (x162000_1 : Int) (x162001_1 : Int) (x162002_1 : Int) (x162003_1 : Int) (x162004_1 : Nat) (x162005_1 : Bool) (x162006_1 : Bool), v5 = .int .i64 x5_1 ∧ Aside0 (laws_refLine.l0 kq l0 a1 x5_1 = some (r1, r2, r3, r4, r5, r6, r7)) ∧ Aside0 (kq ≤ k) ∧ Aside0 (w'.heap[gb161]? = some (.cells #[.int .i64 x162000_1, .int .i64 x162001_1, .int .i64 x162002_1, .int .i64 x162003_1, .float .f64 x162004_1, .bool x162005_1, .bool x162006_1] 34 (0, 0))) ∧ Aside0 (Below w.heap.size w w'))
  case atStart => exact ⟨(0), (0), (0), (0), (0), (0), (false), (false), (by first | rfl | (simp; done) | (simp [*]; done)), H', ⟨Nat.le_refl _⟩, ⟨by (with_reducible repeat (first | refine blk_drewN ?_ _ | refine blk_drew ?_ | refine blk_alloc ?_ _)); exact BK161.out⟩, ⟨by repeat (first | (with_reducible first | exact HB.out | apply below_alloc | apply pw_below_drewN | apply below_drew1 | refine below_set ?_ GE161.out) | exact HB.out)⟩⟩
  case round =>
    clear H'
    try clear c1
    try clear p2
    obtain ⟨x5_1, x162000_1, x162001_1, x162002_1, x162003_1, x162004_1, x162005_1, x162006_1, rfl, HA, HK1, BK161, HB⟩ := hrel
    cases gk with
    | zero => exact absurd HA.out (by simp [laws_refLine.l0])
    | succ k1 =>
      have H := HA.out
      clear HA
      simp only [laws_refLine.l0] at H
      by_cases c4 : x5_1 < (l0.length : Int)
      · rw [if_pos c4] at H
        have c4b0 : decide (x5_1 < (l0.length : Int)) = true := decide_eq_true c4
        clear c4
        by_cases c5 : 0 ≤ x5_1
        · rw [if_pos c5] at H
          have c5b0 : decide (0 ≤ x5_1) = true := decide_eq_true c5
          clear c5
          by_cases c6 : ((rd_T34 l0 x5_1).f0) ≤ a1
          · rw [if_pos c6] at H
            have c6b0 : decide (((rd_T34 l0 x5_1).f0) ≤ a1) = true := decide_eq_true c6
            clear c6
            by_cases c7 : a1 ≤ ((rd_T34 l0 x5_1).f1)
            · rw [if_pos c7] at H
              have c7b0 : decide (a1 ≤ ((rd_T34 l0 x5_1).f1)) = true := decide_eq_true c7
              clear c7
              simp only [Option.some.injEq, Prod.mk.injEq] at H
              obtain ⟨rfl, rfl, rfl, rfl, rfl, rfl, rfl⟩ := H
              have p162 : 0 ≤ (x5_1 : Int) := of_decide_eq_true (by first | (with_reducible assumption) | assumption)
              have q162 : x5_1 < (l0.length : Int) := of_decide_eq_true (by first | (with_reducible assumption) | assumption)
              obtain ⟨ad162, e162, hx162_0, hx162_1, hx162_2, hx162_3, hx162_4, hx162_5, hx162_6⟩ := at_T34 HR0.out x5_1 p162 q162
              cases e162
              replace hx162_0 := (HB.out.cell (World.block_lt_of_cell? w _ hx162_0)).trans hx162_0
              replace hx162_1 := (HB.out.cell (World.block_lt_of_cell? w _ hx162_1)).trans hx162_1
              replace hx162_2 := (HB.out.cell (World.block_lt_of_cell? w _ hx162_2)).trans hx162_2
              replace hx162_3 := (HB.out.cell (World.block_lt_of_cell? w _ hx162_3)).trans hx162_3
              replace hx162_4 := (HB.out.cell (World.block_lt_of_cell? w _ hx162_4)).trans hx162_4
              replace hx162_5 := (HB.out.cell (World.block_lt_of_cell? w _ hx162_5)).trans hx162_5
              replace hx162_6 := (HB.out.cell (World.block_lt_of_cell? w _ hx162_6)).trans hx162_6
              replace p162 := eq_true p162
              replace q162 := eq_true q162
              have p163 : 0 ≤ (x5_1 : Int) := of_decide_eq_true (by first | (with_reducible assumption) | assumption)
              have q163 : x5_1 < (l0.length : Int) := of_decide_eq_true (by first | (with_reducible assumption) | assumption)
              obtain ⟨ad163, e163, hx163_0, hx163_1, hx163_2, hx163_3, hx163_4, hx163_5, hx163_6⟩ := at_T34 HR0.out x5_1 p163 q163
              obtain rfl : ad162 = ad163 := (by injection e163)
              replace hx163_0 := (HB.out.cell (World.block_lt_of_cell? w _ hx163_0)).trans hx163_0
              replace hx163_1 := (HB.out.cell (World.block_lt_of_cell? w _ hx163_1)).trans hx163_1
              replace hx163_2 := (HB.out.cell (World.block_lt_of_cell? w _ hx163_2)).trans hx163_2
              replace hx163_3 := (HB.out.cell (World.block_lt_of_cell? w _ hx163_3)).trans hx163_3
              replace hx163_4 := (HB.out.cell (World.block_lt_of_cell? w _ hx163_4)).trans hx163_4
              replace hx163_5 := (HB.out.cell (World.block_lt_of_cell? w _ hx163_5)).trans hx163_5
              replace hx163_6 := (HB.out.cell (World.block_lt_of_cell? w _ hx163_6)).trans hx163_6
              replace p163 := eq_true p163
              replace q163 := eq_true q163
              have p164 : 0 ≤ (x5_1 : Int) := of_decide_eq_true (by first | (with_reducible assumption) | assumption)
              have q164 : x5_1 < (l0.length : Int) := of_decide_eq_true (by first | (with_reducible assumption) | assumption)
              obtain ⟨ad164, e164, hx164_0, hx164_1, hx164_2, hx164_3, hx164_4, hx164_5, hx164_6⟩ := at_T34 HR0.out x5_1 p164 q164
              obtain rfl : ad162 = ad164 := (by injection e164)
              replace hx164_0 := (HB.out.cell (World.block_lt_of_cell? w _ hx164_0)).trans hx164_0
              replace hx164_1 := (HB.out.cell (World.block_lt_of_cell? w _ hx164_1)).trans hx164_1
              replace hx164_2 := (HB.out.cell (World.block_lt_of_cell? w _ hx164_2)).trans hx164_2
              replace hx164_3 := (HB.out.cell (World.block_lt_of_cell? w _ hx164_3)).trans hx164_3
              replace hx164_4 := (HB.out.cell (World.block_lt_of_cell? w _ hx164_4)).trans hx164_4
              replace hx164_5 := (HB.out.cell (World.block_lt_of_cell? w _ hx164_5)).trans hx164_5
              replace hx164_6 := (HB.out.cell (World.block_lt_of_cell? w _ hx164_6)).trans hx164_6
              replace p164 := eq_true p164
              replace q164 := eq_true q164
              go_wp2_with (first | ((with_reducible refine gate_dst (N := 6) rfl ?_); refine box_event ?hg (N := 6) ?hd (cs := #[.int .i64 0, .int .i64 0, .int .i64 0, .int .i64 0, .float .f64 0, .bool false, .bool false]) (t := 34) ?hr ?_; (case hd => rfl); (case hg => rfl); (case hr => first | (go_simp; done) | (go_simp; rfl)); intro gb165 hg w8 hbox hb; have n0_ := Aside0.mk (blk_below (g := gb161) (o := .cells #[.int .i64 x162000_1, .int .i64 x162001_1, .int .i64 x162002_1, .int .i64 x162003_1, .float .f64 x162004_1, .bool x162005_1, .bool x162006_1] 34 (0, 0)) (by (with_reducible repeat (first | refine blk_drewN ?_ _ | refine blk_drew ?_ | refine blk_alloc ?_ _)); exact BK161.out) hb); have n1_ := Aside0.mk (below_step (by repeat (first | (with_reducible first | exact HB.out | apply below_alloc | apply pw_below_drewN | apply below_drew1 | refine below_set ?_ GE161.out) | exact HB.out)) hb); have n2_ := Aside0.mk (hbox); have n3_ := Aside0.mk ((by rw [hg]; exact (below_size (by repeat (first | (with_reducible first | exact HB.out | apply below_alloc | apply pw_below_drewN | apply below_drew1 | refine below_set ?_ GE161.out) | exact HB.out))) : w.heap.size ≤ gb165)); have n4_ := Aside0.mk ((by rw [hg]; exact (below_size (by repeat (first | (with_reducible first | exact HB.out | apply below_alloc | apply pw_below_drewN | apply below_drew1 | refine below_set ?_ GE161.out) | exact HB.out))) : w.heap.size ≤ gb165)); have n5_ := Aside0.mk ((by rw [hg]; exact Nat.ne_of_lt (blk_lt (g := gb161) (o := .cells #[.int .i64 x162000_1, .int .i64 x162001_1, .int .i64 x162002_1, .int .i64 x162003_1, .float .f64 x162004_1, .bool x162005_1, .bool x162006_1] 34 (0, 0)) (by (with_reducible repeat (first | refine blk_drewN ?_ _ | refine blk_drew ?_ | refine blk_alloc ?_ _)); exact BK161.out)) : gb161 ≠ gb165)); have n6_ := Aside0.mk ((by rw [hg]; exact Nat.ne_of_gt (blk_lt (g := gb161) (o := .cells #[.int .i64 x162000_1, .int .i64 x162001_1, .int .i64 x162002_1, .int .i64 x162003_1, .float .f64 x162004_1, .bool x162005_1, .bool x162006_1] 34 (0, 0)) (by (with_reducible repeat (first | refine blk_drewN ?_ _ | refine blk_drew ?_ | refine blk_alloc ?_ _)); exact BK161.out)) : gb165 ≠ gb161)); clear BK161; clear HB; have BK161 := n0_; have HB := n1_; have BK165 := n2_; have GW165 := n3_; have GE165 := n4_; have NB161_165 := n5_; have NB165_161 := n6_; clear n0_ n1_ n2_ n3_ n4_ n5_ n6_; clear hb hbox hg; have hnb9 := NB165_161.out; have hnc9 := NB161_165.out; have hcz10_0 : w8.cell? ⟨gb165, 0, none⟩ = some (.int .i64 0) := (blk_cell BK165.out 0).trans rfl; have hcz10_1 : w8.cell? ⟨gb165, 1, none⟩ = some (.int .i64 0) := (blk_cell BK165.out 1).trans rfl; have hcz10_2 : w8.cell? ⟨gb165, 2, none⟩ = some (.int .i64 0) := (blk_cell BK165.out 2).trans rfl; have hcz10_3 : w8.cell? ⟨gb165, 3, none⟩ = some (.int .i64 0) := (blk_cell BK165.out 3).trans rfl; have hcz10_4 : w8.cell? ⟨gb165, 4, none⟩ = some (.float .f64 0) := (blk_cell BK165.out 4).trans rfl; have hcz10_5 : w8.cell? ⟨gb165, 5, none⟩ = some (.bool false) := (blk_cell BK165.out 5).trans rfl; have hcz10_6 : w8.cell? ⟨gb165, 6, none⟩ = some (.bool false) := (blk_cell BK165.out 6).trans rfl; have hfz10_0 := blk_frozen BK165.out 0; have hfz10_1 := blk_frozen BK165.out 1; have hfz10_2 := blk_frozen BK165.out 2; have hfz10_3 := blk_frozen BK165.out 3; have hfz10_4 := blk_frozen BK165.out 4; have hfz10_5 := blk_frozen BK165.out 5; have hfz10_6 := blk_frozen BK165.out 6; have hcz11_0 : w8.cell? ⟨gb161, 0, none⟩ = some (.int .i64 x162000_1) := (blk_cell BK161.out 0).trans rfl; have hcz11_1 : w8.cell? ⟨gb161, 1, none⟩ = some (.int .i64 x162001_1) := (blk_cell BK161.out 1).trans rfl; have hcz11_2 : w8.cell? ⟨gb161, 2, none⟩ = some (.int .i64 x162002_1) := (blk_cell BK161.out 2).trans rfl; have hcz11_3 : w8.cell? ⟨gb161, 3, none⟩ = some (.int .i64 x162003_1) := (blk_cell BK161.out 3).trans rfl; have hcz11_4 : w8.cell? ⟨gb161, 4, none⟩ = some (.float .f64 x162004_1) := (blk_cell BK161.out 4).trans rfl; have hcz11_5 : w8.cell? ⟨gb161, 5, none⟩ = some (.bool x162005_1) := (blk_cell BK161.out 5).trans rfl; have hcz11_6 : w8.cell? ⟨gb161, 6, none⟩ = some (.bool x162006_1) := (blk_cell BK161.out 6).trans rfl; have hfz11_0 := blk_frozen BK161.out 0; have hfz11_1 := blk_frozen BK161.out 1; have hfz11_2 := blk_frozen BK161.out 2; have hfz11_3 := blk_frozen BK161.out 3; have hfz11_4 := blk_frozen BK161.out 4; have hfz11_5 := blk_frozen BK161.out 5; have hfz11_6 := blk_frozen BK161.out 6) | ((with_reducible refine gate_store (t := 34) (p := 6) rfl ?_); refine store_event (t := 34) (p := 6) (v := ?vo_w8a) (w1 := Flt.sets w8 gb165 0 [.int .i64 ((rd_T34 l0 x5_1).f0), .int .i64 ((rd_T34 l0 x5_1).f1), .int .i64 ((rd_T34 l0 x5_1).f2), .int .i64 ((rd_T34 l0 x5_1).f3), .float .f64 ((rd_T34 l0 x5_1).f4), .bool ((rd_T34 l0 x5_1).f5), .bool ((rd_T34 l0 x5_1).f6)]) ?hg ?ho ?hn ?hr ?_; (case ho => rfl); (case hg => rfl); (case hn => rfl); (case hr => first | (go_simp; done) | (go_simp; rfl)); intro w8a hw; have m0_ := Aside0.mk (show w8a.heap[gb165]? = some (.cells #[.int .i64 ((rd_T34 l0 x5_1).f0), .int .i64 ((rd_T34 l0 x5_1).f1), .int .i64 ((rd_T34 l0 x5_1).f2), .int .i64 ((rd_T34 l0 x5_1).f3), .float .f64 ((rd_T34 l0 x5_1).f4), .bool ((rd_T34 l0 x5_1).f5), .bool ((rd_T34 l0 x5_1).f6)] 34 (0, 0)) by rw [hw]; exact Flt.sets_all [.int .i64 ((rd_T34 l0 x5_1).f0), .int .i64 ((rd_T34 l0 x5_1).f1), .int .i64 ((rd_T34 l0 x5_1).f2), .int .i64 ((rd_T34 l0 x5_1).f3), .float .f64 ((rd_T34 l0 x5_1).f4), .bool ((rd_T34 l0 x5_1).f5), .bool ((rd_T34 l0 x5_1).f6)] BK165.out rfl); have m1_ := Aside0.mk (show w8a.heap[gb161]? = some (.cells #[.int .i64 x162000_1, .int .i64 x162001_1, .int .i64 x162002_1, .int .i64 x162003_1, .float .f64 x162004_1, .bool x162005_1, .bool x162006_1] 34 (0, 0)) by rw [hw]; exact (Flt.sets_far NB161_165.out _ _ _).trans BK161.out); have mb_ := Aside0.mk (show Below w.heap.size w w8a by rw [hw]; exact Flt.sets_below GE165.out _ _ _ HB.out); clear hw; clear BK165; clear BK161; clear HB; have BK165 := m0_; have BK161 := m1_; have HB := mb_; clear m0_ m1_ mb_; clear hcz10_0; clear hcz10_1; clear hcz10_2; clear hcz10_3; clear hcz10_4; clear hcz10_5; clear hcz10_6; clear hfz10_0; clear hfz10_1; clear hfz10_2; clear hfz10_3; clear hfz10_4; clear hfz10_5; clear hfz10_6; clear hcz11_0; clear hcz11_1; clear hcz11_2; clear hcz11_3; clear hcz11_4; clear hcz11_5; clear hcz11_6; clear hfz11_0; clear hfz11_1; clear hfz11_2; clear hfz11_3; clear hfz11_4; clear hfz11_5; clear hfz11_6; have hcz10a_0 : w8a.cell? ⟨gb165, 0, none⟩ = some (.int .i64 ((rd_T34 l0 x5_1).f0)) := (blk_cell BK165.out 0).trans rfl; have hcz10a_1 : w8a.cell? ⟨gb165, 1, none⟩ = some (.int .i64 ((rd_T34 l0 x5_1).f1)) := (blk_cell BK165.out 1).trans rfl; have hcz10a_2 : w8a.cell? ⟨gb165, 2, none⟩ = some (.int .i64 ((rd_T34 l0 x5_1).f2)) := (blk_cell BK165.out 2).trans rfl; have hcz10a_3 : w8a.cell? ⟨gb165, 3, none⟩ = some (.int .i64 ((rd_T34 l0 x5_1).f3)) := (blk_cell BK165.out 3).trans rfl; have hcz10a_4 : w8a.cell? ⟨gb165, 4, none⟩ = some (.float .f64 ((rd_T34 l0 x5_1).f4)) := (blk_cell BK165.out 4).trans rfl; have hcz10a_5 : w8a.cell? ⟨gb165, 5, none⟩ = some (.bool ((rd_T34 l0 x5_1).f5)) := (blk_cell BK165.out 5).trans rfl; have hcz10a_6 : w8a.cell? ⟨gb165, 6, none⟩ = some (.bool ((rd_T34 l0 x5_1).f6)) := (blk_cell BK165.out 6).trans rfl; have hfz10a_0 := blk_frozen BK165.out 0; have hfz10a_1 := blk_frozen BK165.out 1; have hfz10a_2 := blk_frozen BK165.out 2; have hfz10a_3 := blk_frozen BK165.out 3; have hfz10a_4 := blk_frozen BK165.out 4; have hfz10a_5 := blk_frozen BK165.out 5; have hfz10a_6 := blk_frozen BK165.out 6) | ((with_reducible refine gate_store (t := 3) (p := 35) rfl ?_); refine store_event (t := 3) (p := 35) (v := ?vo_w8b) (w1 := w8a.setCell ⟨gb165, 0, none⟩ (.int .i64 a1)) ?hg ?ho ?hn ?hr ?_; (case ho => rfl); (case hg => rfl); (case hn => rfl); (case hr => first | (go_simp; done) | (go_simp; rfl)); intro w8b hw; have m0_ := Aside0.mk (show w8b.heap[gb165]? = some (.cells #[.int .i64 a1, .int .i64 ((rd_T34 l0 x5_1).f1), .int .i64 ((rd_T34 l0 x5_1).f2), .int .i64 ((rd_T34 l0 x5_1).f3), .float .f64 ((rd_T34 l0 x5_1).f4), .bool ((rd_T34 l0 x5_1).f5), .bool ((rd_T34 l0 x5_1).f6)] 34 (0, 0)) by rw [hw]; exact blk_put BK165.out 0 _ rfl); have m1_ := Aside0.mk (show w8b.heap[gb161]? = some (.cells #[.int .i64 x162000_1, .int .i64 x162001_1, .int .i64 x162002_1, .int .i64 x162003_1, .float .f64 x162004_1, .bool x162005_1, .bool x162006_1] 34 (0, 0)) by rw [hw]; exact (Below.heap_setCell _ _ _ _ (NB161_165.out)).trans BK161.out); have mb_ := Aside0.mk (show Below w.heap.size w w8b by rw [hw]; exact below_set HB.out GE165.out); clear hw; clear BK165; clear BK161; clear HB; have BK165 := m0_; have BK161 := m1_; have HB := mb_; clear m0_ m1_ mb_; clear hcz10a_0; clear hcz10a_1; clear hcz10a_2; clear hcz10a_3; clear hcz10a_4; clear hcz10a_5; clear hcz10a_6; clear hfz10a_0; clear hfz10a_1; clear hfz10a_2; clear hfz10a_3; clear hfz10a_4; clear hfz10a_5; clear hfz10a_6; have hcz10b_0 : w8b.cell? ⟨gb165, 0, none⟩ = some (.int .i64 a1) := (blk_cell BK165.out 0).trans rfl; have hcz10b_1 : w8b.cell? ⟨gb165, 1, none⟩ = some (.int .i64 ((rd_T34 l0 x5_1).f1)) := (blk_cell BK165.out 1).trans rfl; have hcz10b_2 : w8b.cell? ⟨gb165, 2, none⟩ = some (.int .i64 ((rd_T34 l0 x5_1).f2)) := (blk_cell BK165.out 2).trans rfl; have hcz10b_3 : w8b.cell? ⟨gb165, 3, none⟩ = some (.int .i64 ((rd_T34 l0 x5_1).f3)) := (blk_cell BK165.out 3).trans rfl; have hcz10b_4 : w8b.cell? ⟨gb165, 4, none⟩ = some (.float .f64 ((rd_T34 l0 x5_1).f4)) := (blk_cell BK165.out 4).trans rfl; have hcz10b_5 : w8b.cell? ⟨gb165, 5, none⟩ = some (.bool ((rd_T34 l0 x5_1).f5)) := (blk_cell BK165.out 5).trans rfl; have hcz10b_6 : w8b.cell? ⟨gb165, 6, none⟩ = some (.bool ((rd_T34 l0 x5_1).f6)) := (blk_cell BK165.out 6).trans rfl; have hfz10b_0 := blk_frozen BK165.out 0; have hfz10b_1 := blk_frozen BK165.out 1; have hfz10b_2 := blk_frozen BK165.out 2; have hfz10b_3 := blk_frozen BK165.out 3; have hfz10b_4 := blk_frozen BK165.out 4; have hfz10b_5 := blk_frozen BK165.out 5; have hfz10b_6 := blk_frozen BK165.out 6) | ((with_reducible refine gate_store (t := 3) (p := 36) rfl ?_); refine store_event (t := 3) (p := 36) (v := ?vo_w8c) (w1 := w8b.setCell ⟨gb165, 1, none⟩ (.int .i64 a1)) ?hg ?ho ?hn ?hr ?_; (case ho => rfl); (case hg => rfl); (case hn => rfl); (case hr => first | (go_simp; done) | (go_simp; rfl)); intro w8c hw; have m0_ := Aside0.mk (show w8c.heap[gb165]? = some (.cells #[.int .i64 a1, .int .i64 a1, .int .i64 ((rd_T34 l0 x5_1).f2), .int .i64 ((rd_T34 l0 x5_1).f3), .float .f64 ((rd_T34 l0 x5_1).f4), .bool ((rd_T34 l0 x5_1).f5), .bool ((rd_T34 l0 x5_1).f6)] 34 (0, 0)) by rw [hw]; exact blk_put BK165.out 1 _ rfl); have m1_ := Aside0.mk (show w8c.heap[gb161]? = some (.cells #[.int .i64 x162000_1, .int .i64 x162001_1, .int .i64 x162002_1, .int .i64 x162003_1, .float .f64 x162004_1, .bool x162005_1, .bool x162006_1] 34 (0, 0)) by rw [hw]; exact (Below.heap_setCell _ _ _ _ (NB161_165.out)).trans BK161.out); have mb_ := Aside0.mk (show Below w.heap.size w w8c by rw [hw]; exact below_set HB.out GE165.out); clear hw; clear BK165; clear BK161; clear HB; have BK165 := m0_; have BK161 := m1_; have HB := mb_; clear m0_ m1_ mb_; clear hcz10b_0; clear hcz10b_1; clear hcz10b_2; clear hcz10b_3; clear hcz10b_4; clear hcz10b_5; clear hcz10b_6; clear hfz10b_0; clear hfz10b_1; clear hfz10b_2; clear hfz10b_3; clear hfz10b_4; clear hfz10b_5; clear hfz10b_6; have hcz10c_0 : w8c.cell? ⟨gb165, 0, none⟩ = some (.int .i64 a1) := (blk_cell BK165.out 0).trans rfl; have hcz10c_1 : w8c.cell? ⟨gb165, 1, none⟩ = some (.int .i64 a1) := (blk_cell BK165.out 1).trans rfl; have hcz10c_2 : w8c.cell? ⟨gb165, 2, none⟩ = some (.int .i64 ((rd_T34 l0 x5_1).f2)) := (blk_cell BK165.out 2).trans rfl; have hcz10c_3 : w8c.cell? ⟨gb165, 3, none⟩ = some (.int .i64 ((rd_T34 l0 x5_1).f3)) := (blk_cell BK165.out 3).trans rfl; have hcz10c_4 : w8c.cell? ⟨gb165, 4, none⟩ = some (.float .f64 ((rd_T34 l0 x5_1).f4)) := (blk_cell BK165.out 4).trans rfl; have hcz10c_5 : w8c.cell? ⟨gb165, 5, none⟩ = some (.bool ((rd_T34 l0 x5_1).f5)) := (blk_cell BK165.out 5).trans rfl; have hcz10c_6 : w8c.cell? ⟨gb165, 6, none⟩ = some (.bool ((rd_T34 l0 x5_1).f6)) := (blk_cell BK165.out 6).trans rfl; have hfz10c_0 := blk_frozen BK165.out 0; have hfz10c_1 := blk_frozen BK165.out 1; have hfz10c_2 := blk_frozen BK165.out 2; have hfz10c_3 := blk_frozen BK165.out 3; have hfz10c_4 := blk_frozen BK165.out 4; have hfz10c_5 := blk_frozen BK165.out 5; have hfz10c_6 := blk_frozen BK165.out 6; have hcz11c_0 : w8c.cell? ⟨gb161, 0, none⟩ = some (.int .i64 x162000_1) := (blk_cell BK161.out 0).trans rfl; have hcz11c_1 : w8c.cell? ⟨gb161, 1, none⟩ = some (.int .i64 x162001_1) := (blk_cell BK161.out 1).trans rfl; have hcz11c_2 : w8c.cell? ⟨gb161, 2, none⟩ = some (.int .i64 x162002_1) := (blk_cell BK161.out 2).trans rfl; have hcz11c_3 : w8c.cell? ⟨gb161, 3, none⟩ = some (.int .i64 x162003_1) := (blk_cell BK161.out 3).trans rfl; have hcz11c_4 : w8c.cell? ⟨gb161, 4, none⟩ = some (.float .f64 x162004_1) := (blk_cell BK161.out 4).trans rfl; have hcz11c_5 : w8c.cell? ⟨gb161, 5, none⟩ = some (.bool x162005_1) := (blk_cell BK161.out 5).trans rfl; have hcz11c_6 : w8c.cell? ⟨gb161, 6, none⟩ = some (.bool x162006_1) := (blk_cell BK161.out 6).trans rfl; have hfz11c_0 := blk_frozen BK161.out 0; have hfz11c_1 := blk_frozen BK161.out 1; have hfz11c_2 := blk_frozen BK161.out 2; have hfz11c_3 := blk_frozen BK161.out 3; have hfz11c_4 := blk_frozen BK161.out 4; have hfz11c_5 := blk_frozen BK161.out 5; have hfz11c_6 := blk_frozen BK161.out 6) | ((with_reducible refine gate_store (t := 34) (p := 4) rfl ?_); refine store_event (t := 34) (p := 4) (v := ?vo_w8d) (w1 := Flt.sets w8c gb161 0 [.int .i64 a1, .int .i64 a1, .int .i64 ((rd_T34 l0 x5_1).f2), .int .i64 ((rd_T34 l0 x5_1).f3), .float .f64 ((rd_T34 l0 x5_1).f4), .bool ((rd_T34 l0 x5_1).f5), .bool ((rd_T34 l0 x5_1).f6)]) ?hg ?ho ?hn ?hr ?_; (case ho => rfl); (case hg => rfl); (case hn => rfl); (case hr => first | (go_simp; done) | (go_simp; rfl)); intro w8d hw; have m0_ := Aside0.mk (show w8d.heap[gb161]? = some (.cells #[.int .i64 a1, .int .i64 a1, .int .i64 ((rd_T34 l0 x5_1).f2), .int .i64 ((rd_T34 l0 x5_1).f3), .float .f64 ((rd_T34 l0 x5_1).f4), .bool ((rd_T34 l0 x5_1).f5), .bool ((rd_T34 l0 x5_1).f6)] 34 (0, 0)) by rw [hw]; exact Flt.sets_all [.int .i64 a1, .int .i64 a1, .int .i64 ((rd_T34 l0 x5_1).f2), .int .i64 ((rd_T34 l0 x5_1).f3), .float .f64 ((rd_T34 l0 x5_1).f4), .bool ((rd_T34 l0 x5_1).f5), .bool ((rd_T34 l0 x5_1).f6)] BK161.out rfl); have m1_ := Aside0.mk (show w8d.heap[gb165]? = some (.cells #[.int .i64 a1, .int .i64 a1, .int .i64 ((rd_T34 l0 x5_1).f2), .int .i64 ((rd_T34 l0 x5_1).f3), .float .f64 ((rd_T34 l0 x5_1).f4), .bool ((rd_T34 l0 x5_1).f5), .bool ((rd_T34 l0 x5_1).f6)] 34 (0, 0)) by rw [hw]; exact (Flt.sets_far NB165_161.out _ _ _).trans BK165.out); have mb_ := Aside0.mk (show Below w.heap.size w w8d by rw [hw]; exact Flt.sets_below GE161.out _ _ _ HB.out); clear hw; clear BK161; clear BK165; clear HB; have BK161 := m0_; have BK165 := m1_; have HB := mb_; clear m0_ m1_ mb_; clear hcz10c_0; clear hcz10c_1; clear hcz10c_2; clear hcz10c_3; clear hcz10c_4; clear hcz10c_5; clear hcz10c_6; clear hfz10c_0; clear hfz10c_1; clear hfz10c_2; clear hfz10c_3; clear hfz10c_4; clear hfz10c_5; clear hfz10c_6; clear hcz11c_0; clear hcz11c_1; clear hcz11c_2; clear hcz11c_3; clear hcz11c_4; clear hcz11c_5; clear hcz11c_6; clear hfz11c_0; clear hfz11c_1; clear hfz11c_2; clear hfz11c_3; clear hfz11c_4; clear hfz11c_5; clear hfz11c_6))
              refine bodyPost_ret (results_cell_row rfl _ _ gb161 34 #[.int .i64 a1, .int .i64 a1, .int .i64 ((rd_T34 l0 x5_1).f2), .int .i64 ((rd_T34 l0 x5_1).f3), .float .f64 ((rd_T34 l0 x5_1).f4), .bool ((rd_T34 l0 x5_1).f5), .bool ((rd_T34 l0 x5_1).f6)] (0, 0) _ rfl BK161.out Try.underlying34 rfl (by kernel_rfl)) rfl ?_
              exact ⟨by first | rfl | (simp [errW_none, errW_some] <;> rfl) | (simp [*, errW_none, errW_some] <;> rfl), by repeat (first | (with_reducible first | exact HB.out | apply below_alloc | apply pw_below_drewN | apply below_drew1 | refine below_set ?_ GE161.out | refine below_set ?_ GE165.out) | exact HB.out)⟩
            · rw [if_neg c7] at H
              have c7b0 : decide (a1 ≤ ((rd_T34 l0 x5_1).f1)) = false := decide_eq_false c7
              clear c7
              have H' := Aside0.mk H
              clear H
              have p162 : 0 ≤ (x5_1 : Int) := of_decide_eq_true (by first | (with_reducible assumption) | assumption)
              have q162 : x5_1 < (l0.length : Int) := of_decide_eq_true (by first | (with_reducible assumption) | assumption)
              obtain ⟨ad162, e162, hx162_0, hx162_1, hx162_2, hx162_3, hx162_4, hx162_5, hx162_6⟩ := at_T34 HR0.out x5_1 p162 q162
              cases e162
              replace hx162_0 := (HB.out.cell (World.block_lt_of_cell? w _ hx162_0)).trans hx162_0
              replace hx162_1 := (HB.out.cell (World.block_lt_of_cell? w _ hx162_1)).trans hx162_1
              replace hx162_2 := (HB.out.cell (World.block_lt_of_cell? w _ hx162_2)).trans hx162_2
              replace hx162_3 := (HB.out.cell (World.block_lt_of_cell? w _ hx162_3)).trans hx162_3
              replace hx162_4 := (HB.out.cell (World.block_lt_of_cell? w _ hx162_4)).trans hx162_4
              replace hx162_5 := (HB.out.cell (World.block_lt_of_cell? w _ hx162_5)).trans hx162_5
              replace hx162_6 := (HB.out.cell (World.block_lt_of_cell? w _ hx162_6)).trans hx162_6
              replace p162 := eq_true p162
              replace q162 := eq_true q162
              have p163 : 0 ≤ (x5_1 : Int) := of_decide_eq_true (by first | (with_reducible assumption) | assumption)
              have q163 : x5_1 < (l0.length : Int) := of_decide_eq_true (by first | (with_reducible assumption) | assumption)
              obtain ⟨ad163, e163, hx163_0, hx163_1, hx163_2, hx163_3, hx163_4, hx163_5, hx163_6⟩ := at_T34 HR0.out x5_1 p163 q163
              obtain rfl : ad162 = ad163 := (by injection e163)
              replace hx163_0 := (HB.out.cell (World.block_lt_of_cell? w _ hx163_0)).trans hx163_0
              replace hx163_1 := (HB.out.cell (World.block_lt_of_cell? w _ hx163_1)).trans hx163_1
              replace hx163_2 := (HB.out.cell (World.block_lt_of_cell? w _ hx163_2)).trans hx163_2
              replace hx163_3 := (HB.out.cell (World.block_lt_of_cell? w _ hx163_3)).trans hx163_3
              replace hx163_4 := (HB.out.cell (World.block_lt_of_cell? w _ hx163_4)).trans hx163_4
              replace hx163_5 := (HB.out.cell (World.block_lt_of_cell? w _ hx163_5)).trans hx163_5
              replace hx163_6 := (HB.out.cell (World.block_lt_of_cell? w _ hx163_6)).trans hx163_6
              replace p163 := eq_true p163
              replace q163 := eq_true q163
              go_wp2
              go_roundg k1
              case measure => have := HK1.out; omega
              case rel => exact ⟨(wrap64 (x5_1 + 1)), (x162000_1), (x162001_1), (x162002_1), (x162003_1), (x162004_1), (x162005_1), (x162006_1), (by first | rfl | (simp; done) | (simp [*]; done)), H', ⟨by have := HK1.out; omega⟩, ⟨by (with_reducible repeat (first | refine blk_drewN ?_ _ | refine blk_drew ?_ | refine blk_alloc ?_ _)); exact BK161.out⟩, ⟨by repeat (first | (with_reducible first | exact HB.out | apply below_alloc | apply pw_below_drewN | apply below_drew1 | refine below_set ?_ GE161.out) | exact HB.out)⟩⟩
          · rw [if_neg c6] at H
            have c6b0 : decide (((rd_T34 l0 x5_1).f0) ≤ a1) = false := decide_eq_false c6
            clear c6
            have H' := Aside0.mk H
            clear H
            have p162 : 0 ≤ (x5_1 : Int) := of_decide_eq_true (by first | (with_reducible assumption) | assumption)
            have q162 : x5_1 < (l0.length : Int) := of_decide_eq_true (by first | (with_reducible assumption) | assumption)
            obtain ⟨ad162, e162, hx162_0, hx162_1, hx162_2, hx162_3, hx162_4, hx162_5, hx162_6⟩ := at_T34 HR0.out x5_1 p162 q162
            cases e162
            replace hx162_0 := (HB.out.cell (World.block_lt_of_cell? w _ hx162_0)).trans hx162_0
            replace hx162_1 := (HB.out.cell (World.block_lt_of_cell? w _ hx162_1)).trans hx162_1
            replace hx162_2 := (HB.out.cell (World.block_lt_of_cell? w _ hx162_2)).trans hx162_2
            replace hx162_3 := (HB.out.cell (World.block_lt_of_cell? w _ hx162_3)).trans hx162_3
            replace hx162_4 := (HB.out.cell (World.block_lt_of_cell? w _ hx162_4)).trans hx162_4
            replace hx162_5 := (HB.out.cell (World.block_lt_of_cell? w _ hx162_5)).trans hx162_5
            replace hx162_6 := (HB.out.cell (World.block_lt_of_cell? w _ hx162_6)).trans hx162_6
            replace p162 := eq_true p162
            replace q162 := eq_true q162
            go_wp2
            go_roundg k1
            case measure => have := HK1.out; omega
            case rel => exact ⟨(wrap64 (x5_1 + 1)), (x162000_1), (x162001_1), (x162002_1), (x162003_1), (x162004_1), (x162005_1), (x162006_1), (by first | rfl | (simp; done) | (simp [*]; done)), H', ⟨by have := HK1.out; omega⟩, ⟨by (with_reducible repeat (first | refine blk_drewN ?_ _ | refine blk_drew ?_ | refine blk_alloc ?_ _)); exact BK161.out⟩, ⟨by repeat (first | (with_reducible first | exact HB.out | apply below_alloc | apply pw_below_drewN | apply below_drew1 | refine below_set ?_ GE161.out) | exact HB.out)⟩⟩
        · rw [if_neg c5] at H
          exact absurd H (by simp)
      · rw [if_neg c4] at H
        have c4b0 : decide (x5_1 < (l0.length : Int)) = false := decide_eq_false c4
        clear c4
        simp only [Option.some.injEq, Prod.mk.injEq] at H
        obtain ⟨rfl, rfl, rfl, rfl, rfl, rfl, rfl⟩ := H
        have hcz12_0 : wr.cell? ⟨gb161, 0, none⟩ = some (.int .i64 x162000_1) := (blk_cell BK161.out 0).trans rfl
        have hcz12_1 : wr.cell? ⟨gb161, 1, none⟩ = some (.int .i64 x162001_1) := (blk_cell BK161.out 1).trans rfl
        have hcz12_2 : wr.cell? ⟨gb161, 2, none⟩ = some (.int .i64 x162002_1) := (blk_cell BK161.out 2).trans rfl
        have hcz12_3 : wr.cell? ⟨gb161, 3, none⟩ = some (.int .i64 x162003_1) := (blk_cell BK161.out 3).trans rfl
        have hcz12_4 : wr.cell? ⟨gb161, 4, none⟩ = some (.float .f64 x162004_1) := (blk_cell BK161.out 4).trans rfl
        have hcz12_5 : wr.cell? ⟨gb161, 5, none⟩ = some (.bool x162005_1) := (blk_cell BK161.out 5).trans rfl
        have hcz12_6 : wr.cell? ⟨gb161, 6, none⟩ = some (.bool x162006_1) := (blk_cell BK161.out 6).trans rfl
        have hfz12_0 := blk_frozen BK161.out 0
        have hfz12_1 := blk_frozen BK161.out 1
        have hfz12_2 := blk_frozen BK161.out 2
        have hfz12_3 := blk_frozen BK161.out 3
        have hfz12_4 := blk_frozen BK161.out 4
        have hfz12_5 := blk_frozen BK161.out 5
        have hfz12_6 := blk_frozen BK161.out 6
        go_wp2
        refine bodyPost_ret (results_cell_row rfl _ _ gb161 34 #[.int .i64 a1, .int .i64 a1, .int .i64 0, .int .i64 0, .float .f64 0, .bool false, .bool false] (0, 0) _ rfl (by (with_reducible repeat (first | refine blk_drewN ?_ _ | refine blk_drew ?_ | refine blk_alloc ?_ _)); refine blk_put (cs := #[.int .i64 a1, .int .i64 a1, .int .i64 0, .int .i64 0, .float .f64 0, .bool false, .bool x162006_1]) ?_ 6 _ rfl; (with_reducible repeat (first | refine blk_drewN ?_ _ | refine blk_drew ?_ | refine blk_alloc ?_ _)); refine blk_put (cs := #[.int .i64 a1, .int .i64 a1, .int .i64 0, .int .i64 0, .float .f64 0, .bool x162005_1, .bool x162006_1]) ?_ 5 _ rfl; (with_reducible repeat (first | refine blk_drewN ?_ _ | refine blk_drew ?_ | refine blk_alloc ?_ _)); refine blk_put (cs := #[.int .i64 a1, .int .i64 a1, .int .i64 0, .int .i64 0, .float .f64 x162004_1, .bool x162005_1, .bool x162006_1]) ?_ 4 _ rfl; (with_reducible repeat (first | refine blk_drewN ?_ _ | refine blk_drew ?_ | refine blk_alloc ?_ _)); refine blk_put (cs := #[.int .i64 a1, .int .i64 a1, .int .i64 0, .int .i64 x162003_1, .float .f64 x162004_1, .bool x162005_1, .bool x162006_1]) ?_ 3 _ rfl; (with_reducible repeat (first | refine blk_drewN ?_ _ | refine blk_drew ?_ | refine blk_alloc ?_ _)); refine blk_put (cs := #[.int .i64 a1, .int .i64 a1, .int .i64 x162002_1, .int .i64 x162003_1, .float .f64 x162004_1, .bool x162005_1, .bool x162006_1]) ?_ 2 _ rfl; (with_reducible repeat (first | refine blk_drewN ?_ _ | refine blk_drew ?_ | refine blk_alloc ?_ _)); refine blk_put (cs := #[.int .i64 a1, .int .i64 x162001_1, .int .i64 x162002_1, .int .i64 x162003_1, .float .f64 x162004_1, .bool x162005_1, .bool x162006_1]) ?_ 1 _ rfl; (with_reducible repeat (first | refine blk_drewN ?_ _ | refine blk_drew ?_ | refine blk_alloc ?_ _)); refine blk_put (cs := #[.int .i64 x162000_1, .int .i64 x162001_1, .int .i64 x162002_1, .int .i64 x162003_1, .float .f64 x162004_1, .bool x162005_1, .bool x162006_1]) ?_ 0 _ rfl; (with_reducible repeat (first | refine blk_drewN ?_ _ | refine blk_drew ?_ | refine blk_alloc ?_ _)); exact BK161.out) Try.underlying34 rfl (by kernel_rfl)) rfl ?_
        exact ⟨by first | rfl | (simp [errW_none, errW_some] <;> rfl) | (simp [*, errW_none, errW_some] <;> rfl), by repeat (first | (with_reducible first | exact HB.out | apply below_alloc | apply pw_below_drewN | apply below_drew1 | refine below_set ?_ GE161.out) | exact HB.out)⟩

end Go.Proofs.Ytjefbpfpobgmaaa.PLv
