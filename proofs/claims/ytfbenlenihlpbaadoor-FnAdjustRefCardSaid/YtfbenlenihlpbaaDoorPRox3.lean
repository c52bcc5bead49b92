/- Contracts of functions that the text "Ro" uses: the call ends in what the plain Lean function says, where that says something. Written by a program of this session. No conditions. -/
import Derived.Test.YtfbenlenihlpbaaDoorPRox0
import Derived.Test.YtfbenlenihlpbaaDoorPRox2
namespace Go.Proofs.YtfbenlenihlpbaaDoor.PRo
open Go.RowKit Go.Proofs.YtfbenlenihlpbaaDoorW.PrintWords Go.Proofs.YtfbenlenihlpbaaDoorW.PrintLast Go.Proofs.YtfbenlenihlpbaaDoorW.PrintMore
attribute [local go_sem] max2_int min2_int max_two min_two max_three min_three max_four min_four   -- for this text's walks alone
set_option linter.unusedVariables false
set_option linter.unusedSimpArgs false

/-! ### spec_gridReadOne: function 43 -/
def spec_gridReadOne.l0 : Nat → ByteArray → Int → Int → Option (Int × Int × Int × Int × Bool)
  | 0, _, _, _ => none
  | k + 1, x0, x4, x5 => if x5 < (x0.size : Int) then (if 0 ≤ x5 then (if (bt x0 x5) = 58 then (if x4 = (x0.size : Int) then (spec_gridReadOne.l0 k x0 x5 (wrap64 (x5 + 1))) else (spec_gridReadOne.l0 k x0 x4 (wrap64 (x5 + 1)))) else (spec_gridReadOne.l0 k x0 x4 (wrap64 (x5 + 1)))) else (none)) else (if 0 ≤ x4 then (if x4 ≤ (x0.size : Int) then ((spec_Cell.f k (x0.extract 0 (x4 : Int).toNat)).bind fun bt104 => (if x4 = (x0.size : Int) then (if bt104.2.2.1 = true then (some (bt104.1, bt104.2.1, bt104.1, bt104.2.1, bt104.2.2.2)) else (some (bt104.1, bt104.2.1, bt104.1, bt104.2.1, false))) else (if 0 ≤ (wrap64 (x4 + 1)) then (if (wrap64 (x4 + 1)) ≤ (x0.size : Int) then ((spec_Cell.f k (x0.extract ((wrap64 (x4 + 1)) : Int).toNat x0.size)).bind fun bt108 => (if bt104.2.2.1 = true then (if bt108.2.2.1 = true then (if bt104.2.2.2 = true then (some (bt104.1, bt104.2.1, bt108.1, bt108.2.1, bt108.2.2.2)) else (some (bt104.1, bt104.2.1, bt108.1, bt108.2.1, false))) else (some (bt104.1, bt104.2.1, bt108.1, bt108.2.1, false))) else (some (bt104.1, bt104.2.1, bt108.1, bt108.2.1, false)))) else (none)) else (none)))) else (none)) else (none))
def spec_gridReadOne.f (k : Nat) (a0 : ByteArray) : Option (Int × Int × Int × Int × Bool) := spec_gridReadOne.l0 k a0 (a0.size : Int) 0
theorem spec_gridReadOne.mono_l : ∀ k, (∀ y0 y1 y2, LeO (spec_gridReadOne.l0 k y0 y1 y2) (spec_gridReadOne.l0 (k + 1) y0 y1 y2))
  | 0 => fun _ _ _ r h => by simp [spec_gridReadOne.l0] at h
  | k + 1 => by
    have ih0 := spec_gridReadOne.mono_l k
    · intro y0 y1 y2
      unfold spec_gridReadOne.l0
      repeat' first
      | (with_reducible exact ih0 _ _ _)
      | (with_reducible exact spec_Cell.mono _ _)
      | (with_reducible exact LeO.refl _)
      | (with_reducible exact LeO.none _)
      | (with_reducible refine LeO.ite ?_ ?_)
      | (with_reducible refine LeO.bind ?_ (fun _ => ?_))
      | exact ih0 _ _ _
      | exact spec_Cell.mono _ _
      | exact LeO.none _
      | refine LeO.ite ?_ ?_
      | refine LeO.bind ?_ (fun _ => ?_)
theorem spec_gridReadOne.mono : ∀ a0 k, LeO (spec_gridReadOne.f k a0) (spec_gridReadOne.f (k + 1) a0) := by
  intro a0 k
  have ih0 := spec_gridReadOne.mono_l k
  unfold spec_gridReadOne.f
  repeat' first
      | (with_reducible exact ih0 _ _ _)
      | (with_reducible exact spec_Cell.mono _ _)
      | (with_reducible exact LeO.refl _)
      | (with_reducible exact LeO.none _)
      | (with_reducible refine LeO.ite ?_ ?_)
      | (with_reducible refine LeO.bind ?_ (fun _ => ?_))
      | exact ih0 _ _ _
      | exact spec_Cell.mono _ _
      | exact LeO.none _
      | refine LeO.ite ?_ ?_
      | refine LeO.bind ?_ (fun _ => ?_)
set_option maxHeartbeats 8000000 in
set_option maxRecDepth 100000 in
theorem spec_gridReadOne.calls (k : Nat) (a0 : ByteArray) (r1 : Int) (r2 : Int) (r3 : Int) (r4 : Int) (r5 : Bool) (w : World) (h : spec_gridReadOne.f k a0 = some (r1, r2, r3, r4, r5)) :
    Calls Tryd.prog 43 #[.string a0] w fun e w' => e = .returned (.tuple #[.agg #[.int .i64 r1, .int .i64 r2, .int .i64 r3, .int .i64 r4], .bool r5]) ∧ Below w.heap.size w w' := by
  have hu22 := Tryd.underlying22
  have HB := Aside0.mk (Below.refl w.heap.size w)
  have H : (spec_gridReadOne.l0 k a0 (a0.size : Int) 0) = some (r1, r2, r3, r4, r5) := h
  clear h
  have H' := Aside0.mk H
  clear H
  go_enter Tryd.func43, Tryd.ntmps43
  go_wp2_with (first | ((with_reducible refine gate_dst (N := 2) rfl ?_); (try (refine gate_guard (by rfl) ?_; dsimp only)); refine box_event ?hg (N := 2) ?hd (cs := #[.int .i64 0, .int .i64 0, .int .i64 0, .int .i64 0]) (t := 22) ?hr ?_; (case hd => rfl); (case hg => rfl); (case hr => first | (go_simp; done) | (go_simp; rfl)); intro gb103 hg w2 hbox hb; have n0_ := Aside0.mk (below_step (by repeat (first | (with_reducible first | exact HB.out | apply below_alloc | apply pw_below_drewN | apply below_drew1) | exact HB.out)) hb); have n1_ := Aside0.mk (hbox); have n2_ := Aside0.mk ((by rw [hg]; exact (below_size (by repeat (first | (with_reducible first | exact HB.out | apply below_alloc | apply pw_below_drewN | apply below_drew1) | exact HB.out))) : w.heap.size ≤ gb103)); have n3_ := Aside0.mk ((by rw [hg]; exact (below_size (by repeat (first | (with_reducible first | exact HB.out | apply below_alloc | apply pw_below_drewN | apply below_drew1) | exact HB.out))) : w.heap.size ≤ gb103)); clear HB; have HB := n0_; have BK103 := n1_; have GW103 := n2_; have GE103 := n3_; clear n0_ n1_ n2_ n3_; clear hb hbox hg))
  go_loopg [4, 5] k (fun kq v4 v5 w' => ∃ (x4_1 : Int) (x5_1 : Int), v4 = .int .i64 x4_1 ∧ v5 = .int .i64 x5_1 ∧ Aside0 (spec_gridReadOne.l0 kq a0 x4_1 x5_1 = some (r1, r2, r3, r4, r5)) ∧ Aside0 (kq ≤ k) ∧ Aside0 (w'.heap[gb103]? = some (.cells #[.int .i64 0, .int .i64 0, .int .i64 0, .int .i64 0] 22 (0, 0))) ∧ Aside0 (Below w.heap.size w w'))
  case atStart => exact ⟨((a0.size : Int)), (0), (by first | rfl | (simp; done) | (simp [*]; done)), (by first | rfl | (simp; done) | (simp [*]; done)), H', ⟨Nat.le_refl _⟩, ⟨by (with_reducible repeat (first | refine blk_drewN ?_ _ | refine blk_drew ?_ | refine blk_alloc ?_ _)); exact BK103.out⟩, ⟨by repeat (first | (with_reducible first | exact HB.out | apply below_alloc | apply pw_below_drewN | apply below_drew1 | refine below_set ?_ GE103.out) | exact HB.out)⟩⟩
  case round =>
    clear H'
    try clear p2
    obtain ⟨x4_1, x5_1, rfl, rfl, HA, HK1, BK103, HB⟩ := hrel
    cases gk with
    | zero => exact absurd HA.out (by simp [spec_gridReadOne.l0])
    | succ k1 =>
      have H := HA.out
      clear HA
      simp only [spec_gridReadOne.l0] at H
      by_cases c3 : x5_1 < (a0.size : Int)
      · rw [if_pos c3] at H
        have c3b0 : decide (x5_1 < (a0.size : Int)) = true := decide_eq_true c3
        clear c3
        by_cases c4 : 0 ≤ x5_1
        · rw [if_pos c4] at H
          have c4b0 : decide (0 ≤ x5_1) = true := decide_eq_true c4
          clear c4
          by_cases c6 : (bt a0 x5_1) = 58
          · rw [if_pos c6] at H
            have c6b0 : ((bt a0 x5_1) == 58) = true := beq_iff_eq.mpr c6
            have c6b1 : ((bt a0 x5_1) != 58) = false := bne_eq_false_iff_eq.mpr c6
            clear c6
            by_cases c7 : x4_1 = (a0.size : Int)
            · rw [if_pos c7] at H
              have c7b0 : (x4_1 == (a0.size : Int)) = true := beq_iff_eq.mpr c7
              have c7b1 : (x4_1 != (a0.size : Int)) = false := bne_eq_false_iff_eq.mpr c7
              clear c7
              have H' := Aside0.mk H
              clear H
              have p5 : 0 ≤ (x5_1 : Int) := of_decide_eq_true (by first | (with_reducible assumption) | assumption)
              have q5 : x5_1 < (a0.size : Int) := of_decide_eq_true (by first | (with_reducible assumption) | assumption)
              have hx5 := bt_at a0 x5_1
              replace p5 := eq_true p5
              replace q5 := eq_true q5
              go_wp2
              go_roundg k1
              case measure => have := HK1.out; omega
              case rel => exact ⟨(x5_1), (wrap64 (x5_1 + 1)), (by first | rfl | (simp; done) | (simp [*]; done)), (by first | rfl | (simp; done) | (simp [*]; done)), H', ⟨by have := HK1.out; omega⟩, ⟨by (with_reducible repeat (first | refine blk_drewN ?_ _ | refine blk_drew ?_ | refine blk_alloc ?_ _)); exact BK103.out⟩, ⟨by repeat (first | (with_reducible first | exact HB.out | apply below_alloc | apply pw_below_drewN | apply below_drew1 | refine below_set ?_ GE103.out) | exact HB.out)⟩⟩
            · rw [if_neg c7] at H
              have c7b0 : (x4_1 == (a0.size : Int)) = false := beq_eq_false_iff_ne.mpr c7
              have c7b1 : (x4_1 != (a0.size : Int)) = true := bne_iff_ne.mpr c7
              have H' := Aside0.mk H
              clear H
              have p5 : 0 ≤ (x5_1 : Int) := of_decide_eq_true (by first | (with_reducible assumption) | assumption)
              have q5 : x5_1 < (a0.size : Int) := of_decide_eq_true (by first | (with_reducible assumption) | assumption)
              have hx5 := bt_at a0 x5_1
              replace p5 := eq_true p5
              replace q5 := eq_true q5
              go_wp2
              go_roundg k1
              case measure => have := HK1.out; omega
              case rel => exact ⟨(x4_1), (wrap64 (x5_1 + 1)), (by first | rfl | (simp; done) | (simp [*]; done)), (by first | rfl | (simp; done) | (simp [*]; done)), H', ⟨by have := HK1.out; omega⟩, ⟨by (with_reducible repeat (first | refine blk_drewN ?_ _ | refine blk_drew ?_ | refine blk_alloc ?_ _)); exact BK103.out⟩, ⟨by repeat (first | (with_reducible first | exact HB.out | apply below_alloc | apply pw_below_drewN | apply below_drew1 | refine below_set ?_ GE103.out) | exact HB.out)⟩⟩
          · rw [if_neg c6] at H
            have c6b0 : ((bt a0 x5_1) == 58) = false := beq_eq_false_iff_ne.mpr c6
            have c6b1 : ((bt a0 x5_1) != 58) = true := bne_iff_ne.mpr c6
            have H' := Aside0.mk H
            clear H
            have p5 : 0 ≤ (x5_1 : Int) := of_decide_eq_true (by first | (with_reducible assumption) | assumption)
            have q5 : x5_1 < (a0.size : Int) := of_decide_eq_true (by first | (with_reducible assumption) | assumption)
            have hx5 := bt_at a0 x5_1
            replace p5 := eq_true p5
            replace q5 := eq_true q5
            go_wp2
            go_roundg k1
            case measure => have := HK1.out; omega
            case rel => exact ⟨(x4_1), (wrap64 (x5_1 + 1)), (by first | rfl | (simp; done) | (simp [*]; done)), (by first | rfl | (simp; done) | (simp [*]; done)), H', ⟨by have := HK1.out; omega⟩, ⟨by (with_reducible repeat (first | refine blk_drewN ?_ _ | refine blk_drew ?_ | refine blk_alloc ?_ _)); exact BK103.out⟩, ⟨by repeat (first | (with_reducible first | exact HB.out | apply below_alloc | apply pw_below_drewN | apply below_drew1 | refine below_set ?_ GE103.out) | exact HB.out)⟩⟩
        · rw [if_neg c4] at H
          exact absurd H (by simp)
      · rw [if_neg c3] at H
        have c3b0 : decide (x5_1 < (a0.size : Int)) = false := decide_eq_false c3
        clear c3
        by_cases c8 : 0 ≤ x4_1
        · rw [if_pos c8] at H
          have c8b0 := eq_true c8
          have c8b1 : decide (0 ≤ x4_1) = true := decide_eq_true c8
          clear c8
          by_cases c9 : x4_1 ≤ (a0.size : Int)
          · rw [if_pos c9] at H
            have c9b0 := eq_true c9
            have c9b1 : decide (x4_1 ≤ (a0.size : Int)) = true := decide_eq_true c9
            clear c9
            replace H := Option.bind_eq_some_iff.mp H
            obtain ⟨⟨t104, t105, t106, t107⟩, A100, H⟩ := H
            replace H : (if x4_1 = (a0.size : Int) then (if t106 = true then (some (t104, t105, t104, t105, t107)) else (some (t104, t105, t104, t105, false))) else (if 0 ≤ (wrap64 (x4_1 + 1)) then (if (wrap64 (x4_1 + 1)) ≤ (a0.size : Int) then ((spec_Cell.f k1 (a0.extract ((wrap64 (x4_1 + 1)) : Int).toNat a0.size)).bind fun bt108 => (if t106 = true then (if bt108.2.2.1 = true then (if t107 = true then (some (t104, t105, bt108.1, bt108.2.1, bt108.2.2.2)) else (some (t104, t105, bt108.1, bt108.2.1, false))) else (some (t104, t105, bt108.1, bt108.2.1, false))) else (some (t104, t105, bt108.1, bt108.2.1, false)))) else (none)) else (none))) = some (r1, r2, r3, r4, r5) := H
            have A10 := Aside0.mk A100
            clear A100
            by_cases c11 : x4_1 = (a0.size : Int)
            · rw [if_pos c11] at H
              have c11b0 : (x4_1 == (a0.size : Int)) = true := beq_iff_eq.mpr c11
              have c11b1 : (x4_1 != (a0.size : Int)) = false := bne_eq_false_iff_eq.mpr c11
              clear c11
              by_cases c12 : t106 = true
              · subst c12
                have H1 : (some (t104, t105, t104, t105, t107)) = some (r1, r2, r3, r4, r5) := by rw [if_pos rfl] at H; exact H
                clear H
                have H := H1
                clear H1
                simp only [Option.some.injEq, Prod.mk.injEq] at H
                obtain ⟨rfl, rfl, rfl, rfl, rfl⟩ := H
                go_wp2_with (first | ((with_reducible refine gate_callee (f := 55) rfl ?_); refine goesL_ (some 37) rfl rfl Tryd.func55 (by kernel_rfl) rfl #[.string (a0.extract 0 (x4_1 : Int).toNat)] rfl (by (try simp only [List.map_toArray, List.map_cons, List.map_nil]); first | done | rfl | (simp only [List.length_drop, List.length_take]; rfl)) ?_; (with_reducible refine (spec_Cell.calls k1 (a0.extract 0 (x4_1 : Int).toNat) t104 t105 true t107 _ A10.out).mono ?_); rintro e w' ⟨rfl, ⟨nd, rfl⟩⟩; refine ⟨_, rfl, ?_⟩; (try (rw [drewN_self wr]; generalize hq_ : World.drewN wr _ = wr; have n0_ : Aside0 (wr.heap[gb103]? = some (.cells #[.int .i64 0, .int .i64 0, .int .i64 0, .int .i64 0] 22 (0, 0))) := ⟨by rw [← hq_]; exact (by (with_reducible repeat (first | refine blk_drewN ?_ _ | refine blk_drew ?_ | refine blk_alloc ?_ _)); exact BK103.out)⟩; have n1_ : Aside0 (Below w.heap.size w wr) := ⟨by rw [← hq_]; exact (by repeat (first | (with_reducible first | exact HB.out | apply below_alloc | apply pw_below_drewN | apply below_drew1 | refine below_set ?_ GE103.out) | exact HB.out))⟩; clear BK103 HB hq_; have BK103 := n0_; have HB := n1_; clear n0_ n1_)); have hcz13_0 : wr.cell? ⟨gb103, 0, none⟩ = some (.int .i64 0) := (blk_cell BK103.out 0).trans rfl; have hcz13_1 : wr.cell? ⟨gb103, 1, none⟩ = some (.int .i64 0) := (blk_cell BK103.out 1).trans rfl; have hcz13_2 : wr.cell? ⟨gb103, 2, none⟩ = some (.int .i64 0) := (blk_cell BK103.out 2).trans rfl; have hcz13_3 : wr.cell? ⟨gb103, 3, none⟩ = some (.int .i64 0) := (blk_cell BK103.out 3).trans rfl; have hfz13_0 := blk_frozen BK103.out 0; have hfz13_1 := blk_frozen BK103.out 1; have hfz13_2 := blk_frozen BK103.out 2; have hfz13_3 := blk_frozen BK103.out 3))
                refine bodyPost_ret (results_ct rfl _ _ gb103 22 #[.int .i64 t104, .int .i64 t105, .int .i64 t104, .int .i64 t105] (0, 0) _ rfl (by (with_reducible repeat (first | refine blk_drewN ?_ _ | refine blk_drew ?_ | refine blk_alloc ?_ _)); refine blk_put (cs := #[.int .i64 t104, .int .i64 t105, .int .i64 t104, .int .i64 0]) ?_ 3 _ rfl; (with_reducible repeat (first | refine blk_drewN ?_ _ | refine blk_drew ?_ | refine blk_alloc ?_ _)); refine blk_put (cs := #[.int .i64 t104, .int .i64 t105, .int .i64 0, .int .i64 0]) ?_ 2 _ rfl; (with_reducible repeat (first | refine blk_drewN ?_ _ | refine blk_drew ?_ | refine blk_alloc ?_ _)); refine blk_put (cs := #[.int .i64 t104, .int .i64 0, .int .i64 0, .int .i64 0]) ?_ 1 _ rfl; (with_reducible repeat (first | refine blk_drewN ?_ _ | refine blk_drew ?_ | refine blk_alloc ?_ _)); refine blk_put (cs := #[.int .i64 0, .int .i64 0, .int .i64 0, .int .i64 0]) ?_ 0 _ rfl; (with_reducible repeat (first | refine blk_drewN ?_ _ | refine blk_drew ?_ | refine blk_alloc ?_ _)); exact BK103.out) Tryd.underlying22 rfl (by kernel_rfl)) rfl ?_
                exact ⟨by first | rfl | (simp [errW_none, errW_some] <;> rfl) | (simp [*, errW_none, errW_some] <;> rfl), by repeat (first | (with_reducible first | exact HB.out | apply below_alloc | apply pw_below_drewN | apply below_drew1 | refine below_set ?_ GE103.out) | exact HB.out)⟩
              · replace c12 := Bool.eq_false_iff.mpr c12
                subst c12
                have H1 : (some (t104, t105, t104, t105, false)) = some (r1, r2, r3, r4, r5) := by rw [if_neg (show ¬ (false = true) by decide)] at H; exact H
                clear H
                have H := H1
                clear H1
                simp only [Option.some.injEq, Prod.mk.injEq] at H
                obtain ⟨rfl, rfl, rfl, rfl, rfl⟩ := H
                go_wp2_with (first | ((with_reducible refine gate_callee (f := 55) rfl ?_); refine goesL_ (some 37) rfl rfl Tryd.func55 (by kernel_rfl) rfl #[.string (a0.extract 0 (x4_1 : Int).toNat)] rfl (by (try simp only [List.map_toArray, List.map_cons, List.map_nil]); first | done | rfl | (simp only [List.length_drop, List.length_take]; rfl)) ?_; (with_reducible refine (spec_Cell.calls k1 (a0.extract 0 (x4_1 : Int).toNat) t104 t105 false t107 _ A10.out).mono ?_); rintro e w' ⟨rfl, ⟨nd, rfl⟩⟩; refine ⟨_, rfl, ?_⟩; (try (rw [drewN_self wr]; generalize hq_ : World.drewN wr _ = wr; have n0_ : Aside0 (wr.heap[gb103]? = some (.cells #[.int .i64 0, .int .i64 0, .int .i64 0, .int .i64 0] 22 (0, 0))) := ⟨by rw [← hq_]; exact (by (with_reducible repeat (first | refine blk_drewN ?_ _ | refine blk_drew ?_ | refine blk_alloc ?_ _)); exact BK103.out)⟩; have n1_ : Aside0 (Below w.heap.size w wr) := ⟨by rw [← hq_]; exact (by repeat (first | (with_reducible first | exact HB.out | apply below_alloc | apply pw_below_drewN | apply below_drew1 | refine below_set ?_ GE103.out) | exact HB.out))⟩; clear BK103 HB hq_; have BK103 := n0_; have HB := n1_; clear n0_ n1_)); have hcz14_0 : wr.cell? ⟨gb103, 0, none⟩ = some (.int .i64 0) := (blk_cell BK103.out 0).trans rfl; have hcz14_1 : wr.cell? ⟨gb103, 1, none⟩ = some (.int .i64 0) := (blk_cell BK103.out 1).trans rfl; have hcz14_2 : wr.cell? ⟨gb103, 2, none⟩ = some (.int .i64 0) := (blk_cell BK103.out 2).trans rfl; have hcz14_3 : wr.cell? ⟨gb103, 3, none⟩ = some (.int .i64 0) := (blk_cell BK103.out 3).trans rfl; have hfz14_0 := blk_frozen BK103.out 0; have hfz14_1 := blk_frozen BK103.out 1; have hfz14_2 := blk_frozen BK103.out 2; have hfz14_3 := blk_frozen BK103.out 3))
                refine bodyPost_ret (results_ct rfl _ _ gb103 22 #[.int .i64 t104, .int .i64 t105, .int .i64 t104, .int .i64 t105] (0, 0) _ rfl (by (with_reducible repeat (first | refine blk_drewN ?_ _ | refine blk_drew ?_ | refine blk_alloc ?_ _)); refine blk_put (cs := #[.int .i64 t104, .int .i64 t105, .int .i64 t104, .int .i64 0]) ?_ 3 _ rfl; (with_reducible repeat (first | refine blk_drewN ?_ _ | refine blk_drew ?_ | refine blk_alloc ?_ _)); refine blk_put (cs := #[.int .i64 t104, .int .i64 t105, .int .i64 0, .int .i64 0]) ?_ 2 _ rfl; (with_reducible repeat (first | refine blk_drewN ?_ _ | refine blk_drew ?_ | refine blk_alloc ?_ _)); refine blk_put (cs := #[.int .i64 t104, .int .i64 0, .int .i64 0, .int .i64 0]) ?_ 1 _ rfl; (with_reducible repeat (first | refine blk_drewN ?_ _ | refine blk_drew ?_ | refine blk_alloc ?_ _)); refine blk_put (cs := #[.int .i64 0, .int .i64 0, .int .i64 0, .int .i64 0]) ?_ 0 _ rfl; (with_reducible repeat (first | refine blk_drewN ?_ _ | refine blk_drew ?_ | refine blk_alloc ?_ _)); exact BK103.out) Tryd.underlying22 rfl (by kernel_rfl)) rfl ?_
                exact ⟨by first | rfl | (simp [errW_none, errW_some] <;> rfl) | (simp [*, errW_none, errW_some] <;> rfl), by repeat (first | (with_reducible first | exact HB.out | apply below_alloc | apply pw_below_drewN | apply below_drew1 | refine below_set ?_ GE103.out) | exact HB.out)⟩
            · rw [if_neg c11] at H
              have c11b0 : (x4_1 == (a0.size : Int)) = false := beq_eq_false_iff_ne.mpr c11
              have c11b1 : (x4_1 != (a0.size : Int)) = true := bne_iff_ne.mpr c11
              obtain ⟨ji15, hji15⟩ : ∃ j_ : Int, (wrap64 (x4_1 + 1)) = j_ := ⟨_, rfl⟩
              replace H : (if 0 ≤ (ji15) then (if (ji15) ≤ (a0.size : Int) then ((spec_Cell.f k1 (a0.extract ((ji15) : Int).toNat a0.size)).bind fun bt108 => (if t106 = true then (if bt108.2.2.1 = true then (if t107 = true then (some (t104, t105, bt108.1, bt108.2.1, bt108.2.2.2)) else (some (t104, t105, bt108.1, bt108.2.1, false))) else (some (t104, t105, bt108.1, bt108.2.1, false))) else (some (t104, t105, bt108.1, bt108.2.1, false)))) else (none)) else (none)) = some (r1, r2, r3, r4, r5) := by first | (rw [hji15] at H; exact H) | (simp only [hji15] at H ⊢; exact H)
              (try rw [hji15] at A10)
              have hji15w : (IntKind.i64.wrap (x4_1 + 1)) = ji15 := (i64_w _).trans hji15
              by_cases c16 : 0 ≤ (ji15)
              · rw [if_pos c16] at H
                have c16b0 := eq_true c16
                have c16b1 : decide (0 ≤ (ji15)) = true := decide_eq_true c16
                clear c16
                by_cases c17 : (ji15) ≤ (a0.size : Int)
                · rw [if_pos c17] at H
                  have c17b0 := eq_true c17
                  have c17b1 : decide ((ji15) ≤ (a0.size : Int)) = true := decide_eq_true c17
                  clear c17
                  replace H := Option.bind_eq_some_iff.mp H
                  obtain ⟨⟨t108, t109, t110, t111⟩, A180, H⟩ := H
                  replace H : (if t106 = true then (if t110 = true then (if t107 = true then (some (t104, t105, t108, t109, t111)) else (some (t104, t105, t108, t109, false))) else (some (t104, t105, t108, t109, false))) else (some (t104, t105, t108, t109, false))) = some (r1, r2, r3, r4, r5) := H
                  have A18 := Aside0.mk A180
                  clear A180
                  by_cases c19 : t106 = true
                  · subst c19
                    have H1 : (if t110 = true then (if t107 = true then (some (t104, t105, t108, t109, t111)) else (some (t104, t105, t108, t109, false))) else (some (t104, t105, t108, t109, false))) = some (r1, r2, r3, r4, r5) := by rw [if_pos rfl] at H; exact H
                    clear H
                    have H := H1
                    clear H1
                    by_cases c20 : t110 = true
                    · subst c20
                      have H1 : (if t107 = true then (some (t104, t105, t108, t109, t111)) else (some (t104, t105, t108, t109, false))) = some (r1, r2, r3, r4, r5) := by rw [if_pos rfl] at H; exact H
                      clear H
                      have H := H1
                      clear H1
                      by_cases c21 : t107 = true
                      · subst c21
                        have H1 : (some (t104, t105, t108, t109, t111)) = some (r1, r2, r3, r4, r5) := by rw [if_pos rfl] at H; exact H
                        clear H
                        have H := H1
                        clear H1
                        simp only [Option.some.injEq, Prod.mk.injEq] at H
                        obtain ⟨rfl, rfl, rfl, rfl, rfl⟩ := H
                        go_wp2_with (first | ((with_reducible refine gate_callee (f := 55) rfl ?_); refine goesL_ (some 37) rfl rfl Tryd.func55 (by kernel_rfl) rfl #[.string (a0.extract 0 (x4_1 : Int).toNat)] rfl (by (try simp only [List.map_toArray, List.map_cons, List.map_nil]); first | done | rfl | (simp only [List.length_drop, List.length_take]; rfl)) ?_; (with_reducible refine (spec_Cell.calls k1 (a0.extract 0 (x4_1 : Int).toNat) t104 t105 true true _ A10.out).mono ?_); rintro e w' ⟨rfl, ⟨nd, rfl⟩⟩; refine ⟨_, rfl, ?_⟩; (try (rw [drewN_self wr]; generalize hq_ : World.drewN wr _ = wr; have n0_ : Aside0 (wr.heap[gb103]? = some (.cells #[.int .i64 0, .int .i64 0, .int .i64 0, .int .i64 0] 22 (0, 0))) := ⟨by rw [← hq_]; exact (by (with_reducible repeat (first | refine blk_drewN ?_ _ | refine blk_drew ?_ | refine blk_alloc ?_ _)); exact BK103.out)⟩; have n1_ : Aside0 (Below w.heap.size w wr) := ⟨by rw [← hq_]; exact (by repeat (first | (with_reducible first | exact HB.out | apply below_alloc | apply pw_below_drewN | apply below_drew1 | refine below_set ?_ GE103.out) | exact HB.out))⟩; clear BK103 HB hq_; have BK103 := n0_; have HB := n1_; clear n0_ n1_))) | ((with_reducible refine gate_callee (f := 55) rfl ?_); refine goesL_ (some 60) rfl rfl Tryd.func55 (by kernel_rfl) rfl #[.string (a0.extract ((ji15) : Int).toNat a0.size)] rfl (by (try simp only [List.map_toArray, List.map_cons, List.map_nil]); first | done | (simp only [hji15]; rfl) | rfl | (simp only [List.length_drop, List.length_take]; rfl)) ?_; (with_reducible refine (spec_Cell.calls k1 (a0.extract ((ji15) : Int).toNat a0.size) t108 t109 true t111 _ A18.out).mono ?_); rintro e w' ⟨rfl, ⟨nd, rfl⟩⟩; refine ⟨_, rfl, ?_⟩; (try (rw [drewN_self wr]; generalize hq_ : World.drewN wr _ = wr; have n0_ : Aside0 (wr.heap[gb103]? = some (.cells #[.int .i64 0, .int .i64 0, .int .i64 0, .int .i64 0] 22 (0, 0))) := ⟨by rw [← hq_]; exact (by (with_reducible repeat (first | refine blk_drewN ?_ _ | refine blk_drew ?_ | refine blk_alloc ?_ _)); exact BK103.out)⟩; have n1_ : Aside0 (Below w.heap.size w wr) := ⟨by rw [← hq_]; exact (by repeat (first | (with_reducible first | exact HB.out | apply below_alloc | apply pw_below_drewN | apply below_drew1 | refine below_set ?_ GE103.out) | exact HB.out))⟩; clear BK103 HB hq_; have BK103 := n0_; have HB := n1_; clear n0_ n1_)); have hcz22_0 : wr.cell? ⟨gb103, 0, none⟩ = some (.int .i64 0) := (blk_cell BK103.out 0).trans rfl; have hcz22_1 : wr.cell? ⟨gb103, 1, none⟩ = some (.int .i64 0) := (blk_cell BK103.out 1).trans rfl; have hcz22_2 : wr.cell? ⟨gb103, 2, none⟩ = some (.int .i64 0) := (blk_cell BK103.out 2).trans rfl; have hcz22_3 : wr.cell? ⟨gb103, 3, none⟩ = some (.int .i64 0) := (blk_cell BK103.out 3).trans rfl; have hfz22_0 := blk_frozen BK103.out 0; have hfz22_1 := blk_frozen BK103.out 1; have hfz22_2 := blk_frozen BK103.out 2; have hfz22_3 := blk_frozen BK103.out 3))
                        refine bodyPost_ret (results_ct rfl _ _ gb103 22 #[.int .i64 t104, .int .i64 t105, .int .i64 t108, .int .i64 t109] (0, 0) _ rfl (by (with_reducible repeat (first | refine blk_drewN ?_ _ | refine blk_drew ?_ | refine blk_alloc ?_ _)); refine blk_put (cs := #[.int .i64 t104, .int .i64 t105, .int .i64 t108, .int .i64 0]) ?_ 3 _ rfl; (with_reducible repeat (first | refine blk_drewN ?_ _ | refine blk_drew ?_ | refine blk_alloc ?_ _)); refine blk_put (cs := #[.int .i64 t104, .int .i64 t105, .int .i64 0, .int .i64 0]) ?_ 2 _ rfl; (with_reducible repeat (first | refine blk_drewN ?_ _ | refine blk_drew ?_ | refine blk_alloc ?_ _)); refine blk_put (cs := #[.int .i64 t104, .int .i64 0, .int .i64 0, .int .i64 0]) ?_ 1 _ rfl; (with_reducible repeat (first | refine blk_drewN ?_ _ | refine blk_drew ?_ | refine blk_alloc ?_ _)); refine blk_put (cs := #[.int .i64 0, .int .i64 0, .int .i64 0, .int .i64 0]) ?_ 0 _ rfl; (with_reducible repeat (first | refine blk_drewN ?_ _ | refine blk_drew ?_ | refine blk_alloc ?_ _)); exact BK103.out) Tryd.underlying22 rfl (by kernel_rfl)) rfl ?_
                        exact ⟨by first | rfl | (simp [errW_none, errW_some] <;> rfl) | (simp only [← hji15]; first | rfl | (simp [errW_none, errW_some] <;> rfl)) | (simp [*, errW_none, errW_some] <;> rfl), by repeat (first | (with_reducible first | exact HB.out | apply below_alloc | apply pw_below_drewN | apply below_drew1 | refine below_set ?_ GE103.out) | exact HB.out)⟩
                      · replace c21 := Bool.eq_false_iff.mpr c21
                        subst c21
                        have H1 : (some (t104, t105, t108, t109, false)) = some (r1, r2, r3, r4, r5) := by rw [if_neg (show ¬ (false = true) by decide)] at H; exact H
                        clear H
                        have H := H1
                        clear H1
                        simp only [Option.some.injEq, Prod.mk.injEq] at H
                        obtain ⟨rfl, rfl, rfl, rfl, rfl⟩ := H
                        go_wp2_with (first | ((with_reducible refine gate_callee (f := 55) rfl ?_); refine goesL_ (some 37) rfl rfl Tryd.func55 (by kernel_rfl) rfl #[.string (a0.extract 0 (x4_1 : Int).toNat)] rfl (by (try simp only [List.map_toArray, List.map_cons, List.map_nil]); first | done | rfl | (simp only [List.length_drop, List.length_take]; rfl)) ?_; (with_reducible refine (spec_Cell.calls k1 (a0.extract 0 (x4_1 : Int).toNat) t104 t105 true false _ A10.out).mono ?_); rintro e w' ⟨rfl, ⟨nd, rfl⟩⟩; refine ⟨_, rfl, ?_⟩; (try (rw [drewN_self wr]; generalize hq_ : World.drewN wr _ = wr; have n0_ : Aside0 (wr.heap[gb103]? = some (.cells #[.int .i64 0, .int .i64 0, .int .i64 0, .int .i64 0] 22 (0, 0))) := ⟨by rw [← hq_]; exact (by (with_reducible repeat (first | refine blk_drewN ?_ _ | refine blk_drew ?_ | refine blk_alloc ?_ _)); exact BK103.out)⟩; have n1_ : Aside0 (Below w.heap.size w wr) := ⟨by rw [← hq_]; exact (by repeat (first | (with_reducible first | exact HB.out | apply below_alloc | apply pw_below_drewN | apply below_drew1 | refine below_set ?_ GE103.out) | exact HB.out))⟩; clear BK103 HB hq_; have BK103 := n0_; have HB := n1_; clear n0_ n1_))) | ((with_reducible refine gate_callee (f := 55) rfl ?_); refine goesL_ (some 60) rfl rfl Tryd.func55 (by kernel_rfl) rfl #[.string (a0.extract ((ji15) : Int).toNat a0.size)] rfl (by (try simp only [List.map_toArray, List.map_cons, List.map_nil]); first | done | (simp only [hji15]; rfl) | rfl | (simp only [List.length_drop, List.length_take]; rfl)) ?_; (with_reducible refine (spec_Cell.calls k1 (a0.extract ((ji15) : Int).toNat a0.size) t108 t109 true t111 _ A18.out).mono ?_); rintro e w' ⟨rfl, ⟨nd, rfl⟩⟩; refine ⟨_, rfl, ?_⟩; (try (rw [drewN_self wr]; generalize hq_ : World.drewN wr _ = wr; have n0_ : Aside0 (wr.heap[gb103]? = some (.cells #[.int .i64 0, .int .i64 0, .int .i64 0, .int .i64 0] 22 (0, 0))) := ⟨by rw [← hq_]; exact (by (with_reducible repeat (first | refine blk_drewN ?_ _ | refine blk_drew ?_ | refine blk_alloc ?_ _)); exact BK103.out)⟩; have n1_ : Aside0 (Below w.heap.size w wr) := ⟨by rw [← hq_]; exact (by repeat (first | (with_reducible first | exact HB.out | apply below_alloc | apply pw_below_drewN | apply below_drew1 | refine below_set ?_ GE103.out) | exact HB.out))⟩; clear BK103 HB hq_; have BK103 := n0_; have HB := n1_; clear n0_ n1_)); have hcz23_0 : wr.cell? ⟨gb103, 0, none⟩ = some (.int .i64 0) := (blk_cell BK103.out 0).trans rfl; have hcz23_1 : wr.cell? ⟨gb103, 1, none⟩ = some (.int .i64 0) := (blk_cell BK103.out 1).trans rfl; have hcz23_2 : wr.cell? ⟨gb103, 2, none⟩ = some (.int .i64 0) := (blk_cell BK103.out 2).trans rfl; have hcz23_3 : wr.cell? ⟨gb103, 3, none⟩ = some (.int .i64 0) := (blk_cell BK103.out 3).trans rfl; have hfz23_0 := blk_frozen BK103.out 0; have hfz23_1 := blk_frozen BK103.out 1; have hfz23_2 := blk_frozen BK103.out 2; have hfz23_3 := blk_frozen BK103.out 3))
                        refine bodyPost_ret (results_ct rfl _ _ gb103 22 #[.int .i64 t104, .int .i64 t105, .int .i64 t108, .int .i64 t109] (0, 0) _ rfl (by (with_reducible repeat (first | refine blk_drewN ?_ _ | refine blk_drew ?_ | refine blk_alloc ?_ _)); refine blk_put (cs := #[.int .i64 t104, .int .i64 t105, .int .i64 t108, .int .i64 0]) ?_ 3 _ rfl; (with_reducible repeat (first | refine blk_drewN ?_ _ | refine blk_drew ?_ | refine blk_alloc ?_ _)); refine blk_put (cs := #[.int .i64 t104, .int .i64 t105, .int .i64 0, .int .i64 0]) ?_ 2 _ rfl; (with_reducible repeat (first | refine blk_drewN ?_ _ | refine blk_drew ?_ | refine blk_alloc ?_ _)); refine blk_put (cs := #[.int .i64 t104, .int .i64 0, .int .i64 0, .int .i64 0]) ?_ 1 _ rfl; (with_reducible repeat (first | refine blk_drewN ?_ _ | refine blk_drew ?_ | refine blk_alloc ?_ _)); refine blk_put (cs := #[.int .i64 0, .int .i64 0, .int .i64 0, .int .i64 0]) ?_ 0 _ rfl; (with_reducible repeat (first | refine blk_drewN ?_ _ | refine blk_drew ?_ | refine blk_alloc ?_ _)); exact BK103.out) Tryd.underlying22 rfl (by kernel_rfl)) rfl ?_
                        exact ⟨by first | rfl | (simp [errW_none, errW_some] <;> rfl) | (simp only [← hji15]; first | rfl | (simp [errW_none, errW_some] <;> rfl)) | (simp [*, errW_none, errW_some] <;> rfl), by repeat (first | (with_reducible first | exact HB.out | apply below_alloc | apply pw_below_drewN | apply below_drew1 | refine below_set ?_ GE103.out) | exact HB.out)⟩
                    · replace c20 := Bool.eq_false_iff.mpr c20
                      subst c20
                      have H1 : (some (t104, t105, t108, t109, false)) = some (r1, r2, r3, r4, r5) := by rw [if_neg (show ¬ (false = true) by decide)] at H; exact H
                      clear H
                      have H := H1
                      clear H1
                      simp only [Option.some.injEq, Prod.mk.injEq] at H
                      obtain ⟨rfl, rfl, rfl, rfl, rfl⟩ := H
                      go_wp2_with (first | ((with_reducible refine gate_callee (f := 55) rfl ?_); refine goesL_ (some 37) rfl rfl Tryd.func55 (by kernel_rfl) rfl #[.string (a0.extract 0 (x4_1 : Int).toNat)] rfl (by (try simp only [List.map_toArray, List.map_cons, List.map_nil]); first | done | rfl | (simp only [List.length_drop, List.length_take]; rfl)) ?_; (with_reducible refine (spec_Cell.calls k1 (a0.extract 0 (x4_1 : Int).toNat) t104 t105 true t107 _ A10.out).mono ?_); rintro e w' ⟨rfl, ⟨nd, rfl⟩⟩; refine ⟨_, rfl, ?_⟩; (try (rw [drewN_self wr]; generalize hq_ : World.drewN wr _ = wr; have n0_ : Aside0 (wr.heap[gb103]? = some (.cells #[.int .i64 0, .int .i64 0, .int .i64 0, .int .i64 0] 22 (0, 0))) := ⟨by rw [← hq_]; exact (by (with_reducible repeat (first | refine blk_drewN ?_ _ | refine blk_drew ?_ | refine blk_alloc ?_ _)); exact BK103.out)⟩; have n1_ : Aside0 (Below w.heap.size w wr) := ⟨by rw [← hq_]; exact (by repeat (first | (with_reducible first | exact HB.out | apply below_alloc | apply pw_below_drewN | apply below_drew1 | refine below_set ?_ GE103.out) | exact HB.out))⟩; clear BK103 HB hq_; have BK103 := n0_; have HB := n1_; clear n0_ n1_))) | ((with_reducible refine gate_callee (f := 55) rfl ?_); refine goesL_ (some 60) rfl rfl Tryd.func55 (by kernel_rfl) rfl #[.string (a0.extract ((ji15) : Int).toNat a0.size)] rfl (by (try simp only [List.map_toArray, List.map_cons, List.map_nil]); first | done | (simp only [hji15]; rfl) | rfl | (simp only [List.length_drop, List.length_take]; rfl)) ?_; (with_reducible refine (spec_Cell.calls k1 (a0.extract ((ji15) : Int).toNat a0.size) t108 t109 false t111 _ A18.out).mono ?_); rintro e w' ⟨rfl, ⟨nd, rfl⟩⟩; refine ⟨_, rfl, ?_⟩; (try (rw [drewN_self wr]; generalize hq_ : World.drewN wr _ = wr; have n0_ : Aside0 (wr.heap[gb103]? = some (.cells #[.int .i64 0, .int .i64 0, .int .i64 0, .int .i64 0] 22 (0, 0))) := ⟨by rw [← hq_]; exact (by (with_reducible repeat (first | refine blk_drewN ?_ _ | refine blk_drew ?_ | refine blk_alloc ?_ _)); exact BK103.out)⟩; have n1_ : Aside0 (Below w.heap.size w wr) := ⟨by rw [← hq_]; exact (by repeat (first | (with_reducible first | exact HB.out | apply below_alloc | apply pw_below_drewN | apply below_drew1 | refine below_set ?_ GE103.out) | exact HB.out))⟩; clear BK103 HB hq_; have BK103 := n0_; have HB := n1_; clear n0_ n1_)); have hcz24_0 : wr.cell? ⟨gb103, 0, none⟩ = some (.int .i64 0) := (blk_cell BK103.out 0).trans rfl; have hcz24_1 : wr.cell? ⟨gb103, 1, none⟩ = some (.int .i64 0) := (blk_cell BK103.out 1).trans rfl; have hcz24_2 : wr.cell? ⟨gb103, 2, none⟩ = some (.int .i64 0) := (blk_cell BK103.out 2).trans rfl; have hcz24_3 : wr.cell? ⟨gb103, 3, none⟩ = some (.int .i64 0) := (blk_cell BK103.out 3).trans rfl; have hfz24_0 := blk_frozen BK103.out 0; have hfz24_1 := blk_frozen BK103.out 1; have hfz24_2 := blk_frozen BK103.out 2; have hfz24_3 := blk_frozen BK103.out 3))
                      refine bodyPost_ret (results_ct rfl _ _ gb103 22 #[.int .i64 t104, .int .i64 t105, .int .i64 t108, .int .i64 t109] (0, 0) _ rfl (by (with_reducible repeat (first | refine blk_drewN ?_ _ | refine blk_drew ?_ | refine blk_alloc ?_ _)); refine blk_put (cs := #[.int .i64 t104, .int .i64 t105, .int .i64 t108, .int .i64 0]) ?_ 3 _ rfl; (with_reducible repeat (first | refine blk_drewN ?_ _ | refine blk_drew ?_ | refine blk_alloc ?_ _)); refine blk_put (cs := #[.int .i64 t104, .int .i64 t105, .int .i64 0, .int .i64 0]) ?_ 2 _ rfl; (with_reducible repeat (first | refine blk_drewN ?_ _ | refine blk_drew ?_ | refine blk_alloc ?_ _)); refine blk_put (cs := #[.int .i64 t104, .int .i64 0, .int .i64 0, .int .i64 0]) ?_ 1 _ rfl; (with_reducible repeat (first | refine blk_drewN ?_ _ | refine blk_drew ?_ | refine blk_alloc ?_ _)); refine blk_put (cs := #[.int .i64 0, .int .i64 0, .int .i64 0, .int .i64 0]) ?_ 0 _ rfl; (with_reducible repeat (first | refine blk_drewN ?_ _ | refine blk_drew ?_ | refine blk_alloc ?_ _)); exact BK103.out) Tryd.underlying22 rfl (by kernel_rfl)) rfl ?_
                      exact ⟨by first | rfl | (simp [errW_none, errW_some] <;> rfl) | (simp only [← hji15]; first | rfl | (simp [errW_none, errW_some] <;> rfl)) | (simp [*, errW_none, errW_some] <;> rfl), by repeat (first | (with_reducible first | exact HB.out | apply below_alloc | apply pw_below_drewN | apply below_drew1 | refine below_set ?_ GE103.out) | exact HB.out)⟩
                  · replace c19 := Bool.eq_false_iff.mpr c19
                    subst c19
                    have H1 : (some (t104, t105, t108, t109, false)) = some (r1, r2, r3, r4, r5) := by rw [if_neg (show ¬ (false = true) by decide)] at H; exact H
                    clear H
                    have H := H1
                    clear H1
                    simp only [Option.some.injEq, Prod.mk.injEq] at H
                    obtain ⟨rfl, rfl, rfl, rfl, rfl⟩ := H
                    go_wp2_with (first | ((with_reducible refine gate_callee (f := 55) rfl ?_); refine goesL_ (some 37) rfl rfl Tryd.func55 (by kernel_rfl) rfl #[.string (a0.extract 0 (x4_1 : Int).toNat)] rfl (by (try simp only [List.map_toArray, List.map_cons, List.map_nil]); first | done | rfl | (simp only [List.length_drop, List.length_take]; rfl)) ?_; (with_reducible refine (spec_Cell.calls k1 (a0.extract 0 (x4_1 : Int).toNat) t104 t105 false t107 _ A10.out).mono ?_); rintro e w' ⟨rfl, ⟨nd, rfl⟩⟩; refine ⟨_, rfl, ?_⟩; (try (rw [drewN_self wr]; generalize hq_ : World.drewN wr _ = wr; have n0_ : Aside0 (wr.heap[gb103]? = some (.cells #[.int .i64 0, .int .i64 0, .int .i64 0, .int .i64 0] 22 (0, 0))) := ⟨by rw [← hq_]; exact (by (with_reducible repeat (first | refine blk_drewN ?_ _ | refine blk_drew ?_ | refine blk_alloc ?_ _)); exact BK103.out)⟩; have n1_ : Aside0 (Below w.heap.size w wr) := ⟨by rw [← hq_]; exact (by repeat (first | (with_reducible first | exact HB.out | apply below_alloc | apply pw_below_drewN | apply below_drew1 | refine below_set ?_ GE103.out) | exact HB.out))⟩; clear BK103 HB hq_; have BK103 := n0_; have HB := n1_; clear n0_ n1_))) | ((with_reducible refine gate_callee (f := 55) rfl ?_); refine goesL_ (some 60) rfl rfl Tryd.func55 (by kernel_rfl) rfl #[.string (a0.extract ((ji15) : Int).toNat a0.size)] rfl (by (try simp only [List.map_toArray, List.map_cons, List.map_nil]); first | done | (simp only [hji15]; rfl) | rfl | (simp only [List.length_drop, List.length_take]; rfl)) ?_; (with_reducible refine (spec_Cell.calls k1 (a0.extract ((ji15) : Int).toNat a0.size) t108 t109 t110 t111 _ A18.out).mono ?_); rintro e w' ⟨rfl, ⟨nd, rfl⟩⟩; refine ⟨_, rfl, ?_⟩; (try (rw [drewN_self wr]; generalize hq_ : World.drewN wr _ = wr; have n0_ : Aside0 (wr.heap[gb103]? = some (.cells #[.int .i64 0, .int .i64 0, .int .i64 0, .int .i64 0] 22 (0, 0))) := ⟨by rw [← hq_]; exact (by (with_reducible repeat (first | refine blk_drewN ?_ _ | refine blk_drew ?_ | refine blk_alloc ?_ _)); exact BK103.out)⟩; have n1_ : Aside0 (Below w.heap.size w wr) := ⟨by rw [← hq_]; exact (by repeat (first | (with_reducible first | exact HB.out | apply below_alloc | apply pw_below_drewN | apply below_drew1 | refine below_set ?_ GE103.out) | exact HB.out))⟩; clear BK103 HB hq_; have BK103 := n0_; have HB := n1_; clear n0_ n1_)); have hcz25_0 : wr.cell? ⟨gb103, 0, none⟩ = some (.int .i64 0) := (blk_cell BK103.out 0).trans rfl; have hcz25_1 : wr.cell? ⟨gb103, 1, none⟩ = some (.int .i64 0) := (blk_cell BK103.out 1).trans rfl; have hcz25_2 : wr.cell? ⟨gb103, 2, none⟩ = some (.int .i64 0) := (blk_cell BK103.out 2).trans rfl; have hcz25_3 : wr.cell? ⟨gb103, 3, none⟩ = some (.int .i64 0) := (blk_cell BK103.out 3).trans rfl; have hfz25_0 := blk_frozen BK103.out 0; have hfz25_1 := blk_frozen BK103.out 1; have hfz25_2 := blk_frozen BK103.out 2; have hfz25_3 := blk_frozen BK103.out 3))
                    refine bodyPost_ret (results_ct rfl _ _ gb103 22 #[.int .i64 t104, .int .i64 t105, .int .i64 t108, .int .i64 t109] (0, 0) _ rfl (by (with_reducible repeat (first | refine blk_drewN ?_ _ | refine blk_drew ?_ | refine blk_alloc ?_ _)); refine blk_put (cs := #[.int .i64 t104, .int .i64 t105, .int .i64 t108, .int .i64 0]) ?_ 3 _ rfl; (with_reducible repeat (first | refine blk_drewN ?_ _ | refine blk_drew ?_ | refine blk_alloc ?_ _)); refine blk_put (cs := #[.int .i64 t104, .int .i64 t105, .int .i64 0, .int .i64 0]) ?_ 2 _ rfl; (with_reducible repeat (first | refine blk_drewN ?_ _ | refine blk_drew ?_ | refine blk_alloc ?_ _)); refine blk_put (cs := #[.int .i64 t104, .int .i64 0, .int .i64 0, .int .i64 0]) ?_ 1 _ rfl; (with_reducible repeat (first | refine blk_drewN ?_ _ | refine blk_drew ?_ | refine blk_alloc ?_ _)); refine blk_put (cs := #[.int .i64 0, .int .i64 0, .int .i64 0, .int .i64 0]) ?_ 0 _ rfl; (with_reducible repeat (first | refine blk_drewN ?_ _ | refine blk_drew ?_ | refine blk_alloc ?_ _)); exact BK103.out) Tryd.underlying22 rfl (by kernel_rfl)) rfl ?_
                    exact ⟨by first | rfl | (simp [errW_none, errW_some] <;> rfl) | (simp only [← hji15]; first | rfl | (simp [errW_none, errW_some] <;> rfl)) | (simp [*, errW_none, errW_some] <;> rfl), by repeat (first | (with_reducible first | exact HB.out | apply below_alloc | apply pw_below_drewN | apply below_drew1 | refine below_set ?_ GE103.out) | exact HB.out)⟩
                · rw [if_neg c17] at H
                  exact absurd H (by simp)
              · rw [if_neg c16] at H
                exact absurd H (by simp)
          · rw [if_neg c9] at H
            exact absurd H (by simp)
        · rw [if_neg c8] at H
          exact absurd H (by simp)

end Go.Proofs.YtfbenlenihlpbaaDoor.PRo
