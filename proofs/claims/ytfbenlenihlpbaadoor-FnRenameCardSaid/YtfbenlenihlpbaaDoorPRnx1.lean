/- Contracts of functions that the text "Rn" uses: the call ends in what the plain Lean function says, where that says something. Written by a program of this session. No conditions. -/
import Derived.Test.YtfbenlenihlpbaaDoorPRnx0
namespace Go.Proofs.YtfbenlenihlpbaaDoor.PRn
open Go.RowKit Go.Proofs.YtfbenlenihlpbaaDoorW.PrintWords Go.Proofs.YtfbenlenihlpbaaDoorW.PrintLast Go.Proofs.YtfbenlenihlpbaaDoorW.PrintMore
attribute [local go_sem] max2_int min2_int max_two min_two max_three min_three max_four min_four   -- for this text's walks alone
set_option linter.unusedVariables false
set_option linter.unusedSimpArgs false

/-! ### spec_GridArea: function 15 -/
def spec_GridArea.j0 : Nat → Int → Int → Int → Int → Bool → Option (Int × Int × Int × Int)
  | 0, _, _, _, _, _ => none
  | k + 1, x3, x4, x5, x6, x38 => if x38 = true then (if x6 < 60 then (some (x3, x4, x5, wrap64 (x6 + 1))) else (some (x3, wrap64 (x4 - 1), x5, x6))) else (some (x3, x4, x5, x6))
def spec_GridArea.f (k : Nat) (a0_0 : Int) (a0_1 : Int) (a0_2 : Int) (a0_3 : Int) : Option (Int × Int × Int × Int) := (Go.Proofs.YtfbenlenihlpbaaDoor.PgridIn.spec_gridIn.f a0_0 30).bind fun t103 => ((Go.Proofs.YtfbenlenihlpbaaDoor.PgridIn.spec_gridIn.f a0_1 60).bind fun t104 => ((Go.Proofs.YtfbenlenihlpbaaDoor.PgridIn.spec_gridIn.f a0_2 30).bind fun t105 => ((Go.Proofs.YtfbenlenihlpbaaDoor.PgridIn.spec_gridIn.f a0_3 60).bind fun t106 => (if (mn t103 t105) = (mx t103 t105) then (spec_GridArea.j0 k (mn t103 t105) (mn t104 t106) (mx t103 t105) (mx t104 t106) ((mn t104 t106) == (mx t104 t106))) else (spec_GridArea.j0 k (mn t103 t105) (mn t104 t106) (mx t103 t105) (mx t104 t106) false)))))
theorem spec_GridArea.mono_l : ∀ k, (∀ y0 y1 y2 y3 y4, LeO (spec_GridArea.j0 k y0 y1 y2 y3 y4) (spec_GridArea.j0 (k + 1) y0 y1 y2 y3 y4))
  | 0 => fun _ _ _ _ _ r h => by simp [spec_GridArea.j0] at h
  | k + 1 => by
    have ih0 := spec_GridArea.mono_l k
    · intro y0 y1 y2 y3 y4
      unfold spec_GridArea.j0
      repeat' first
      | (with_reducible exact ih0 _ _ _ _ _)
      | (with_reducible exact LeO.refl _)
      | (with_reducible exact LeO.none _)
      | (with_reducible refine LeO.ite ?_ ?_)
      | (with_reducible refine LeO.bind ?_ (fun _ => ?_))
      | exact ih0 _ _ _ _ _
      | exact LeO.none _
      | refine LeO.ite ?_ ?_
      | refine LeO.bind ?_ (fun _ => ?_)
theorem spec_GridArea.mono : ∀ a0 a1 a2 a3 k, LeO (spec_GridArea.f k a0 a1 a2 a3) (spec_GridArea.f (k + 1) a0 a1 a2 a3) := by
  intro a0 a1 a2 a3 k
  have ih0 := spec_GridArea.mono_l k
  unfold spec_GridArea.f
  repeat' first
      | (with_reducible exact ih0 _ _ _ _ _)
      | (with_reducible exact LeO.refl _)
      | (with_reducible exact LeO.none _)
      | (with_reducible refine LeO.ite ?_ ?_)
      | (with_reducible refine LeO.bind ?_ (fun _ => ?_))
      | exact ih0 _ _ _ _ _
      | exact LeO.none _
      | refine LeO.ite ?_ ?_
      | refine LeO.bind ?_ (fun _ => ?_)
set_option maxHeartbeats 8000000 in
set_option maxRecDepth 100000 in
theorem spec_GridArea.calls (k : Nat) (a0_0 : Int) (a0_1 : Int) (a0_2 : Int) (a0_3 : Int) (r1 : Int) (r2 : Int) (r3 : Int) (r4 : Int) (w : World) (h : spec_GridArea.f k a0_0 a0_1 a0_2 a0_3 = some (r1, r2, r3, r4)) :
    Calls Tryd.prog 15 #[.agg #[.int .i64 a0_0, .int .i64 a0_1, .int .i64 a0_2, .int .i64 a0_3]] w fun e w' => e = .returned (.agg #[.int .i64 r1, .int .i64 r2, .int .i64 r3, .int .i64 r4]) ∧ Below w.heap.size w w' := by
  have hu22 := Tryd.underlying22
  have HB := Aside0.mk (Below.refl w.heap.size w)
  have H : ((Go.Proofs.YtfbenlenihlpbaaDoor.PgridIn.spec_gridIn.f a0_0 30).bind fun t103 => ((Go.Proofs.YtfbenlenihlpbaaDoor.PgridIn.spec_gridIn.f a0_1 60).bind fun t104 => ((Go.Proofs.YtfbenlenihlpbaaDoor.PgridIn.spec_gridIn.f a0_2 30).bind fun t105 => ((Go.Proofs.YtfbenlenihlpbaaDoor.PgridIn.spec_gridIn.f a0_3 60).bind fun t106 => (if (mn t103 t105) = (mx t103 t105) then (spec_GridArea.j0 k (mn t103 t105) (mn t104 t106) (mx t103 t105) (mx t104 t106) ((mn t104 t106) == (mx t104 t106))) else (spec_GridArea.j0 k (mn t103 t105) (mn t104 t106) (mx t103 t105) (mx t104 t106) false)))))) = some (r1, r2, r3, r4) := h
  clear h
  replace H := Option.bind_eq_some_iff.mp H
  obtain ⟨t103, A20, H⟩ := H
  replace H : ((Go.Proofs.YtfbenlenihlpbaaDoor.PgridIn.spec_gridIn.f a0_1 60).bind fun t104 => ((Go.Proofs.YtfbenlenihlpbaaDoor.PgridIn.spec_gridIn.f a0_2 30).bind fun t105 => ((Go.Proofs.YtfbenlenihlpbaaDoor.PgridIn.spec_gridIn.f a0_3 60).bind fun t106 => (if (mn t103 t105) = (mx t103 t105) then (spec_GridArea.j0 k (mn t103 t105) (mn t104 t106) (mx t103 t105) (mx t104 t106) ((mn t104 t106) == (mx t104 t106))) else (spec_GridArea.j0 k (mn t103 t105) (mn t104 t106) (mx t103 t105) (mx t104 t106) false))))) = some (r1, r2, r3, r4) := H
  have A2 := Aside0.mk A20
  clear A20
  replace H := Option.bind_eq_some_iff.mp H
  obtain ⟨t104, A30, H⟩ := H
  replace H : ((Go.Proofs.YtfbenlenihlpbaaDoor.PgridIn.spec_gridIn.f a0_2 30).bind fun t105 => ((Go.Proofs.YtfbenlenihlpbaaDoor.PgridIn.spec_gridIn.f a0_3 60).bind fun t106 => (if (mn t103 t105) = (mx t103 t105) then (spec_GridArea.j0 k (mn t103 t105) (mn t104 t106) (mx t103 t105) (mx t104 t106) ((mn t104 t106) == (mx t104 t106))) else (spec_GridArea.j0 k (mn t103 t105) (mn t104 t106) (mx t103 t105) (mx t104 t106) false)))) = some (r1, r2, r3, r4) := H
  have A3 := Aside0.mk A30
  clear A30
  replace H := Option.bind_eq_some_iff.mp H
  obtain ⟨t105, A40, H⟩ := H
  replace H : ((Go.Proofs.YtfbenlenihlpbaaDoor.PgridIn.spec_gridIn.f a0_3 60).bind fun t106 => (if (mn t103 t105) = (mx t103 t105) then (spec_GridArea.j0 k (mn t103 t105) (mn t104 t106) (mx t103 t105) (mx t104 t106) ((mn t104 t106) == (mx t104 t106))) else (spec_GridArea.j0 k (mn t103 t105) (mn t104 t106) (mx t103 t105) (mx t104 t106) false))) = some (r1, r2, r3, r4) := H
  have A4 := Aside0.mk A40
  clear A40
  replace H := Option.bind_eq_some_iff.mp H
  obtain ⟨t106, A50, H⟩ := H
  replace H : (if (mn t103 t105) = (mx t103 t105) then (spec_GridArea.j0 k (mn t103 t105) (mn t104 t106) (mx t103 t105) (mx t104 t106) ((mn t104 t106) == (mx t104 t106))) else (spec_GridArea.j0 k (mn t103 t105) (mn t104 t106) (mx t103 t105) (mx t104 t106) false)) = some (r1, r2, r3, r4) := H
  have A5 := Aside0.mk A50
  clear A50
  obtain ⟨ji6, hji6⟩ : ∃ j_ : Int, (mn t103 t105) = j_ := ⟨_, rfl⟩
  replace H : (if (ji6) = (mx t103 t105) then (spec_GridArea.j0 k ji6 (mn t104 t106) (mx t103 t105) (mx t104 t106) ((mn t104 t106) == (mx t104 t106))) else (spec_GridArea.j0 k ji6 (mn t104 t106) (mx t103 t105) (mx t104 t106) false)) = some (r1, r2, r3, r4) := by first | (rw [hji6] at H; exact H) | (simp only [hji6] at H ⊢; exact H)
  (try rw [hji6] at A2)
  (try rw [hji6] at A3)
  (try rw [hji6] at A4)
  (try rw [hji6] at A5)
  have hji6_ : (if t105 < t103 then t105 else t103) = ji6 := hji6
  obtain ⟨ji7, hji7⟩ : ∃ j_ : Int, (mx t103 t105) = j_ := ⟨_, rfl⟩
  replace H : (if (ji6) = (ji7) then (spec_GridArea.j0 k ji6 (mn t104 t106) ji7 (mx t104 t106) ((mn t104 t106) == (mx t104 t106))) else (spec_GridArea.j0 k ji6 (mn t104 t106) ji7 (mx t104 t106) false)) = some (r1, r2, r3, r4) := by first | (rw [hji7] at H; exact H) | (simp only [hji7] at H ⊢; exact H)
  (try rw [hji7] at A2)
  (try rw [hji7] at A3)
  (try rw [hji7] at A4)
  (try rw [hji7] at A5)
  have hji7_ : (if t103 < t105 then t105 else t103) = ji7 := hji7
  obtain ⟨ji8, hji8⟩ : ∃ j_ : Int, (mn t104 t106) = j_ := ⟨_, rfl⟩
  replace H : (if (ji6) = (ji7) then (spec_GridArea.j0 k ji6 ji8 ji7 (mx t104 t106) ((ji8) == (mx t104 t106))) else (spec_GridArea.j0 k ji6 ji8 ji7 (mx t104 t106) false)) = some (r1, r2, r3, r4) := by first | (rw [hji8] at H; exact H) | (simp only [hji8] at H ⊢; exact H)
  (try rw [hji8] at A2)
  (try rw [hji8] at A3)
  (try rw [hji8] at A4)
  (try rw [hji8] at A5)
  have hji8_ : (if t106 < t104 then t106 else t104) = ji8 := hji8
  obtain ⟨ji9, hji9⟩ : ∃ j_ : Int, (mx t104 t106) = j_ := ⟨_, rfl⟩
  replace H : (if (ji6) = (ji7) then (spec_GridArea.j0 k ji6 ji8 ji7 ji9 ((ji8) == (ji9))) else (spec_GridArea.j0 k ji6 ji8 ji7 ji9 false)) = some (r1, r2, r3, r4) := by first | (rw [hji9] at H; exact H) | (simp only [hji9] at H ⊢; exact H)
  (try rw [hji9] at A2)
  (try rw [hji9] at A3)
  (try rw [hji9] at A4)
  (try rw [hji9] at A5)
  have hji9_ : (if t104 < t106 then t106 else t104) = ji9 := hji9
  have HC10 := Aside0.mk H
  clear H
  go_enter Tryd.func15, Tryd.ntmps15
  go_upto_region 4 with (first | ((with_reducible refine gate_dst (N := 1) rfl ?_); refine box_event ?hg (N := 1) ?hd (cs := #[.int .i64 a0_0, .int .i64 a0_1, .int .i64 a0_2, .int .i64 a0_3]) (t := 22) ?hr ?_; (case hd => rfl); (case hg => rfl); (case hr => first | (go_simp; done) | (go_simp; rfl)); intro gb101 hg w11 hbox hb; have n0_ := Aside0.mk (below_step (by repeat (first | (with_reducible first | exact HB.out | apply below_alloc | apply pw_below_drewN | apply below_drew1) | exact HB.out)) hb); have n1_ := Aside0.mk (hbox); have n2_ := Aside0.mk ((by rw [hg]; exact (below_size (by repeat (first | (with_reducible first | exact HB.out | apply below_alloc | apply pw_below_drewN | apply below_drew1) | exact HB.out))) : w.heap.size ≤ gb101)); have n3_ := Aside0.mk ((by rw [hg]; exact (below_size (by repeat (first | (with_reducible first | exact HB.out | apply below_alloc | apply pw_below_drewN | apply below_drew1) | exact HB.out))) : w.heap.size ≤ gb101)); clear HB; have HB := n0_; have BK101 := n1_; have GW101 := n2_; have GE101 := n3_; clear n0_ n1_ n2_ n3_; clear hb hbox hg) | ((with_reducible refine gate_dst (N := 2) rfl ?_); refine box_event ?hg (N := 2) ?hd (cs := #[.int .i64 0, .int .i64 0, .int .i64 0, .int .i64 0]) (t := 22) ?hr ?_; (case hd => rfl); (case hg => rfl); (case hr => first | (go_simp; done) | (go_simp; rfl)); intro gb102 hg w12 hbox hb; have n0_ := Aside0.mk (blk_below (g := gb101) (o := .cells #[.int .i64 a0_0, .int .i64 a0_1, .int .i64 a0_2, .int .i64 a0_3] 22 (0, 0)) (by (with_reducible repeat (first | refine blk_drewN ?_ _ | refine blk_drew ?_ | refine blk_alloc ?_ _)); exact BK101.out) hb); have n1_ := Aside0.mk (below_step (by repeat (first | (with_reducible first | exact HB.out | apply below_alloc | apply pw_below_drewN | apply below_drew1 | refine below_set ?_ GE101.out) | exact HB.out)) hb); have n2_ := Aside0.mk (hbox); have n3_ := Aside0.mk ((by rw [hg]; exact (below_size (by repeat (first | (with_reducible first | exact HB.out | apply below_alloc | apply pw_below_drewN | apply below_drew1 | refine below_set ?_ GE101.out) | exact HB.out))) : w.heap.size ≤ gb102)); have n4_ := Aside0.mk ((by rw [hg]; exact (below_size (by repeat (first | (with_reducible first | exact HB.out | apply below_alloc | apply pw_below_drewN | apply below_drew1 | refine below_set ?_ GE101.out) | exact HB.out))) : w.heap.size ≤ gb102)); have n5_ := Aside0.mk ((by rw [hg]; exact Nat.ne_of_lt (blk_lt (g := gb101) (o := .cells #[.int .i64 a0_0, .int .i64 a0_1, .int .i64 a0_2, .int .i64 a0_3] 22 (0, 0)) (by (with_reducible repeat (first | refine blk_drewN ?_ _ | refine blk_drew ?_ | refine blk_alloc ?_ _)); exact BK101.out)) : gb101 ≠ gb102)); have n6_ := Aside0.mk ((by rw [hg]; exact Nat.ne_of_gt (blk_lt (g := gb101) (o := .cells #[.int .i64 a0_0, .int .i64 a0_1, .int .i64 a0_2, .int .i64 a0_3] 22 (0, 0)) (by (with_reducible repeat (first | refine blk_drewN ?_ _ | refine blk_drew ?_ | refine blk_alloc ?_ _)); exact BK101.out)) : gb102 ≠ gb101)); clear BK101; clear HB; have BK101 := n0_; have HB := n1_; have BK102 := n2_; have GW102 := n3_; have GE102 := n4_; have NB101_102 := n5_; have NB102_101 := n6_; clear n0_ n1_ n2_ n3_ n4_ n5_ n6_; clear hb hbox hg; have hnb13 := NB101_102.out; have hnc13 := NB102_101.out; have hcz14_0 : w12.cell? ⟨gb101, 0, none⟩ = some (.int .i64 a0_0) := (blk_cell BK101.out 0).trans rfl; have hcz14_1 : w12.cell? ⟨gb101, 1, none⟩ = some (.int .i64 a0_1) := (blk_cell BK101.out 1).trans rfl; have hcz14_2 : w12.cell? ⟨gb101, 2, none⟩ = some (.int .i64 a0_2) := (blk_cell BK101.out 2).trans rfl; have hcz14_3 : w12.cell? ⟨gb101, 3, none⟩ = some (.int .i64 a0_3) := (blk_cell BK101.out 3).trans rfl; have hfz14_0 := blk_frozen BK101.out 0; have hfz14_1 := blk_frozen BK101.out 1; have hfz14_2 := blk_frozen BK101.out 2; have hfz14_3 := blk_frozen BK101.out 3) | (go_at_call 38; (with_reducible refine (Go.Proofs.YtfbenlenihlpbaaDoor.PgridIn.spec_gridIn.calls a0_0 30 t103 _ A2.out).mono ?_); rintro e w' ⟨rfl, ⟨nd, rfl⟩⟩; (try first | exact ⟨rfl, _, World.drewN_drewN _ _ _⟩ | exact ⟨rfl, _, Eq.trans (World.drewN_drewN _ _ _) (congrArg (World.drewN _) (Nat.add_assoc _ _ _))⟩)) | (go_at_call 38; (with_reducible refine (Go.Proofs.YtfbenlenihlpbaaDoor.PgridIn.spec_gridIn.calls a0_1 60 t104 _ A3.out).mono ?_); rintro e w' ⟨rfl, ⟨nd, rfl⟩⟩; (try first | exact ⟨rfl, _, World.drewN_drewN _ _ _⟩ | exact ⟨rfl, _, Eq.trans (World.drewN_drewN _ _ _) (congrArg (World.drewN _) (Nat.add_assoc _ _ _))⟩)) | (go_at_call 38; (with_reducible refine (Go.Proofs.YtfbenlenihlpbaaDoor.PgridIn.spec_gridIn.calls a0_2 30 t105 _ A4.out).mono ?_); rintro e w' ⟨rfl, ⟨nd, rfl⟩⟩; (try first | exact ⟨rfl, _, World.drewN_drewN _ _ _⟩ | exact ⟨rfl, _, Eq.trans (World.drewN_drewN _ _ _) (congrArg (World.drewN _) (Nat.add_assoc _ _ _))⟩)) | (go_at_call 38; (with_reducible refine (Go.Proofs.YtfbenlenihlpbaaDoor.PgridIn.spec_gridIn.calls a0_3 60 t106 _ A5.out).mono ?_); rintro e w' ⟨rfl, ⟨nd, rfl⟩⟩; (try first | exact ⟨rfl, _, World.drewN_drewN _ _ _⟩ | exact ⟨rfl, _, Eq.trans (World.drewN_drewN _ _ _) (congrArg (World.drewN _) (Nat.add_assoc _ _ _))⟩)))
  repeat (go_quiet (first | ((with_reducible refine gate_dst (N := 1) rfl ?_); refine box_event ?hg (N := 1) ?hd (cs := #[.int .i64 a0_0, .int .i64 a0_1, .int .i64 a0_2, .int .i64 a0_3]) (t := 22) ?hr ?_; (case hd => rfl); (case hg => rfl); (case hr => first | (go_simp; done) | (go_simp; rfl)); intro gb101 hg w11 hbox hb; have n0_ := Aside0.mk (below_step (by repeat (first | (with_reducible first | exact HB.out | apply below_alloc | apply pw_below_drewN | apply below_drew1) | exact HB.out)) hb); have n1_ := Aside0.mk (hbox); have n2_ := Aside0.mk ((by rw [hg]; exact (below_size (by repeat (first | (with_reducible first | exact HB.out | apply below_alloc | apply pw_below_drewN | apply below_drew1) | exact HB.out))) : w.heap.size ≤ gb101)); have n3_ := Aside0.mk ((by rw [hg]; exact (below_size (by repeat (first | (with_reducible first | exact HB.out | apply below_alloc | apply pw_below_drewN | apply below_drew1) | exact HB.out))) : w.heap.size ≤ gb101)); clear HB; have HB := n0_; have BK101 := n1_; have GW101 := n2_; have GE101 := n3_; clear n0_ n1_ n2_ n3_; clear hb hbox hg) | ((with_reducible refine gate_dst (N := 2) rfl ?_); refine box_event ?hg (N := 2) ?hd (cs := #[.int .i64 0, .int .i64 0, .int .i64 0, .int .i64 0]) (t := 22) ?hr ?_; (case hd => rfl); (case hg => rfl); (case hr => first | (go_simp; done) | (go_simp; rfl)); intro gb102 hg w12 hbox hb; have n0_ := Aside0.mk (blk_below (g := gb101) (o := .cells #[.int .i64 a0_0, .int .i64 a0_1, .int .i64 a0_2, .int .i64 a0_3] 22 (0, 0)) (by (with_reducible repeat (first | refine blk_drewN ?_ _ | refine blk_drew ?_ | refine blk_alloc ?_ _)); exact BK101.out) hb); have n1_ := Aside0.mk (below_step (by repeat (first | (with_reducible first | exact HB.out | apply below_alloc | apply pw_below_drewN | apply below_drew1 | refine below_set ?_ GE101.out) | exact HB.out)) hb); have n2_ := Aside0.mk (hbox); have n3_ := Aside0.mk ((by rw [hg]; exact (below_size (by repeat (first | (with_reducible first | exact HB.out | apply below_alloc | apply pw_below_drewN | apply below_drew1 | refine below_set ?_ GE101.out) | exact HB.out))) : w.heap.size ≤ gb102)); have n4_ := Aside0.mk ((by rw [hg]; exact (below_size (by repeat (first | (with_reducible first | exact HB.out | apply below_alloc | apply pw_below_drewN | apply below_drew1 | refine below_set ?_ GE101.out) | exact HB.out))) : w.heap.size ≤ gb102)); have n5_ := Aside0.mk ((by rw [hg]; exact Nat.ne_of_lt (blk_lt (g := gb101) (o := .cells #[.int .i64 a0_0, .int .i64 a0_1, .int .i64 a0_2, .int .i64 a0_3] 22 (0, 0)) (by (with_reducible repeat (first | refine blk_drewN ?_ _ | refine blk_drew ?_ | refine blk_alloc ?_ _)); exact BK101.out)) : gb101 ≠ gb102)); have n6_ := Aside0.mk ((by rw [hg]; exact Nat.ne_of_gt (blk_lt (g := gb101) (o := .cells #[.int .i64 a0_0, .int .i64 a0_1, .int .i64 a0_2, .int .i64 a0_3] 22 (0, 0)) (by (with_reducible repeat (first | refine blk_drewN ?_ _ | refine blk_drew ?_ | refine blk_alloc ?_ _)); exact BK101.out)) : gb102 ≠ gb101)); clear BK101; clear HB; have BK101 := n0_; have HB := n1_; have BK102 := n2_; have GW102 := n3_; have GE102 := n4_; have NB101_102 := n5_; have NB102_101 := n6_; clear n0_ n1_ n2_ n3_ n4_ n5_ n6_; clear hb hbox hg; have hnb13 := NB101_102.out; have hnc13 := NB102_101.out; have hcz14_0 : w12.cell? ⟨gb101, 0, none⟩ = some (.int .i64 a0_0) := (blk_cell BK101.out 0).trans rfl; have hcz14_1 : w12.cell? ⟨gb101, 1, none⟩ = some (.int .i64 a0_1) := (blk_cell BK101.out 1).trans rfl; have hcz14_2 : w12.cell? ⟨gb101, 2, none⟩ = some (.int .i64 a0_2) := (blk_cell BK101.out 2).trans rfl; have hcz14_3 : w12.cell? ⟨gb101, 3, none⟩ = some (.int .i64 a0_3) := (blk_cell BK101.out 3).trans rfl; have hfz14_0 := blk_frozen BK101.out 0; have hfz14_1 := blk_frozen BK101.out 1; have hfz14_2 := blk_frozen BK101.out 2; have hfz14_3 := blk_frozen BK101.out 3) | (go_at_call 38; (with_reducible refine (Go.Proofs.YtfbenlenihlpbaaDoor.PgridIn.spec_gridIn.calls a0_0 30 t103 _ A2.out).mono ?_); rintro e w' ⟨rfl, ⟨nd, rfl⟩⟩; (try first | exact ⟨rfl, _, World.drewN_drewN _ _ _⟩ | exact ⟨rfl, _, Eq.trans (World.drewN_drewN _ _ _) (congrArg (World.drewN _) (Nat.add_assoc _ _ _))⟩)) | (go_at_call 38; (with_reducible refine (Go.Proofs.YtfbenlenihlpbaaDoor.PgridIn.spec_gridIn.calls a0_1 60 t104 _ A3.out).mono ?_); rintro e w' ⟨rfl, ⟨nd, rfl⟩⟩; (try first | exact ⟨rfl, _, World.drewN_drewN _ _ _⟩ | exact ⟨rfl, _, Eq.trans (World.drewN_drewN _ _ _) (congrArg (World.drewN _) (Nat.add_assoc _ _ _))⟩)) | (go_at_call 38; (with_reducible refine (Go.Proofs.YtfbenlenihlpbaaDoor.PgridIn.spec_gridIn.calls a0_2 30 t105 _ A4.out).mono ?_); rintro e w' ⟨rfl, ⟨nd, rfl⟩⟩; (try first | exact ⟨rfl, _, World.drewN_drewN _ _ _⟩ | exact ⟨rfl, _, Eq.trans (World.drewN_drewN _ _ _) (congrArg (World.drewN _) (Nat.add_assoc _ _ _))⟩)) | (go_at_call 38; (with_reducible refine (Go.Proofs.YtfbenlenihlpbaaDoor.PgridIn.spec_gridIn.calls a0_3 60 t106 _ A5.out).mono ?_); rintro e w' ⟨rfl, ⟨nd, rfl⟩⟩; (try first | exact ⟨rfl, _, World.drewN_drewN _ _ _⟩ | exact ⟨rfl, _, Eq.trans (World.drewN_drewN _ _ _) (congrArg (World.drewN _) (Nat.add_assoc _ _ _))⟩))); go_upto_region 4 with (first | ((with_reducible refine gate_dst (N := 1) rfl ?_); refine box_event ?hg (N := 1) ?hd (cs := #[.int .i64 a0_0, .int .i64 a0_1, .int .i64 a0_2, .int .i64 a0_3]) (t := 22) ?hr ?_; (case hd => rfl); (case hg => rfl); (case hr => first | (go_simp; done) | (go_simp; rfl)); intro gb101 hg w11 hbox hb; have n0_ := Aside0.mk (below_step (by repeat (first | (with_reducible first | exact HB.out | apply below_alloc | apply pw_below_drewN | apply below_drew1) | exact HB.out)) hb); have n1_ := Aside0.mk (hbox); have n2_ := Aside0.mk ((by rw [hg]; exact (below_size (by repeat (first | (with_reducible first | exact HB.out | apply below_alloc | apply pw_below_drewN | apply below_drew1) | exact HB.out))) : w.heap.size ≤ gb101)); have n3_ := Aside0.mk ((by rw [hg]; exact (below_size (by repeat (first | (with_reducible first | exact HB.out | apply below_alloc | apply pw_below_drewN | apply below_drew1) | exact HB.out))) : w.heap.size ≤ gb101)); clear HB; have HB := n0_; have BK101 := n1_; have GW101 := n2_; have GE101 := n3_; clear n0_ n1_ n2_ n3_; clear hb hbox hg) | ((with_reducible refine gate_dst (N := 2) rfl ?_); refine box_event ?hg (N := 2) ?hd (cs := #[.int .i64 0, .int .i64 0, .int .i64 0, .int .i64 0]) (t := 22) ?hr ?_; (case hd => rfl); (case hg => rfl); (case hr => first | (go_simp; done) | (go_simp; rfl)); intro gb102 hg w12 hbox hb; have n0_ := Aside0.mk (blk_below (g := gb101) (o := .cells #[.int .i64 a0_0, .int .i64 a0_1, .int .i64 a0_2, .int .i64 a0_3] 22 (0, 0)) (by (with_reducible repeat (first | refine blk_drewN ?_ _ | refine blk_drew ?_ | refine blk_alloc ?_ _)); exact BK101.out) hb); have n1_ := Aside0.mk (below_step (by repeat (first | (with_reducible first | exact HB.out | apply below_alloc | apply pw_below_drewN | apply below_drew1 | refine below_set ?_ GE101.out) | exact HB.out)) hb); have n2_ := Aside0.mk (hbox); have n3_ := Aside0.mk ((by rw [hg]; exact (below_size (by repeat (first | (with_reducible first | exact HB.out | apply below_alloc | apply pw_below_drewN | apply below_drew1 | refine below_set ?_ GE101.out) | exact HB.out))) : w.heap.size ≤ gb102)); have n4_ := Aside0.mk ((by rw [hg]; exact (below_size (by repeat (first | (with_reducible first | exact HB.out | apply below_alloc | apply pw_below_drewN | apply below_drew1 | refine below_set ?_ GE101.out) | exact HB.out))) : w.heap.size ≤ gb102)); have n5_ := Aside0.mk ((by rw [hg]; exact Nat.ne_of_lt (blk_lt (g := gb101) (o := .cells #[.int .i64 a0_0, .int .i64 a0_1, .int .i64 a0_2, .int .i64 a0_3] 22 (0, 0)) (by (with_reducible repeat (first | refine blk_drewN ?_ _ | refine blk_drew ?_ | refine blk_alloc ?_ _)); exact BK101.out)) : gb101 ≠ gb102)); have n6_ := Aside0.mk ((by rw [hg]; exact Nat.ne_of_gt (blk_lt (g := gb101) (o := .cells #[.int .i64 a0_0, .int .i64 a0_1, .int .i64 a0_2, .int .i64 a0_3] 22 (0, 0)) (by (with_reducible repeat (first | refine blk_drewN ?_ _ | refine blk_drew ?_ | refine blk_alloc ?_ _)); exact BK101.out)) : gb102 ≠ gb101)); clear BK101; clear HB; have BK101 := n0_; have HB := n1_; have BK102 := n2_; have GW102 := n3_; have GE102 := n4_; have NB101_102 := n5_; have NB102_101 := n6_; clear n0_ n1_ n2_ n3_ n4_ n5_ n6_; clear hb hbox hg; have hnb13 := NB101_102.out; have hnc13 := NB102_101.out; have hcz14_0 : w12.cell? ⟨gb101, 0, none⟩ = some (.int .i64 a0_0) := (blk_cell BK101.out 0).trans rfl; have hcz14_1 : w12.cell? ⟨gb101, 1, none⟩ = some (.int .i64 a0_1) := (blk_cell BK101.out 1).trans rfl; have hcz14_2 : w12.cell? ⟨gb101, 2, none⟩ = some (.int .i64 a0_2) := (blk_cell BK101.out 2).trans rfl; have hcz14_3 : w12.cell? ⟨gb101, 3, none⟩ = some (.int .i64 a0_3) := (blk_cell BK101.out 3).trans rfl; have hfz14_0 := blk_frozen BK101.out 0; have hfz14_1 := blk_frozen BK101.out 1; have hfz14_2 := blk_frozen BK101.out 2; have hfz14_3 := blk_frozen BK101.out 3) | (go_at_call 38; (with_reducible refine (Go.Proofs.YtfbenlenihlpbaaDoor.PgridIn.spec_gridIn.calls a0_0 30 t103 _ A2.out).mono ?_); rintro e w' ⟨rfl, ⟨nd, rfl⟩⟩; (try first | exact ⟨rfl, _, World.drewN_drewN _ _ _⟩ | exact ⟨rfl, _, Eq.trans (World.drewN_drewN _ _ _) (congrArg (World.drewN _) (Nat.add_assoc _ _ _))⟩)) | (go_at_call 38; (with_reducible refine (Go.Proofs.YtfbenlenihlpbaaDoor.PgridIn.spec_gridIn.calls a0_1 60 t104 _ A3.out).mono ?_); rintro e w' ⟨rfl, ⟨nd, rfl⟩⟩; (try first | exact ⟨rfl, _, World.drewN_drewN _ _ _⟩ | exact ⟨rfl, _, Eq.trans (World.drewN_drewN _ _ _) (congrArg (World.drewN _) (Nat.add_assoc _ _ _))⟩)) | (go_at_call 38; (with_reducible refine (Go.Proofs.YtfbenlenihlpbaaDoor.PgridIn.spec_gridIn.calls a0_2 30 t105 _ A4.out).mono ?_); rintro e w' ⟨rfl, ⟨nd, rfl⟩⟩; (try first | exact ⟨rfl, _, World.drewN_drewN _ _ _⟩ | exact ⟨rfl, _, Eq.trans (World.drewN_drewN _ _ _) (congrArg (World.drewN _) (Nat.add_assoc _ _ _))⟩)) | (go_at_call 38; (with_reducible refine (Go.Proofs.YtfbenlenihlpbaaDoor.PgridIn.spec_gridIn.calls a0_3 60 t106 _ A5.out).mono ?_); rintro e w' ⟨rfl, ⟨nd, rfl⟩⟩; (try first | exact ⟨rfl, _, World.drewN_drewN _ _ _⟩ | exact ⟨rfl, _, Eq.trans (World.drewN_drewN _ _ _) (congrArg (World.drewN _) (Nat.add_assoc _ _ _))⟩))))
  (try simp only [Act.put, List.setIfInBounds_toArray, List.set_cons_zero, List.set_cons_succ])
  go_cut [38] (fun v38 wc => ∃ (kq : Nat) (x38_9 : Bool), v38 = .bool x38_9 ∧ Aside0 (spec_GridArea.j0 kq ji6 ji8 ji7 ji9 x38_9 = some (r1, r2, r3, r4)) ∧ Aside0 (kq ≤ k) ∧ Aside0 (wc.heap[gb101]? = some (.cells #[.int .i64 a0_0, .int .i64 a0_1, .int .i64 a0_2, .int .i64 a0_3] 22 (0, 0))) ∧ Aside0 (wc.heap[gb102]? = some (.cells #[.int .i64 0, .int .i64 0, .int .i64 0, .int .i64 0] 22 (0, 0))) ∧ Aside0 (Below w.heap.size w wc))
  case first =>
    have H := HC10.out
    clear HC10
    by_cases c15 : (ji6) = (ji7)
    · rw [if_pos c15] at H
      have c15b0 : ((ji6) == (ji7)) = true := beq_iff_eq.mpr c15
      have c15b1 : ((ji6) != (ji7)) = false := bne_eq_false_iff_eq.mpr c15
      clear c15
      (first | rw [c15b0] | (simp only [i64_w, i32_w]; rw [c15b0]) | skip)
      have H' := Aside0.mk H
      clear H
      go_wp2
      repeat (go_quiet (fail); try go_wp2)
      go_meet
      case rel => exact ⟨_, (((ji8) == (ji9))), (by first | rfl | (simp; done) | (simp only [← hji8, ← hji9] <;> (first | rfl | simp)) | (simp [*]; done) | (simp [wrap64]; done) | (generalize ByteArray.toList _ = l_; cases l_ <;> first | rfl | (simp; done))), H', ⟨by first | omega | exact Nat.le_refl _⟩, ⟨by (with_reducible repeat (first | refine blk_drewN ?_ _ | refine blk_drew ?_ | refine blk_alloc ?_ _)); exact BK101.out⟩, ⟨by (with_reducible repeat (first | refine blk_drewN ?_ _ | refine blk_drew ?_ | refine blk_alloc ?_ _)); exact BK102.out⟩, ⟨by repeat (first | (with_reducible first | exact HB.out | apply below_alloc | apply pw_below_drewN | apply below_drew1 | refine below_set ?_ GE101.out | refine below_set ?_ GE102.out) | exact HB.out)⟩⟩
    · rw [if_neg c15] at H
      have c15b0 : ((ji6) == (ji7)) = false := beq_eq_false_iff_ne.mpr c15
      have c15b1 : ((ji6) != (ji7)) = true := bne_iff_ne.mpr c15
      (first | rw [c15b0] | (simp only [i64_w, i32_w]; rw [c15b0]) | skip)
      have H' := Aside0.mk H
      clear H
      go_wp2
      repeat (go_quiet (fail); try go_wp2)
      go_meet
      case rel => exact ⟨_, (false), (by first | rfl | (simp; done) | (simp [*]; done) | (simp [wrap64]; done) | (generalize ByteArray.toList _ = l_; cases l_ <;> first | rfl | (simp; done))), H', ⟨by first | omega | exact Nat.le_refl _⟩, ⟨by (with_reducible repeat (first | refine blk_drewN ?_ _ | refine blk_drew ?_ | refine blk_alloc ?_ _)); exact BK101.out⟩, ⟨by (with_reducible repeat (first | refine blk_drewN ?_ _ | refine blk_drew ?_ | refine blk_alloc ?_ _)); exact BK102.out⟩, ⟨by repeat (first | (with_reducible first | exact HB.out | apply below_alloc | apply pw_below_drewN | apply below_drew1 | refine below_set ?_ GE101.out | refine below_set ?_ GE102.out) | exact HB.out)⟩⟩
  case rest =>
    clear HC10
    try clear c1
    try clear p2
    try clear c13
    try clear c15
    try clear c15b0
    try clear c15b1
    try clear hcz14_0
    try clear hcz14_1
    try clear hcz14_2
    try clear hcz14_3
    try clear hfz14_0
    try clear hfz14_1
    try clear hfz14_2
    try clear hfz14_3
    obtain ⟨kq, x38_9, rfl, HA, HJ9, BK101, BK102, HB⟩ := hcut
    cases kq with
    | zero => exact absurd HA.out (by simp [spec_GridArea.j0])
    | succ kj9 =>
      have H := HA.out
      clear HA
      simp only [spec_GridArea.j0] at H
      by_cases c16 : x38_9 = true
      · subst c16
        have H1 : (if ji9 < 60 then (some (ji6, ji8, ji7, wrap64 (ji9 + 1))) else (some (ji6, wrap64 (ji8 - 1), ji7, ji9))) = some (r1, r2, r3, r4) := by rw [if_pos rfl] at H; exact H
        clear H
        have H := H1
        clear H1
        by_cases c17 : ji9 < 60
        · rw [if_pos c17] at H
          have c17b0 : decide (ji9 < 60) = true := decide_eq_true c17
          clear c17
          simp only [Option.some.injEq, Prod.mk.injEq] at H
          obtain ⟨rfl, rfl, rfl, rfl⟩ := H
          have hnb18 := NB102_101.out
          have hnc18 := NB101_102.out
          have hcz19_0 : wc.cell? ⟨gb102, 0, none⟩ = some (.int .i64 0) := (blk_cell BK102.out 0).trans rfl
          have hcz19_1 : wc.cell? ⟨gb102, 1, none⟩ = some (.int .i64 0) := (blk_cell BK102.out 1).trans rfl
          have hcz19_2 : wc.cell? ⟨gb102, 2, none⟩ = some (.int .i64 0) := (blk_cell BK102.out 2).trans rfl
          have hcz19_3 : wc.cell? ⟨gb102, 3, none⟩ = some (.int .i64 0) := (blk_cell BK102.out 3).trans rfl
          have hfz19_0 := blk_frozen BK102.out 0
          have hfz19_1 := blk_frozen BK102.out 1
          have hfz19_2 := blk_frozen BK102.out 2
          have hfz19_3 := blk_frozen BK102.out 3
          go_wp2
          repeat (go_quiet (fail); try go_wp2)
          refine bodyPost_ret (results_cell_row rfl _ _ gb102 22 #[.int .i64 ji6, .int .i64 ji8, .int .i64 ji7, .int .i64 (wrap64 (ji9 + 1))] (0, 0) _ rfl (by (with_reducible repeat (first | refine blk_drewN ?_ _ | refine blk_drew ?_ | refine blk_alloc ?_ _)); refine blk_put (cs := #[.int .i64 ji6, .int .i64 ji8, .int .i64 ji7, .int .i64 0]) ?_ 3 _ rfl; (with_reducible repeat (first | refine blk_drewN ?_ _ | refine blk_drew ?_ | refine blk_alloc ?_ _)); refine blk_put (cs := #[.int .i64 ji6, .int .i64 ji8, .int .i64 0, .int .i64 0]) ?_ 2 _ rfl; (with_reducible repeat (first | refine blk_drewN ?_ _ | refine blk_drew ?_ | refine blk_alloc ?_ _)); refine blk_put (cs := #[.int .i64 ji6, .int .i64 0, .int .i64 0, .int .i64 0]) ?_ 1 _ rfl; (with_reducible repeat (first | refine blk_drewN ?_ _ | refine blk_drew ?_ | refine blk_alloc ?_ _)); refine blk_put (cs := #[.int .i64 0, .int .i64 0, .int .i64 0, .int .i64 0]) ?_ 0 _ rfl; (with_reducible repeat (first | refine blk_drewN ?_ _ | refine blk_drew ?_ | refine blk_alloc ?_ _)); exact BK102.out) Tryd.underlying22 rfl (by kernel_rfl)) rfl ?_
          exact ⟨by first | rfl | (simp [errW_none, errW_some] <;> rfl) | (simp only [← hji6, ← hji7, ← hji8, ← hji9]; first | rfl | (simp [errW_none, errW_some] <;> rfl)) | (simp [*, errW_none, errW_some] <;> rfl), by repeat (first | (with_reducible first | exact HB.out | apply below_alloc | apply pw_below_drewN | apply below_drew1 | refine below_set ?_ GE101.out | refine below_set ?_ GE102.out) | exact HB.out)⟩
        · rw [if_neg c17] at H
          have c17b0 : decide (ji9 < 60) = false := decide_eq_false c17
          clear c17
          simp only [Option.some.injEq, Prod.mk.injEq] at H
          obtain ⟨rfl, rfl, rfl, rfl⟩ := H
          have hnb20 := NB102_101.out
          have hnc20 := NB101_102.out
          have hcz21_0 : wc.cell? ⟨gb102, 0, none⟩ = some (.int .i64 0) := (blk_cell BK102.out 0).trans rfl
          have hcz21_1 : wc.cell? ⟨gb102, 1, none⟩ = some (.int .i64 0) := (blk_cell BK102.out 1).trans rfl
          have hcz21_2 : wc.cell? ⟨gb102, 2, none⟩ = some (.int .i64 0) := (blk_cell BK102.out 2).trans rfl
          have hcz21_3 : wc.cell? ⟨gb102, 3, none⟩ = some (.int .i64 0) := (blk_cell BK102.out 3).trans rfl
          have hfz21_0 := blk_frozen BK102.out 0
          have hfz21_1 := blk_frozen BK102.out 1
          have hfz21_2 := blk_frozen BK102.out 2
          have hfz21_3 := blk_frozen BK102.out 3
          go_wp2
          repeat (go_quiet (fail); try go_wp2)
          refine bodyPost_ret (results_cell_row rfl _ _ gb102 22 #[.int .i64 ji6, .int .i64 (wrap64 (ji8 - 1)), .int .i64 ji7, .int .i64 ji9] (0, 0) _ rfl (by (with_reducible repeat (first | refine blk_drewN ?_ _ | refine blk_drew ?_ | refine blk_alloc ?_ _)); refine blk_put (cs := #[.int .i64 ji6, .int .i64 (wrap64 (ji8 - 1)), .int .i64 ji7, .int .i64 0]) ?_ 3 _ rfl; (with_reducible repeat (first | refine blk_drewN ?_ _ | refine blk_drew ?_ | refine blk_alloc ?_ _)); refine blk_put (cs := #[.int .i64 ji6, .int .i64 (wrap64 (ji8 - 1)), .int .i64 0, .int .i64 0]) ?_ 2 _ rfl; (with_reducible repeat (first | refine blk_drewN ?_ _ | refine blk_drew ?_ | refine blk_alloc ?_ _)); refine blk_put (cs := #[.int .i64 ji6, .int .i64 0, .int .i64 0, .int .i64 0]) ?_ 1 _ rfl; (with_reducible repeat (first | refine blk_drewN ?_ _ | refine blk_drew ?_ | refine blk_alloc ?_ _)); refine blk_put (cs := #[.int .i64 0, .int .i64 0, .int .i64 0, .int .i64 0]) ?_ 0 _ rfl; (with_reducible repeat (first | refine blk_drewN ?_ _ | refine blk_drew ?_ | refine blk_alloc ?_ _)); exact BK102.out) Tryd.underlying22 rfl (by kernel_rfl)) rfl ?_
          exact ⟨by first | rfl | (simp [errW_none, errW_some] <;> rfl) | (simp only [← hji6, ← hji7, ← hji8, ← hji9]; first | rfl | (simp [errW_none, errW_some] <;> rfl)) | (simp [*, errW_none, errW_some] <;> rfl), by repeat (first | (with_reducible first | exact HB.out | apply below_alloc | apply pw_below_drewN | apply below_drew1 | refine below_set ?_ GE101.out | refine below_set ?_ GE102.out) | exact HB.out)⟩
      · replace c16 := Bool.eq_false_iff.mpr c16
        subst c16
        have H1 : (some (ji6, ji8, ji7, ji9)) = some (r1, r2, r3, r4) := by rw [if_neg (show ¬ (false = true) by decide)] at H; exact H
        clear H
        have H := H1
        clear H1
        simp only [Option.some.injEq, Prod.mk.injEq] at H
        obtain ⟨rfl, rfl, rfl, rfl⟩ := H
        have hnb22 := NB102_101.out
        have hnc22 := NB101_102.out
        have hcz23_0 : wc.cell? ⟨gb102, 0, none⟩ = some (.int .i64 0) := (blk_cell BK102.out 0).trans rfl
        have hcz23_1 : wc.cell? ⟨gb102, 1, none⟩ = some (.int .i64 0) := (blk_cell BK102.out 1).trans rfl
        have hcz23_2 : wc.cell? ⟨gb102, 2, none⟩ = some (.int .i64 0) := (blk_cell BK102.out 2).trans rfl
        have hcz23_3 : wc.cell? ⟨gb102, 3, none⟩ = some (.int .i64 0) := (blk_cell BK102.out 3).trans rfl
        have hfz23_0 := blk_frozen BK102.out 0
        have hfz23_1 := blk_frozen BK102.out 1
        have hfz23_2 := blk_frozen BK102.out 2
        have hfz23_3 := blk_frozen BK102.out 3
        go_wp2
        repeat (go_quiet (fail); try go_wp2)
        refine bodyPost_ret (results_cell_row rfl _ _ gb102 22 #[.int .i64 ji6, .int .i64 ji8, .int .i64 ji7, .int .i64 ji9] (0, 0) _ rfl (by (with_reducible repeat (first | refine blk_drewN ?_ _ | refine blk_drew ?_ | refine blk_alloc ?_ _)); refine blk_put (cs := #[.int .i64 ji6, .int .i64 ji8, .int .i64 ji7, .int .i64 0]) ?_ 3 _ rfl; (with_reducible repeat (first | refine blk_drewN ?_ _ | refine blk_drew ?_ | refine blk_alloc ?_ _)); refine blk_put (cs := #[.int .i64 ji6, .int .i64 ji8, .int .i64 0, .int .i64 0]) ?_ 2 _ rfl; (with_reducible repeat (first | refine blk_drewN ?_ _ | refine blk_drew ?_ | refine blk_alloc ?_ _)); refine blk_put (cs := #[.int .i64 ji6, .int .i64 0, .int .i64 0, .int .i64 0]) ?_ 1 _ rfl; (with_reducible repeat (first | refine blk_drewN ?_ _ | refine blk_drew ?_ | refine blk_alloc ?_ _)); refine blk_put (cs := #[.int .i64 0, .int .i64 0, .int .i64 0, .int .i64 0]) ?_ 0 _ rfl; (with_reducible repeat (first | refine blk_drewN ?_ _ | refine blk_drew ?_ | refine blk_alloc ?_ _)); exact BK102.out) Tryd.underlying22 rfl (by kernel_rfl)) rfl ?_
        exact ⟨by first | rfl | (simp [errW_none, errW_some] <;> rfl) | (simp only [← hji6, ← hji7, ← hji8, ← hji9]; first | rfl | (simp [errW_none, errW_some] <;> rfl)) | (simp [*, errW_none, errW_some] <;> rfl), by repeat (first | (with_reducible first | exact HB.out | apply below_alloc | apply pw_below_drewN | apply below_drew1 | refine below_set ?_ GE101.out | refine below_set ?_ GE102.out) | exact HB.out)⟩

/-! ### laws_refPlain: function 48 -/
def laws_refPlain.l0 : Nat → ByteArray → Int → Option (Bool)
  | 0, _, _ => none
  | k + 1, x0, x3 => if x3 < (x0.size : Int) then (if 0 ≤ x3 then (if (bt x0 x3) ≥ 97 then (if (bt x0 x3) ≤ 122 then (laws_refPlain.l0 k x0 (wrap64 (x3 + 1))) else (if (bt x0 x3) ≥ 65 then (if ((bt x0 x3) ≤ 90) then (laws_refPlain.l0 k x0 (wrap64 (x3 + 1))) else (some false)) else (some false))) else (if (bt x0 x3) ≥ 65 then (if ((bt x0 x3) ≤ 90) then (laws_refPlain.l0 k x0 (wrap64 (x3 + 1))) else (some false)) else (some false))) else (none)) else (some (x0.toList != ([] : List UInt8)))
def laws_refPlain.f (k : Nat) (a0 : ByteArray) : Option (Bool) := laws_refPlain.l0 k a0 0
theorem laws_refPlain.mono_l : ∀ k, (∀ y0 y1, LeO (laws_refPlain.l0 k y0 y1) (laws_refPlain.l0 (k + 1) y0 y1))
  | 0 => fun _ _ r h => by simp [laws_refPlain.l0] at h
  | k + 1 => by
    have ih0 := laws_refPlain.mono_l k
    · intro y0 y1
      unfold laws_refPlain.l0
      repeat' first
      | (with_reducible exact ih0 _ _)
      | (with_reducible exact LeO.refl _)
      | (with_reducible exact LeO.none _)
      | (with_reducible refine LeO.ite ?_ ?_)
      | (with_reducible refine LeO.bind ?_ (fun _ => ?_))
      | exact ih0 _ _
      | exact LeO.none _
      | refine LeO.ite ?_ ?_
      | refine LeO.bind ?_ (fun _ => ?_)
theorem laws_refPlain.mono : ∀ a0 k, LeO (laws_refPlain.f k a0) (laws_refPlain.f (k + 1) a0) := by
  intro a0 k
  have ih0 := laws_refPlain.mono_l k
  unfold laws_refPlain.f
  repeat' first
      | (with_reducible exact ih0 _ _)
      | (with_reducible exact LeO.refl _)
      | (with_reducible exact LeO.none _)
      | (with_reducible refine LeO.ite ?_ ?_)
      | (with_reducible refine LeO.bind ?_ (fun _ => ?_))
      | exact ih0 _ _
      | exact LeO.none _
      | refine LeO.ite ?_ ?_
      | refine LeO.bind ?_ (fun _ => ?_)
set_option maxHeartbeats 8000000 in
set_option maxRecDepth 100000 in
theorem laws_refPlain.calls (k : Nat) (a0 : ByteArray) (r : Bool) (w : World) (h : laws_refPlain.f k a0 = some r) :
    Calls Tryd.prog 48 #[.string a0] w fun e w' => e = .returned (.bool r) ∧ Drawn0 w w' := by
  have H : (laws_refPlain.l0 k a0 0) = some r := h
  clear h
  have H' := Aside0.mk H
  clear H
  go_enter Tryd.func48, Tryd.ntmps48
  go_wp2
  go_loopg [3] k (fun kq v3 w' => ∃ (x3_1 : Int), v3 = .int .i64 x3_1 ∧ Aside0 (laws_refPlain.l0 kq a0 x3_1 = some r) ∧ Aside0 (kq ≤ k) ∧ Drawn0 w w')
  case atStart => exact ⟨(0), (by first | rfl | (simp; done) | (simp [*]; done) | (simp [wrap64]; done) | (generalize ByteArray.toList _ = l_; cases l_ <;> first | rfl | (simp; done))), H', ⟨Nat.le_refl _⟩, by repeat (first | exact Drawn0.refl _ | apply Drawn0.step)⟩
  case round =>
    clear H'
    obtain ⟨x3_1, rfl, HA, HK1, ⟨m1, rfl⟩⟩ := hrel
    cases gk with
    | zero => exact absurd HA.out (by simp [laws_refPlain.l0])
    | succ k1 =>
      have H := HA.out
      clear HA
      simp only [laws_refPlain.l0] at H
      by_cases c2 : x3_1 < (a0.size : Int)
      · rw [if_pos c2] at H
        have c2b0 : decide (x3_1 < (a0.size : Int)) = true := decide_eq_true c2
        clear c2
        by_cases c3 : 0 ≤ x3_1
        · rw [if_pos c3] at H
          have c3b0 : decide (0 ≤ x3_1) = true := decide_eq_true c3
          clear c3
          by_cases c5 : (bt a0 x3_1) ≥ 97
          · rw [if_pos c5] at H
            have c5b0 : decide (97 ≤ (bt a0 x3_1)) = true := decide_eq_true c5
            clear c5
            by_cases c7 : (bt a0 x3_1) ≤ 122
            · rw [if_pos c7] at H
              have c7b0 : decide ((bt a0 x3_1) ≤ 122) = true := decide_eq_true c7
              clear c7
              have H' := Aside0.mk H
              clear H
              have p4 : 0 ≤ (x3_1 : Int) := of_decide_eq_true (by first | (with_reducible assumption) | assumption)
              have q4 : x3_1 < (a0.size : Int) := of_decide_eq_true (by first | (with_reducible assumption) | assumption)
              have hx4 := bt_at a0 x3_1
              replace p4 := eq_true p4
              replace q4 := eq_true q4
              have p6 : 0 ≤ (x3_1 : Int) := of_decide_eq_true (by first | (with_reducible assumption) | assumption)
              have q6 : x3_1 < (a0.size : Int) := of_decide_eq_true (by first | (with_reducible assumption) | assumption)
              have hx6 := bt_at a0 x3_1
              replace p6 := eq_true p6
              replace q6 := eq_true q6
              go_wp2
              go_roundg k1
              case measure => have := HK1.out; omega
              case rel => exact ⟨(wrap64 (x3_1 + 1)), (by first | rfl | (simp; done) | (simp [*]; done) | (simp [wrap64]; done) | (generalize ByteArray.toList _ = l_; cases l_ <;> first | rfl | (simp; done))), H', ⟨by have := HK1.out; omega⟩, by repeat (first | exact Drawn0.refl _ | apply Drawn0.step)⟩
            · rw [if_neg c7] at H
              have c7b0 : decide ((bt a0 x3_1) ≤ 122) = false := decide_eq_false c7
              clear c7
              by_cases c9 : (bt a0 x3_1) ≥ 65
              · rw [if_pos c9] at H
                have c9b0 : decide (65 ≤ (bt a0 x3_1)) = true := decide_eq_true c9
                clear c9
                by_cases c11 : ((bt a0 x3_1) ≤ 90)
                · rw [if_pos c11] at H
                  have c11b0 : decide ((bt a0 x3_1) ≤ 90) = true := decide_eq_true c11
                  clear c11
                  have H' := Aside0.mk H
                  clear H
                  have p4 : 0 ≤ (x3_1 : Int) := of_decide_eq_true (by first | (with_reducible assumption) | assumption)
                  have q4 : x3_1 < (a0.size : Int) := of_decide_eq_true (by first | (with_reducible assumption) | assumption)
                  have hx4 := bt_at a0 x3_1
                  replace p4 := eq_true p4
                  replace q4 := eq_true q4
                  have p6 : 0 ≤ (x3_1 : Int) := of_decide_eq_true (by first | (with_reducible assumption) | assumption)
                  have q6 : x3_1 < (a0.size : Int) := of_decide_eq_true (by first | (with_reducible assumption) | assumption)
                  have hx6 := bt_at a0 x3_1
                  replace p6 := eq_true p6
                  replace q6 := eq_true q6
                  have p8 : 0 ≤ (x3_1 : Int) := of_decide_eq_true (by first | (with_reducible assumption) | assumption)
                  have q8 : x3_1 < (a0.size : Int) := of_decide_eq_true (by first | (with_reducible assumption) | assumption)
                  have hx8 := bt_at a0 x3_1
                  replace p8 := eq_true p8
                  replace q8 := eq_true q8
                  have p10 : 0 ≤ (x3_1 : Int) := of_decide_eq_true (by first | (with_reducible assumption) | assumption)
                  have q10 : x3_1 < (a0.size : Int) := of_decide_eq_true (by first | (with_reducible assumption) | assumption)
                  have hx10 := bt_at a0 x3_1
                  replace p10 := eq_true p10
                  replace q10 := eq_true q10
                  go_wp2
                  go_roundg k1
                  case measure => have := HK1.out; omega
                  case rel => exact ⟨(wrap64 (x3_1 + 1)), (by first | rfl | (simp; done) | (simp [*]; done) | (simp [wrap64]; done) | (generalize ByteArray.toList _ = l_; cases l_ <;> first | rfl | (simp; done))), H', ⟨by have := HK1.out; omega⟩, by repeat (first | exact Drawn0.refl _ | apply Drawn0.step)⟩
                · rw [if_neg c11] at H
                  have c11b0 : decide ((bt a0 x3_1) ≤ 90) = false := decide_eq_false c11
                  clear c11
                  obtain rfl := Option.some.inj H
                  have p4 : 0 ≤ (x3_1 : Int) := of_decide_eq_true (by first | (with_reducible assumption) | assumption)
                  have q4 : x3_1 < (a0.size : Int) := of_decide_eq_true (by first | (with_reducible assumption) | assumption)
                  have hx4 := bt_at a0 x3_1
                  replace p4 := eq_true p4
                  replace q4 := eq_true q4
                  have p6 : 0 ≤ (x3_1 : Int) := of_decide_eq_true (by first | (with_reducible assumption) | assumption)
                  have q6 : x3_1 < (a0.size : Int) := of_decide_eq_true (by first | (with_reducible assumption) | assumption)
                  have hx6 := bt_at a0 x3_1
                  replace p6 := eq_true p6
                  replace q6 := eq_true q6
                  have p8 : 0 ≤ (x3_1 : Int) := of_decide_eq_true (by first | (with_reducible assumption) | assumption)
                  have q8 : x3_1 < (a0.size : Int) := of_decide_eq_true (by first | (with_reducible assumption) | assumption)
                  have hx8 := bt_at a0 x3_1
                  replace p8 := eq_true p8
                  replace q8 := eq_true q8
                  have p10 : 0 ≤ (x3_1 : Int) := of_decide_eq_true (by first | (with_reducible assumption) | assumption)
                  have q10 : x3_1 < (a0.size : Int) := of_decide_eq_true (by first | (with_reducible assumption) | assumption)
                  have hx10 := bt_at a0 x3_1
                  replace p10 := eq_true p10
                  replace q10 := eq_true q10
                  go_wp2
                  go_ret
                  exact ⟨by first | rfl | (simp; done) | (simp [*]; done) | (simp [wrap64]; done) | (generalize ByteArray.toList _ = l_; cases l_ <;> first | rfl | (simp; done)), by repeat (first | exact Drawn0.refl _ | apply Drawn0.step)⟩
              · rw [if_neg c9] at H
                have c9b0 : decide (65 ≤ (bt a0 x3_1)) = false := decide_eq_false c9
                clear c9
                obtain rfl := Option.some.inj H
                have p4 : 0 ≤ (x3_1 : Int) := of_decide_eq_true (by first | (with_reducible assumption) | assumption)
                have q4 : x3_1 < (a0.size : Int) := of_decide_eq_true (by first | (with_reducible assumption) | assumption)
                have hx4 := bt_at a0 x3_1
                replace p4 := eq_true p4
                replace q4 := eq_true q4
                have p6 : 0 ≤ (x3_1 : Int) := of_decide_eq_true (by first | (with_reducible assumption) | assumption)
                have q6 : x3_1 < (a0.size : Int) := of_decide_eq_true (by first | (with_reducible assumption) | assumption)
                have hx6 := bt_at a0 x3_1
                replace p6 := eq_true p6
                replace q6 := eq_true q6
                have p8 : 0 ≤ (x3_1 : Int) := of_decide_eq_true (by first | (with_reducible assumption) | assumption)
                have q8 : x3_1 < (a0.size : Int) := of_decide_eq_true (by first | (with_reducible assumption) | assumption)
                have hx8 := bt_at a0 x3_1
                replace p8 := eq_true p8
                replace q8 := eq_true q8
                go_wp2
                go_ret
                exact ⟨by first | rfl | (simp; done) | (simp [*]; done) | (simp [wrap64]; done) | (generalize ByteArray.toList _ = l_; cases l_ <;> first | rfl | (simp; done)), by repeat (first | exact Drawn0.refl _ | apply Drawn0.step)⟩
          · rw [if_neg c5] at H
            have c5b0 : decide (97 ≤ (bt a0 x3_1)) = false := decide_eq_false c5
            clear c5
            by_cases c13 : (bt a0 x3_1) ≥ 65
            · rw [if_pos c13] at H
              have c13b0 : decide (65 ≤ (bt a0 x3_1)) = true := decide_eq_true c13
              clear c13
              by_cases c15 : ((bt a0 x3_1) ≤ 90)
              · rw [if_pos c15] at H
                have c15b0 : decide ((bt a0 x3_1) ≤ 90) = true := decide_eq_true c15
                clear c15
                have H' := Aside0.mk H
                clear H
                have p4 : 0 ≤ (x3_1 : Int) := of_decide_eq_true (by first | (with_reducible assumption) | assumption)
                have q4 : x3_1 < (a0.size : Int) := of_decide_eq_true (by first | (with_reducible assumption) | assumption)
                have hx4 := bt_at a0 x3_1
                replace p4 := eq_true p4
                replace q4 := eq_true q4
                have p12 : 0 ≤ (x3_1 : Int) := of_decide_eq_true (by first | (with_reducible assumption) | assumption)
                have q12 : x3_1 < (a0.size : Int) := of_decide_eq_true (by first | (with_reducible assumption) | assumption)
                have hx12 := bt_at a0 x3_1
                replace p12 := eq_true p12
                replace q12 := eq_true q12
                have p14 : 0 ≤ (x3_1 : Int) := of_decide_eq_true (by first | (with_reducible assumption) | assumption)
                have q14 : x3_1 < (a0.size : Int) := of_decide_eq_true (by first | (with_reducible assumption) | assumption)
                have hx14 := bt_at a0 x3_1
                replace p14 := eq_true p14
                replace q14 := eq_true q14
                go_wp2
                go_roundg k1
                case measure => have := HK1.out; omega
                case rel => exact ⟨(wrap64 (x3_1 + 1)), (by first | rfl | (simp; done) | (simp [*]; done) | (simp [wrap64]; done) | (generalize ByteArray.toList _ = l_; cases l_ <;> first | rfl | (simp; done))), H', ⟨by have := HK1.out; omega⟩, by repeat (first | exact Drawn0.refl _ | apply Drawn0.step)⟩
              · rw [if_neg c15] at H
                have c15b0 : decide ((bt a0 x3_1) ≤ 90) = false := decide_eq_false c15
                clear c15
                obtain rfl := Option.some.inj H
                have p4 : 0 ≤ (x3_1 : Int) := of_decide_eq_true (by first | (with_reducible assumption) | assumption)
                have q4 : x3_1 < (a0.size : Int) := of_decide_eq_true (by first | (with_reducible assumption) | assumption)
                have hx4 := bt_at a0 x3_1
                replace p4 := eq_true p4
                replace q4 := eq_true q4
                have p12 : 0 ≤ (x3_1 : Int) := of_decide_eq_true (by first | (with_reducible assumption) | assumption)
                have q12 : x3_1 < (a0.size : Int) := of_decide_eq_true (by first | (with_reducible assumption) | assumption)
                have hx12 := bt_at a0 x3_1
                replace p12 := eq_true p12
                replace q12 := eq_true q12
                have p14 : 0 ≤ (x3_1 : Int) := of_decide_eq_true (by first | (with_reducible assumption) | assumption)
                have q14 : x3_1 < (a0.size : Int) := of_decide_eq_true (by first | (with_reducible assumption) | assumption)
                have hx14 := bt_at a0 x3_1
                replace p14 := eq_true p14
                replace q14 := eq_true q14
                go_wp2
                go_ret
                exact ⟨by first | rfl | (simp; done) | (simp [*]; done) | (simp [wrap64]; done) | (generalize ByteArray.toList _ = l_; cases l_ <;> first | rfl | (simp; done)), by repeat (first | exact Drawn0.refl _ | apply Drawn0.step)⟩
            · rw [if_neg c13] at H
              have c13b0 : decide (65 ≤ (bt a0 x3_1)) = false := decide_eq_false c13
              clear c13
              obtain rfl := Option.some.inj H
              have p4 : 0 ≤ (x3_1 : Int) := of_decide_eq_true (by first | (with_reducible assumption) | assumption)
              have q4 : x3_1 < (a0.size : Int) := of_decide_eq_true (by first | (with_reducible assumption) | assumption)
              have hx4 := bt_at a0 x3_1
              replace p4 := eq_true p4
              replace q4 := eq_true q4
              have p12 : 0 ≤ (x3_1 : Int) := of_decide_eq_true (by first | (with_reducible assumption) | assumption)
              have q12 : x3_1 < (a0.size : Int) := of_decide_eq_true (by first | (with_reducible assumption) | assumption)
              have hx12 := bt_at a0 x3_1
              replace p12 := eq_true p12
              replace q12 := eq_true q12
              go_wp2
              go_ret
              exact ⟨by first | rfl | (simp; done) | (simp [*]; done) | (simp [wrap64]; done) | (generalize ByteArray.toList _ = l_; cases l_ <;> first | rfl | (simp; done)), by repeat (first | exact Drawn0.refl _ | apply Drawn0.step)⟩
        · rw [if_neg c3] at H
          exact absurd H (by simp)
      · rw [if_neg c2] at H
        have c2b0 : decide (x3_1 < (a0.size : Int)) = false := decide_eq_false c2
        clear c2
        obtain rfl := Option.some.inj H
        go_wp2
        go_ret
        exact ⟨by first | rfl | (simp; done) | (simp [*]; done) | (simp [wrap64]; done) | (generalize ByteArray.toList _ = l_; cases l_ <;> first | rfl | (simp; done)), by repeat (first | exact Drawn0.refl _ | apply Drawn0.step)⟩

/-! ### laws_refLetters: function 33 -/
mutual
def laws_refLetters.l0 : Nat → ByteArray → List Int → Int → Option (ByteArray)
  | 0, _, _, _ => none
  | k + 1, x0, x3, x4 => if x4 < (x0.size : Int) then (laws_refLetters.j1 k x0 x3 x4 (decide ((x3.length : Int) < 20))) else (laws_refLetters.j1 k x0 x3 x4 false)
def laws_refLetters.j1 : Nat → ByteArray → List Int → Int → Bool → Option (ByteArray)
  | 0, _, _, _, _ => none
  | k + 1, x0, x3, x4, x13 => if x13 = true then (if 0 ≤ x4 then (if x4 ≤ (wrap64 (x4 + 1)) then (if (wrap64 (x4 + 1)) ≤ (x0.size : Int) then ((laws_refPlain.f k (x0.extract (x4 : Int).toNat ((wrap64 (x4 + 1)) : Int).toNat)).bind fun t107 => (if t107 = true then (if x4 < (x0.size : Int) then (if x3.length < 140737488355328 then (laws_refLetters.l0 k x0 (x3 ++ [bt x0 x4]) (wrap64 (x4 + 1))) else (none)) else (none)) else (laws_refLetters.l0 k x0 x3 (wrap64 (x4 + 1))))) else (none)) else (none)) else (none)) else (if (x3.length : Int) = 0 then (some (⟨#[120]⟩ : ByteArray)) else (some (strOfNums x3)))
end
def laws_refLetters.f (k : Nat) (a0 : ByteArray) : Option (ByteArray) := laws_refLetters.l0 k a0 ([] : List Int) 0
theorem laws_refLetters.mono_l : ∀ k, (∀ y0 y1 y2, LeO (laws_refLetters.l0 k y0 y1 y2) (laws_refLetters.l0 (k + 1) y0 y1 y2)) ∧ (∀ y0 y1 y2 y3, LeO (laws_refLetters.j1 k y0 y1 y2 y3) (laws_refLetters.j1 (k + 1) y0 y1 y2 y3))
  | 0 => ⟨fun _ _ _ r h => by simp [laws_refLetters.l0] at h, fun _ _ _ _ r h => by simp [laws_refLetters.j1] at h⟩
  | k + 1 => by
    obtain ⟨ih0, ih1⟩ := laws_refLetters.mono_l k
    refine ⟨?_, ?_⟩
    · intro y0 y1 y2
      unfold laws_refLetters.l0
      repeat' first
      | (with_reducible exact ih0 _ _ _)
      | (with_reducible exact ih1 _ _ _ _)
      | (with_reducible exact laws_refPlain.mono _ _)
      | (with_reducible exact LeO.refl _)
      | (with_reducible exact LeO.none _)
      | (with_reducible refine LeO.ite ?_ ?_)
      | (with_reducible refine LeO.bind ?_ (fun _ => ?_))
      | exact ih0 _ _ _
      | exact ih1 _ _ _ _
      | exact laws_refPlain.mono _ _
      | exact LeO.none _
      | refine LeO.ite ?_ ?_
      | refine LeO.bind ?_ (fun _ => ?_)
    · intro y0 y1 y2 y3
      unfold laws_refLetters.j1
      repeat' first
      | (with_reducible exact ih0 _ _ _)
      | (with_reducible exact ih1 _ _ _ _)
      | (with_reducible exact laws_refPlain.mono _ _)
      | (with_reducible exact LeO.refl _)
      | (with_reducible exact LeO.none _)
      | (with_reducible refine LeO.ite ?_ ?_)
      | (with_reducible refine LeO.bind ?_ (fun _ => ?_))
      | exact ih0 _ _ _
      | exact ih1 _ _ _ _
      | exact laws_refPlain.mono _ _
      | exact LeO.none _
      | refine LeO.ite ?_ ?_
      | refine LeO.bind ?_ (fun _ => ?_)
theorem laws_refLetters.mono : ∀ a0 k, LeO (laws_refLetters.f k a0) (laws_refLetters.f (k + 1) a0) := by
  intro a0 k
  obtain ⟨ih0, ih1⟩ := laws_refLetters.mono_l k
  unfold laws_refLetters.f
  repeat' first
      | (with_reducible exact ih0 _ _ _)
      | (with_reducible exact ih1 _ _ _ _)
      | (with_reducible exact laws_refPlain.mono _ _)
      | (with_reducible exact LeO.refl _)
      | (with_reducible exact LeO.none _)
      | (with_reducible refine LeO.ite ?_ ?_)
      | (with_reducible refine LeO.bind ?_ (fun _ => ?_))
      | exact ih0 _ _ _
      | exact ih1 _ _ _ _
      | exact laws_refPlain.mono _ _
      | exact LeO.none _
      | refine LeO.ite ?_ ?_
      | refine LeO.bind ?_ (fun _ => ?_)
set_option maxHeartbeats 8000000 in
set_option maxRecDepth 100000 in
theorem laws_refLetters.calls (k : Nat) (a0 : ByteArray) (r : ByteArray) (w : World) (h : laws_refLetters.f k a0 = some r) :
    Calls Tryd.prog 33 #[.string a0] w fun e w' => e = .returned (.string r) ∧ Below w.heap.size w w' := by
  have HB := Aside0.mk (Below.refl w.heap.size w)
  have H : (laws_refLetters.l0 k a0 ([] : List Int) 0) = some r := h
  clear h
  have H' := Aside0.mk H
  clear H
  go_enter Tryd.func33, Tryd.ntmps33
  go_wp2
  go_loopg [3, 4] k (fun kq v3 v4 w' => ∃ (x3_1 : List Int) (x4_1 : Int), v4 = .int .i64 x4_1 ∧ Aside0 (laws_refLetters.l0 kq a0 x3_1 x4_1 = some r) ∧ Aside0 (kq ≤ k) ∧ Aside0 (Kd.R (Kd.int .u8) 5 w' w.heap.size (fun _ => True) v3 x3_1) ∧ Aside0 (Below w.heap.size w w'))
  case atStart => exact ⟨(([] : List Int)), (0), (by first | rfl | (simp; done) | (simp [*]; done) | (simp [wrap64]; done) | (generalize ByteArray.toList _ = l_; cases l_ <;> first | rfl | (simp; done))), H', ⟨Nat.le_refl _⟩, ⟨by first | exact Kd.R_nil _ _ _ _ _ | exact Kd.N_nil _ _ _ _ _ | exact Kd.V_nil _ _ _ _ _ | exact Kd.Q_nil _ _ _ _ _ | exact Kd.S_nil _ _ _ _ _⟩, ⟨by repeat (first | (with_reducible first | exact HB.out | apply below_alloc | apply pw_below_drewN | apply below_drew1) | exact HB.out)⟩⟩
  case round =>
    clear H'
    obtain ⟨x3_1, x4_1, rfl, HA, HK1, HO_3, HB⟩ := hrel
    cases gk with
    | zero => exact absurd HA.out (by simp [laws_refLetters.l0])
    | succ k1 =>
      have H := HA.out
      clear HA
      simp only [laws_refLetters.l0] at H
      have HC2 := Aside0.mk H
      clear H
      go_upto_region 3 with (fail)
      go_cut [13] (fun v13 wc => ∃ (kq : Nat) (x13_1 : Bool), v13 = .bool x13_1 ∧ Aside0 (laws_refLetters.j1 kq a0 x3_1 x4_1 x13_1 = some r) ∧ Aside0 (kq ≤ k1) ∧ Aside0 (Kd.R (Kd.int .u8) 5 wc w.heap.size (fun _ => True) u3 x3_1) ∧ Aside0 (Below w.heap.size w wc))
      case first =>
        have H := HC2.out
        clear HC2
        by_cases c3 : x4_1 < (a0.size : Int)
        · rw [if_pos c3] at H
          have c3b0 : decide (x4_1 < (a0.size : Int)) = true := decide_eq_true c3
          clear c3
          (first | rw [c3b0] | (simp only [i64_w, i32_w]; rw [c3b0]) | skip)
          have H' := Aside0.mk H
          clear H
          obtain ⟨Ao4, co4, eo4⟩ := Kd.R_slice HO_3.out
          subst eo4
          go_wp2
          go_meet
          case rel => exact ⟨_, (decide ((x3_1.length : Int) < 20)), (by first | rfl | (simp; done) | (simp [*]; done) | (simp [wrap64]; done) | (generalize ByteArray.toList _ = l_; cases l_ <;> first | rfl | (simp; done))), H', ⟨by have := HK1.out; first | omega | exact Nat.le_refl _⟩, ⟨by (with_reducible repeat (first | apply Kd.R_alloc | apply Kd.R_drewN | apply Kd.R_drew)); exact HO_3.out⟩, ⟨by repeat (first | (with_reducible first | exact HB.out | apply below_alloc | apply pw_below_drewN | apply below_drew1) | exact HB.out)⟩⟩
        · rw [if_neg c3] at H
          have c3b0 : decide (x4_1 < (a0.size : Int)) = false := decide_eq_false c3
          clear c3
          (first | rw [c3b0] | (simp only [i64_w, i32_w]; rw [c3b0]) | skip)
          have H' := Aside0.mk H
          clear H
          go_wp2
          go_meet
          case rel => exact ⟨_, (false), (by first | rfl | (simp; done) | (simp [*]; done) | (simp [wrap64]; done) | (generalize ByteArray.toList _ = l_; cases l_ <;> first | rfl | (simp; done))), H', ⟨by have := HK1.out; first | omega | exact Nat.le_refl _⟩, ⟨by (with_reducible repeat (first | apply Kd.R_alloc | apply Kd.R_drewN | apply Kd.R_drew)); exact HO_3.out⟩, ⟨by repeat (first | (with_reducible first | exact HB.out | apply below_alloc | apply pw_below_drewN | apply below_drew1) | exact HB.out)⟩⟩
      case rest =>
        clear HC2
        try clear p2
        try clear c3
        try clear c3b0
        obtain ⟨kq, x13_1, rfl, HA, HJ1, HO_3, HB⟩ := hcut
        cases kq with
        | zero => exact absurd HA.out (by simp [laws_refLetters.j1])
        | succ kj1 =>
          have H := HA.out
          clear HA
          simp only [laws_refLetters.j1] at H
          by_cases c5 : x13_1 = true
          · subst c5
            have H1 : (if 0 ≤ x4_1 then (if x4_1 ≤ (wrap64 (x4_1 + 1)) then (if (wrap64 (x4_1 + 1)) ≤ (a0.size : Int) then ((laws_refPlain.f kj1 (a0.extract (x4_1 : Int).toNat ((wrap64 (x4_1 + 1)) : Int).toNat)).bind fun t107 => (if t107 = true then (if x4_1 < (a0.size : Int) then (if x3_1.length < 140737488355328 then (laws_refLetters.l0 kj1 a0 (x3_1 ++ [bt a0 x4_1]) (wrap64 (x4_1 + 1))) else (none)) else (none)) else (laws_refLetters.l0 kj1 a0 x3_1 (wrap64 (x4_1 + 1))))) else (none)) else (none)) else (none)) = some r := by rw [if_pos rfl] at H; exact H
            clear H
            have H := H1
            clear H1
            by_cases c6 : 0 ≤ x4_1
            · rw [if_pos c6] at H
              have c6b0 := eq_true c6
              have c6b1 : decide (0 ≤ x4_1) = true := decide_eq_true c6
              clear c6
              by_cases c7 : x4_1 ≤ (wrap64 (x4_1 + 1))
              · rw [if_pos c7] at H
                have c7b0 := eq_true c7
                have c7b1 : decide (x4_1 ≤ (wrap64 (x4_1 + 1))) = true := decide_eq_true c7
                by_cases c8 : (wrap64 (x4_1 + 1)) ≤ (a0.size : Int)
                · rw [if_pos c8] at H
                  have c8b0 := eq_true c8
                  have c8b1 : decide ((wrap64 (x4_1 + 1)) ≤ (a0.size : Int)) = true := decide_eq_true c8
                  replace H := Option.bind_eq_some_iff.mp H
                  obtain ⟨t107, A90, H⟩ := H
                  replace H : (if t107 = true then (if x4_1 < (a0.size : Int) then (if x3_1.length < 140737488355328 then (laws_refLetters.l0 kj1 a0 (x3_1 ++ [bt a0 x4_1]) (wrap64 (x4_1 + 1))) else (none)) else (none)) else (laws_refLetters.l0 kj1 a0 x3_1 (wrap64 (x4_1 + 1)))) = some r := H
                  have A9 := Aside0.mk A90
                  clear A90
                  by_cases c10 : t107 = true
                  · subst c10
                    have H1 : (if x4_1 < (a0.size : Int) then (if x3_1.length < 140737488355328 then (laws_refLetters.l0 kj1 a0 (x3_1 ++ [bt a0 x4_1]) (wrap64 (x4_1 + 1))) else (none)) else (none)) = some r := by rw [if_pos rfl] at H; exact H
                    clear H
                    have H := H1
                    clear H1
                    by_cases c11 : x4_1 < (a0.size : Int)
                    · rw [if_pos c11] at H
                      have c11b0 : decide (x4_1 < (a0.size : Int)) = true := decide_eq_true c11
                      clear c11
                      by_cases c13 : x3_1.length < 140737488355328
                      · rw [if_pos c13] at H
                        have LMc13 := Aside0.mk c13
                        clear c13
                        obtain ⟨y108, hy108⟩ : ∃ y_ : List Int, y_ = (x3_1 ++ [bt a0 x4_1]) := ⟨_, rfl⟩
                        replace H : (laws_refLetters.l0 kj1 a0 y108 (wrap64 (x4_1 + 1))) = some r := by first | (rw [hy108]; with_reducible exact H) | (have H2_ := (Option.bind_some _ _).symm.trans H; rw [hy108]; with_reducible exact H2_) | (have H2_ := (Option.bind_some _ _).symm.trans H; with_reducible exact H2_) | with_reducible exact H | (rw [hy108]; exact H) | exact H
                        have Ny108 := Aside0.mk hy108
                        clear hy108
                        have H' := Aside0.mk H
                        clear H
                        go_wp2_with (first | ((with_reducible refine gate_callee (f := 48) rfl ?_); refine goesL_ (some 21) rfl rfl Tryd.func48 (by kernel_rfl) rfl #[.string (a0.extract (x4_1 : Int).toNat ((wrap64 (x4_1 + 1)) : Int).toNat)] rfl (by (try simp only [List.map_toArray, List.map_cons, List.map_nil]); first | done | rfl | (simp only [List.length_drop, List.length_take]; rfl)) ?_; (with_reducible refine (laws_refPlain.calls kj1 (a0.extract (x4_1 : Int).toNat ((wrap64 (x4_1 + 1)) : Int).toNat) true _ A9.out).mono ?_); rintro e w' ⟨rfl, ⟨nd, rfl⟩⟩; refine ⟨_, rfl, ?_⟩; have p12 : 0 ≤ (x4_1 : Int) := of_decide_eq_true (by first | (with_reducible assumption) | assumption); have q12 : x4_1 < (a0.size : Int) := of_decide_eq_true (by first | (with_reducible assumption) | assumption); have hx12 := bt_at a0 x4_1; replace p12 := eq_true p12; replace q12 := eq_true q12) | ((with_reducible refine gate_builtin (b := .append) (xs := #[.tmp 22, .tmp 26]) rfl ?_); (try (refine gate_guard (by rfl) ?_; dsimp only)); at_builtin; refine Kd.R_append (Kd.int .u8) (w0 := w) w.heap.size rfl (.tmp 22) (.tmp 26) 65 5 (.int .u8 0) 1 rfl Tryd.underlying65 info5 rfl (by decide) (by omega) u3 x3_1 (bt a0 x4_1) [.int .u8 (bt a0 x4_1)] (fun _ => True) (fun _ => False) rfl rfl ?aP (fun _ hk => hk.elim) ?aF ?aO ?aB ?aS ?aL ?_; (case aP => exact rfl); (case aB => exact (by repeat (first | (with_reducible first | exact HB.out | apply below_alloc | apply pw_below_drewN | apply below_drew1) | exact HB.out))); (case aF => exact (fun _ _ => trivial)); (case aO => exact (by (with_reducible repeat (first | apply Kd.R_alloc | apply Kd.R_drewN | apply Kd.R_drew)); exact HO_3.out)); (case aS => exact (below_size (by repeat (first | (with_reducible first | exact HB.out | apply below_alloc | apply pw_below_drewN | apply below_drew1) | exact HB.out)))); (case aL => have := LMc13.out; omega); intro v109 w14 ho hb hg hat; rw [← Ny108.out] at ho; have n0_ := Aside0.mk (hb); have n1_ := Aside0.mk (ho); clear HB; clear HO_3; have HB := n0_; have HO110 := n1_; clear n0_ n1_; clear ho hb hg hat))
                        go_roundg kj1
                        case measure => have := HK1.out; have := HJ1.out; omega
                        case rel => exact ⟨(y108), (wrap64 (x4_1 + 1)), (by first | rfl | (simp; done) | (simp [*]; done) | (simp [wrap64]; done) | (generalize ByteArray.toList _ = l_; cases l_ <;> first | rfl | (simp; done))), H', ⟨by have := HK1.out; have := HJ1.out; omega⟩, ⟨by (with_reducible repeat (first | apply Kd.R_alloc | apply Kd.R_drewN | apply Kd.R_drew)); exact HO110.out⟩, ⟨by repeat (first | (with_reducible first | exact HB.out | apply below_alloc | apply pw_below_drewN | apply below_drew1) | exact HB.out)⟩⟩
                      · rw [if_neg c13] at H
                        exact absurd H (by simp)
                    · rw [if_neg c11] at H
                      exact absurd H (by simp)
                  · replace c10 := Bool.eq_false_iff.mpr c10
                    subst c10
                    have H1 : (laws_refLetters.l0 kj1 a0 x3_1 (wrap64 (x4_1 + 1))) = some r := by rw [if_neg (show ¬ (false = true) by decide)] at H; exact H
                    clear H
                    have H := H1
                    clear H1
                    have H' := Aside0.mk H
                    clear H
                    go_wp2_with (first | ((with_reducible refine gate_callee (f := 48) rfl ?_); refine goesL_ (some 21) rfl rfl Tryd.func48 (by kernel_rfl) rfl #[.string (a0.extract (x4_1 : Int).toNat ((wrap64 (x4_1 + 1)) : Int).toNat)] rfl (by (try simp only [List.map_toArray, List.map_cons, List.map_nil]); first | done | rfl | (simp only [List.length_drop, List.length_take]; rfl)) ?_; (with_reducible refine (laws_refPlain.calls kj1 (a0.extract (x4_1 : Int).toNat ((wrap64 (x4_1 + 1)) : Int).toNat) false _ A9.out).mono ?_); rintro e w' ⟨rfl, ⟨nd, rfl⟩⟩; refine ⟨_, rfl, ?_⟩))
                    go_roundg kj1
                    case measure => have := HK1.out; have := HJ1.out; omega
                    case rel => exact ⟨(x3_1), (wrap64 (x4_1 + 1)), (by first | rfl | (simp; done) | (simp [*]; done) | (simp [wrap64]; done) | (generalize ByteArray.toList _ = l_; cases l_ <;> first | rfl | (simp; done))), H', ⟨by have := HK1.out; have := HJ1.out; omega⟩, ⟨by (with_reducible repeat (first | apply Kd.R_alloc | apply Kd.R_drewN | apply Kd.R_drew)); exact HO_3.out⟩, ⟨by repeat (first | (with_reducible first | exact HB.out | apply below_alloc | apply pw_below_drewN | apply below_drew1) | exact HB.out)⟩⟩
                · rw [if_neg c8] at H
                  exact absurd H (by simp)
              · rw [if_neg c7] at H
                exact absurd H (by simp)
            · rw [if_neg c6] at H
              exact absurd H (by simp)
          · replace c5 := Bool.eq_false_iff.mpr c5
            subst c5
            have H1 : (if (x3_1.length : Int) = 0 then (some (⟨#[120]⟩ : ByteArray)) else (some (strOfNums x3_1))) = some r := by rw [if_neg (show ¬ (false = true) by decide)] at H; exact H
            clear H
            have H := H1
            clear H1
            by_cases c15 : (x3_1.length : Int) = 0
            · rw [if_pos c15] at H
              have c15b0 : ((x3_1.length : Int) == 0) = true := beq_iff_eq.mpr c15
              have c15b1 : ((x3_1.length : Int) != 0) = false := bne_eq_false_iff_eq.mpr c15
              clear c15
              obtain rfl := Option.some.inj H
              obtain ⟨Ao16, co16, eo16⟩ := Kd.R_slice HO_3.out
              subst eo16
              go_wp2
              go_ret
              exact ⟨by first | rfl | (simp [errW_none, errW_some] <;> rfl) | (simp [*, errW_none, errW_some] <;> rfl), by repeat (first | (with_reducible first | exact HB.out | apply below_alloc | apply pw_below_drewN | apply below_drew1) | exact HB.out)⟩
            · rw [if_neg c15] at H
              have c15b0 : ((x3_1.length : Int) == 0) = false := beq_eq_false_iff_ne.mpr c15
              have c15b1 : ((x3_1.length : Int) != 0) = true := bne_iff_ne.mpr c15
              have c15b2 : ¬ (x3_1 = []) := fun h_ => c15 (by rw [h_]; rfl)
              obtain rfl := Option.some.inj H
              obtain ⟨Ao17, co17, eo17⟩ := Kd.R_slice HO_3.out
              subst eo17
              have hcv18 := own_string (P := Tryd.prog) Tryd.underlying65 Tryd.underlying5 Tryd.underlying9 (Kd.own_of_R HO_3.out)
              go_wp2
              go_ret
              exact ⟨by first | rfl | (simp [errW_none, errW_some] <;> rfl) | (simp [*, errW_none, errW_some] <;> rfl), by repeat (first | (with_reducible first | exact HB.out | apply below_alloc | apply pw_below_drewN | apply below_drew1) | exact HB.out)⟩

/-! ### spec_CellName: function 11 -/
def spec_CellName.j0 : Nat → Int → Bool → ByteArray → Bool → Option (ByteArray × Bool)
  | 0, _, _, _, _ => none
  | k + 1, x1, x2, x8, x24 => if x24 = true then (some ((⟨#[]⟩ : ByteArray), false)) else (if x2 = true then (none) else ((Go.Proofs.YtfbenlenihlpbaaDoor.PDigits.spec_Digits.f k x1 10).bind fun t113 => (if x8.size + t113.size ≤ 9223372036854775807 then (some (x8 ++ t113, true)) else (none))))
def spec_CellName.f (k : Nat) (a0 : Int) (a1 : Int) (a2 : Bool) : Option (ByteArray × Bool) := (Go.Proofs.YtfbenlenihlpbaaDoor.PColumnName.spec_ColumnName.f k a0).bind fun bt111 => (if bt111.2 = true then (if a1 < 1 then (spec_CellName.j0 k a1 a2 bt111.1 true) else (spec_CellName.j0 k a1 a2 bt111.1 (decide (a1 > 1048576)))) else (spec_CellName.j0 k a1 a2 bt111.1 true))
theorem spec_CellName.mono_l : ∀ k, (∀ y0 y1 y2 y3, LeO (spec_CellName.j0 k y0 y1 y2 y3) (spec_CellName.j0 (k + 1) y0 y1 y2 y3))
  | 0 => fun _ _ _ _ r h => by simp [spec_CellName.j0] at h
  | k + 1 => by
    have ih0 := spec_CellName.mono_l k
    · intro y0 y1 y2 y3
      unfold spec_CellName.j0
      repeat' first
      | (with_reducible exact ih0 _ _ _ _)
      | (with_reducible exact Go.Proofs.YtfbenlenihlpbaaDoor.PColumnName.spec_ColumnName.mono _ _)
      | (with_reducible exact Go.Proofs.YtfbenlenihlpbaaDoor.PDigits.spec_Digits.mono _ _ _)
      | (with_reducible exact LeO.refl _)
      | (with_reducible exact LeO.none _)
      | (with_reducible refine LeO.ite ?_ ?_)
      | (with_reducible refine LeO.bind ?_ (fun _ => ?_))
      | exact ih0 _ _ _ _
      | exact Go.Proofs.YtfbenlenihlpbaaDoor.PColumnName.spec_ColumnName.mono _ _
      | exact Go.Proofs.YtfbenlenihlpbaaDoor.PDigits.spec_Digits.mono _ _ _
      | exact LeO.none _
      | refine LeO.ite ?_ ?_
      | refine LeO.bind ?_ (fun _ => ?_)
theorem spec_CellName.mono : ∀ a0 a1 a2 k, LeO (spec_CellName.f k a0 a1 a2) (spec_CellName.f (k + 1) a0 a1 a2) := by
  intro a0 a1 a2 k
  have ih0 := spec_CellName.mono_l k
  unfold spec_CellName.f
  repeat' first
      | (with_reducible exact ih0 _ _ _ _)
      | (with_reducible exact Go.Proofs.YtfbenlenihlpbaaDoor.PColumnName.spec_ColumnName.mono _ _)
      | (with_reducible exact Go.Proofs.YtfbenlenihlpbaaDoor.PDigits.spec_Digits.mono _ _ _)
      | (with_reducible exact LeO.refl _)
      | (with_reducible exact LeO.none _)
      | (with_reducible refine LeO.ite ?_ ?_)
      | (with_reducible refine LeO.bind ?_ (fun _ => ?_))
      | exact ih0 _ _ _ _
      | exact Go.Proofs.YtfbenlenihlpbaaDoor.PColumnName.spec_ColumnName.mono _ _
      | exact Go.Proofs.YtfbenlenihlpbaaDoor.PDigits.spec_Digits.mono _ _ _
      | exact LeO.none _
      | refine LeO.ite ?_ ?_
      | refine LeO.bind ?_ (fun _ => ?_)
set_option maxHeartbeats 8000000 in
set_option maxRecDepth 100000 in
theorem spec_CellName.calls (k : Nat) (a0 : Int) (a1 : Int) (a2 : Bool) (r1 : ByteArray) (r2 : Bool) (w : World) (h : spec_CellName.f k a0 a1 a2 = some (r1, r2)) :
    Calls Tryd.prog 11 #[.int .i64 a0, .int .i64 a1, .bool a2] w fun e w' => e = .returned (.tuple #[.string r1, .bool r2]) ∧ Below w.heap.size w w' := by
  have HB := Aside0.mk (Below.refl w.heap.size w)
  have H : ((Go.Proofs.YtfbenlenihlpbaaDoor.PColumnName.spec_ColumnName.f k a0).bind fun bt111 => (if bt111.2 = true then (if a1 < 1 then (spec_CellName.j0 k a1 a2 bt111.1 true) else (spec_CellName.j0 k a1 a2 bt111.1 (decide (a1 > 1048576)))) else (spec_CellName.j0 k a1 a2 bt111.1 true))) = some (r1, r2) := h
  clear h
  replace H := Option.bind_eq_some_iff.mp H
  obtain ⟨⟨t111, t112⟩, A40, H⟩ := H
  replace H : (if t112 = true then (if a1 < 1 then (spec_CellName.j0 k a1 a2 t111 true) else (spec_CellName.j0 k a1 a2 t111 (decide (a1 > 1048576)))) else (spec_CellName.j0 k a1 a2 t111 true)) = some (r1, r2) := H
  have A4 := Aside0.mk A40
  clear A40
  have HC5 := Aside0.mk H
  clear H
  go_enter Tryd.func11, Tryd.ntmps11
  go_upto_region 2 with (first | ((with_reducible refine gate_callee (f := 20) rfl ?_); refine goesL_ (some 12) rfl rfl Tryd.func20 (by kernel_rfl) rfl #[.int .i64 a0] rfl (by (try simp only [List.map_toArray, List.map_cons, List.map_nil]); first | done | rfl | (simp only [List.length_drop, List.length_take]; rfl)) ?_; (with_reducible refine (Go.Proofs.YtfbenlenihlpbaaDoor.PColumnName.spec_ColumnName.calls k a0 t111 t112 _ A4.out).mono ?_); rintro e w6 ⟨rfl, hb⟩; refine ⟨_, rfl, ?_⟩; have n0_ := Aside0.mk (below_step (by repeat (first | (with_reducible first | exact HB.out | apply below_alloc | apply pw_below_drewN | apply below_drew1) | exact HB.out)) hb); clear HB; have HB := n0_; clear n0_; (try clear hb); (try clear hb2); (try clear hk); (try clear hi)))
  (try simp only [Act.put, List.setIfInBounds_toArray, List.set_cons_zero, List.set_cons_succ])
  go_cut [24] (fun v24 wc => ∃ (kq : Nat) (x24_4 : Bool), v24 = .bool x24_4 ∧ Aside0 (spec_CellName.j0 kq a1 a2 t111 x24_4 = some (r1, r2)) ∧ Aside0 (kq ≤ k) ∧ Aside0 (Below w.heap.size w wc))
  case first =>
    have H := HC5.out
    clear HC5
    by_cases c7 : t112 = true
    · subst c7
      have H1 : (if a1 < 1 then (spec_CellName.j0 k a1 a2 t111 true) else (spec_CellName.j0 k a1 a2 t111 (decide (a1 > 1048576)))) = some (r1, r2) := by rw [if_pos rfl] at H; exact H
      clear H
      have H := H1
      clear H1
      by_cases c8 : a1 < 1
      · rw [if_pos c8] at H
        have c8b0 : decide (a1 < 1) = true := decide_eq_true c8
        clear c8
        (first | rw [c8b0] | (simp only [i64_w, i32_w]; rw [c8b0]) | skip)
        have H' := Aside0.mk H
        clear H
        go_wp2
        go_meet
        case rel => exact ⟨_, (true), (by first | rfl | (simp; done) | (simp [*]; done) | (simp [wrap64]; done) | (generalize ByteArray.toList _ = l_; cases l_ <;> first | rfl | (simp; done))), H', ⟨by first | omega | exact Nat.le_refl _⟩, ⟨by repeat (first | (with_reducible first | exact HB.out | apply below_alloc | apply pw_below_drewN | apply below_drew1) | exact HB.out)⟩⟩
      · rw [if_neg c8] at H
        have c8b0 : decide (a1 < 1) = false := decide_eq_false c8
        clear c8
        (first | rw [c8b0] | (simp only [i64_w, i32_w]; rw [c8b0]) | skip)
        have H' := Aside0.mk H
        clear H
        go_wp2
        go_meet
        case rel => exact ⟨_, (decide (a1 > 1048576)), (by first | rfl | (simp; done) | (simp [*]; done) | (simp [wrap64]; done) | (generalize ByteArray.toList _ = l_; cases l_ <;> first | rfl | (simp; done))), H', ⟨by first | omega | exact Nat.le_refl _⟩, ⟨by repeat (first | (with_reducible first | exact HB.out | apply below_alloc | apply pw_below_drewN | apply below_drew1) | exact HB.out)⟩⟩
    · replace c7 := Bool.eq_false_iff.mpr c7
      subst c7
      have H1 : (spec_CellName.j0 k a1 a2 t111 true) = some (r1, r2) := by rw [if_neg (show ¬ (false = true) by decide)] at H; exact H
      clear H
      have H := H1
      clear H1
      have H' := Aside0.mk H
      clear H
      go_wp2
      go_meet
      case rel => exact ⟨_, (true), (by first | rfl | (simp; done) | (simp [*]; done) | (simp [wrap64]; done) | (generalize ByteArray.toList _ = l_; cases l_ <;> first | rfl | (simp; done))), H', ⟨by first | omega | exact Nat.le_refl _⟩, ⟨by repeat (first | (with_reducible first | exact HB.out | apply below_alloc | apply pw_below_drewN | apply below_drew1) | exact HB.out)⟩⟩
  case rest =>
    clear HC5
    try clear c1
    try clear c2
    try clear p2
    try clear c7
    try clear c8
    try clear c8b0
    obtain ⟨kq, x24_4, rfl, HA, HJ4, HB⟩ := hcut
    cases kq with
    | zero => exact absurd HA.out (by simp [spec_CellName.j0])
    | succ kj4 =>
      have H := HA.out
      clear HA
      simp only [spec_CellName.j0] at H
      by_cases c9 : x24_4 = true
      · subst c9
        have H1 : (some ((⟨#[]⟩ : ByteArray), false)) = some (r1, r2) := by rw [if_pos rfl] at H; exact H
        clear H
        have H := H1
        clear H1
        simp only [Option.some.injEq, Prod.mk.injEq] at H
        obtain ⟨rfl, rfl⟩ := H
        go_wp2
        go_ret2
        exact ⟨by first | rfl | (simp [errW_none, errW_some] <;> rfl) | (simp [*, errW_none, errW_some] <;> rfl), by repeat (first | (with_reducible first | exact HB.out | apply below_alloc | apply pw_below_drewN | apply below_drew1) | exact HB.out)⟩
      · replace c9 := Bool.eq_false_iff.mpr c9
        subst c9
        have H1 : (if a2 = true then (none) else ((Go.Proofs.YtfbenlenihlpbaaDoor.PDigits.spec_Digits.f kj4 a1 10).bind fun t113 => (if t111.size + t113.size ≤ 9223372036854775807 then (some (t111 ++ t113, true)) else (none)))) = some (r1, r2) := by rw [if_neg (show ¬ (false = true) by decide)] at H; exact H
        clear H
        have H := H1
        clear H1
        by_cases c10 : a2 = true
        · subst c10
          have H1 : (none) = some (r1, r2) := by rw [if_pos rfl] at H; exact H
          clear H
          have H := H1
          clear H1
          exact absurd H (by simp)
        · replace c10 := Bool.eq_false_iff.mpr c10
          subst c10
          have H1 : ((Go.Proofs.YtfbenlenihlpbaaDoor.PDigits.spec_Digits.f kj4 a1 10).bind fun t113 => (if t111.size + t113.size ≤ 9223372036854775807 then (some (t111 ++ t113, true)) else (none))) = some (r1, r2) := by rw [if_neg (show ¬ (false = true) by decide)] at H; exact H
          clear H
          have H := H1
          clear H1
          replace H := Option.bind_eq_some_iff.mp H
          obtain ⟨t113, A110, H⟩ := H
          replace H : (if t111.size + t113.size ≤ 9223372036854775807 then (some (t111 ++ t113, true)) else (none)) = some (r1, r2) := H
          have A11 := Aside0.mk A110
          clear A110
          by_cases c12 : t111.size + t113.size ≤ 9223372036854775807
          · rw [if_pos c12] at H
            have c12b0 := eq_true c12
            have c12b1 : decide (t111.size + t113.size ≤ 9223372036854775807) = true := decide_eq_true c12
            try have c12b2 : (9223372036854775807 < t111.size + t113.size) = False := eq_false (Nat.not_lt.2 c12)
            have c12z := c12
            (try simp only [ByteArray.size_append, show ∀ x_ : UInt8, (⟨#[x_]⟩ : ByteArray).size = 1 from fun _ => rfl] at c12z)
            simp only [Option.some.injEq, Prod.mk.injEq] at H
            obtain ⟨rfl, rfl⟩ := H
            go_wp2_with (first | ((with_reducible refine gate_callee (f := 36) rfl ?_); refine goesL_ (some 34) rfl rfl Tryd.func36 (by kernel_rfl) rfl #[.int .i64 a1, .int .i64 10] rfl (by (try simp only [List.map_toArray, List.map_cons, List.map_nil]); first | done | rfl | (simp only [List.length_drop, List.length_take]; rfl)) ?_; (with_reducible refine (Go.Proofs.YtfbenlenihlpbaaDoor.PDigits.spec_Digits.calls kj4 a1 10 t113 _ A11.out).mono ?_); rintro e w' ⟨rfl, ⟨nd, rfl⟩⟩; refine ⟨_, rfl, ?_⟩))
            go_ret2
            exact ⟨by first | rfl | (simp [errW_none, errW_some] <;> rfl) | (simp [*, errW_none, errW_some] <;> rfl), by repeat (first | (with_reducible first | exact HB.out | apply below_alloc | apply pw_below_drewN | apply below_drew1) | exact HB.out)⟩
          · rw [if_neg c12] at H
            exact absurd H (by simp)

end Go.Proofs.YtfbenlenihlpbaaDoor.PRn
