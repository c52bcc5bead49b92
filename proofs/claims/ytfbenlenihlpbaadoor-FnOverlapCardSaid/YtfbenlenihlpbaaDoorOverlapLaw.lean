/- Walk of the law FnOverlap. -/
import Derived.Test.YtfbenlenihlpbaaDoorOverlapReg
namespace Go.Proofs.YtfbenlenihlpbaaDoor.OverlapWalks
open Go.RowKit Go.Proofs.YtfbenlenihlpbaaDoorW.PrintWords Go.Proofs.YtfbenlenihlpbaaDoorW.PrintLast Go.Proofs.YtfbenlenihlpbaaDoorW.PrintMore
open Go.Proofs.YtfbenlenihlpbaaDoor.Str Go.Proofs.YtfbenlenihlpbaaDoor.Tac Go.Proofs.YtfbenlenihlpbaaDoor.AreaWalks Go.Proofs.YtfbenlenihlpbaaDoor.LapWalks Go.Proofs.YtfbenlenihlpbaaDoor.CellC

set_option maxHeartbeats 4000000 in
set_option maxRecDepth 100000 in
theorem walk (a b x y : Ar) (w : World) (hx : ∀ w, Calls Tryd.prog 15 #[a.v] w fun e w' => e = .returned x.v ∧ Below w.heap.size w w') (hy : ∀ w, Calls Tryd.prog 15 #[b.v] w fun e w' => e = .returned y.v ∧ Below w.heap.size w w')
    (wx : x.c ≤ x.d ∧ x.r ≤ x.s) (wy : y.c ≤ y.d ∧ y.r ≤ y.s) :
    Calls Tryd.prog 4 #[a.v, b.v] w fun e w' => e = .returned (.bool true) ∧ Below w.heap.size w w' := by
  have X := Aside0.mk hx
  have Y := Aside0.mk hy
  clear hx hy
  go_enter Tryd.func4, Tryd.ntmps4
  go_upto_region 1 with fail
  rename_i Q_ K_ hK_
  generalize e : (w.alloc a.o).alloc b.o = w0
  obtain ⟨hb, h1, h2⟩ := box2 e
  clear e
  refine OverlapReg.region1 a b x y w.heap.size w0 h1 h2 X.out Y.out _ (fun gx gy v8 v9 v10 v11 w1 hgx hgy hb1 => ?_)
  refine hK_ _ _ ?_
  clear hK_ K_ h1 h2 X Y
  have B1 := Aside0.mk (below_step hb hb1)
  have HX := Aside0.mk hgx
  have HY := Aside0.mk hgy
  clear hb hb1 w0
  have HB := Aside0.mk (Below.refl w1.heap.size w1)
  have x0 : w1.cell? ⟨gx, 0, none⟩ = some (.int .i64 x.c) := blk_cell hgx 0
  have x1 : w1.cell? ⟨gx, 1, none⟩ = some (.int .i64 x.r) := blk_cell hgx 1
  have x2 : w1.cell? ⟨gx, 2, none⟩ = some (.int .i64 x.d) := blk_cell hgx 2
  have x3 : w1.cell? ⟨gx, 3, none⟩ = some (.int .i64 x.s) := blk_cell hgx 3
  have y0 : w1.cell? ⟨gy, 0, none⟩ = some (.int .i64 y.c) := blk_cell hgy 0
  have y1 : w1.cell? ⟨gy, 1, none⟩ = some (.int .i64 y.r) := blk_cell hgy 1
  have y2 : w1.cell? ⟨gy, 2, none⟩ = some (.int .i64 y.d) := blk_cell hgy 2
  have y3 : w1.cell? ⟨gy, 3, none⟩ = some (.int .i64 y.s) := blk_cell hgy 3
  clear hgx hgy
  cases hc : crosses x y
  case true =>
    go_wp2_with (first
      | (go_at_call 16; refine (gridCrosses x y _).mono ?_; rintro e w2 ⟨rfl, hb⟩; (have n0_ := Aside0.mk (below_step (by repeat (first | (with_reducible first | exact HB.out | apply below_alloc | apply pw_below_drewN | apply below_drew1) | exact HB.out)) hb); clear HB; have HB := n0_; clear n0_ hb); rw [hc])
      | (go_at_call 14; refine (refLives _).mono ?_; rintro e w7 ⟨rfl, hb⟩; (have n0_ := Aside0.mk (below_step (by repeat (first | (with_reducible first | exact HB.out | apply below_alloc | apply pw_below_drewN | apply below_drew1) | exact HB.out)) hb); clear HB; have HB := n0_; clear n0_ hb)))
    go_ret
    exact ⟨by rfl, below_step B1.out (by repeat (first | (with_reducible first | exact HB.out | apply below_alloc | apply pw_below_drewN | apply below_drew1) | exact HB.out))⟩
  case false =>
    have c1 : ∀ W, Below w1.heap.size w1 W → Calls Tryd.prog 18 #[.slice (some ⟨gx, 0, none⟩) 4 4, .slice (some ⟨gy, 0, none⟩) 4 4] W fun e w' => e = .returned (.bool (meets x y)) ∧ Below W.heap.size W w' := fun W hW => (implOverlap x y gx gy _ _ W (blk_below HX.out hW) (blk_below HY.out hW)).mono fun e w' h => ⟨h.1.trans (congrArg (fun b => Ending.returned (.bool b)) (lap_meets x y wx wy hc)), h.2⟩
    have c2 : ∀ W, Below w1.heap.size w1 W → Calls Tryd.prog 18 #[.slice (some ⟨gy, 0, none⟩) 4 4, .slice (some ⟨gx, 0, none⟩) 4 4] W fun e w' => e = .returned (.bool (meets x y)) ∧ Below W.heap.size W w' := fun W hW => (implOverlap y x gy gx _ _ W (blk_below HY.out hW) (blk_below HX.out hW)).mono fun e w' h => ⟨h.1.trans (congrArg (fun b => Ending.returned (.bool b)) ((lap_comm x y).trans (lap_meets x y wx wy hc))), h.2⟩
    have c3 : ∀ W, Below w1.heap.size w1 W → Calls Tryd.prog 18 #[.slice (some ⟨gx, 0, none⟩) 4 4, .slice (some ⟨gx, 0, none⟩) 4 4] W fun e w' => e = .returned (.bool true) ∧ Below W.heap.size W w' := fun W hW => (implOverlap x x gx gx _ _ W (blk_below HX.out hW) (blk_below HX.out hW)).mono fun e w' h => ⟨h.1.trans (congrArg (fun b => Ending.returned (.bool b)) (lap_self x wx)), h.2⟩
    cases hv : meets x y
    all_goals
      rw [hv] at c1 c2
      have C1 := Aside0.mk c1
      have C2 := Aside0.mk c2
      have C3 := Aside0.mk c3
      clear c1 c2 c3
      go_upto_region 5 with (first
        | (go_at_call 16; refine (gridCrosses x y _).mono ?_; rintro e w2 ⟨rfl, hb⟩; (have n0_ := Aside0.mk (below_step (by repeat (first | (with_reducible first | exact HB.out | apply below_alloc | apply pw_below_drewN | apply below_drew1) | exact HB.out)) hb); clear HB; have HB := n0_; clear n0_ hb); rw [hc]; clear x0 x1 x2 x3 y0 y1 y2 y3; obtain ⟨x0, x1, x2, x3, y0, y1, y2, y3⟩ := cells_of HX.out HY.out (by repeat (first | (with_reducible first | exact HB.out | apply below_alloc | apply pw_below_drewN | apply below_drew1) | exact HB.out)))
        | (go_at_call 17; refine (gridOverlap x y _).mono ?_; rintro e w3 ⟨rfl, hb⟩; (have n0_ := Aside0.mk (below_step (by repeat (first | (with_reducible first | exact HB.out | apply below_alloc | apply pw_below_drewN | apply below_drew1) | exact HB.out)) hb); clear HB; have HB := n0_; clear n0_ hb); rw [hv]; clear x0 x1 x2 x3 y0 y1 y2 y3; obtain ⟨x0, x1, x2, x3, y0, y1, y2, y3⟩ := cells_of HX.out HY.out (by repeat (first | (with_reducible first | exact HB.out | apply below_alloc | apply pw_below_drewN | apply below_drew1) | exact HB.out))))
      clear x0 x1 x2 x3 y0 y1 y2 y3
      go_region_held3 (fun _ => True) (trivial) ((first
        | (go_at_call 18; (first
          | (with_reducible refine Calls.mono (C1.out _ (by repeat (first | (with_reducible first | exact HB.out | apply below_alloc | apply pw_below_drewN | apply below_drew1) | exact HB.out))) ?_)
          | (with_reducible refine Calls.mono (C2.out _ (by repeat (first | (with_reducible first | exact HB.out | apply below_alloc | apply pw_below_drewN | apply below_drew1) | exact HB.out))) ?_)
          | (with_reducible refine Calls.mono (C3.out _ (by repeat (first | (with_reducible first | exact HB.out | apply below_alloc | apply pw_below_drewN | apply below_drew1) | exact HB.out))) ?_)); rintro e w4 ⟨rfl, hb⟩; (have n0_ := Aside0.mk (below_step (by repeat (first | (with_reducible first | exact HB.out | apply below_alloc | apply pw_below_drewN | apply below_drew1) | exact HB.out)) hb); clear HB; have HB := n0_; clear n0_ hb))
        | (go_at_call 14; refine (refLives _).mono ?_; rintro e w7 ⟨rfl, hb⟩; (have n0_ := Aside0.mk (below_step (by repeat (first | (with_reducible first | exact HB.out | apply below_alloc | apply pw_below_drewN | apply below_drew1) | exact HB.out)) hb); clear HB; have HB := n0_; clear n0_ hb))))
      all_goals (go_wp2_with fail; go_ret; exact ⟨by rfl, below_step B1.out (by repeat (first | (with_reducible first | exact HB.out | apply below_alloc | apply pw_below_drewN | apply below_drew1) | exact HB.out))⟩)
theorem w64s {x : Int} (h : -1 ≤ x) (h2 : x ≤ 4611686018427387904) : wrap64 x = x := by unfold wrap64; omega
theorem gridIn (a n : Int) (hn : 1 ≤ n ∧ n ≤ 1000) : ∃ x, PgridIn.spec_gridIn.f a n = some x ∧ 1 ≤ x ∧ x ≤ n := by
  have h1 : -n < Int.tmod a n := by have := Int.lt_tmod_of_pos a (show 0 < n by omega); omega
  have h2 : Int.tmod a n < n := Int.tmod_lt_of_pos a (by omega)
  unfold PgridIn.spec_gridIn.f
  rw [if_neg (by omega)]
  by_cases h : Int.tmod a n < 0
  · rw [if_pos h]
    refine ⟨_, rfl, ?_⟩
    rw [w64s (x := Int.tmod a n + n) (by omega) (by omega), w64s (by omega) (by omega)]
    omega
  · rw [if_neg h]
    refine ⟨_, rfl, ?_⟩
    rw [w64s (by omega) (by omega)]
    omega
theorem law (a b : Ar) (w : World) : Calls Tryd.prog 4 #[a.v, b.v] w fun e w' => e = .returned (.bool true) ∧ Below w.heap.size w w' := by
  obtain ⟨p, hp, p1⟩ := gridIn a.c 30 (by omega)
  obtain ⟨q, hq, q1⟩ := gridIn a.r 60 (by omega)
  obtain ⟨r, hr, r1⟩ := gridIn a.d 30 (by omega)
  obtain ⟨s, hs, s1⟩ := gridIn a.s 60 (by omega)
  obtain ⟨p', hp', p2⟩ := gridIn b.c 30 (by omega)
  obtain ⟨q', hq', q2⟩ := gridIn b.r 60 (by omega)
  obtain ⟨r', hr', r2⟩ := gridIn b.d 30 (by omega)
  obtain ⟨s', hs', s2⟩ := gridIn b.s 60 (by omega)
  exact walk a b (norm p q r s) (norm p' q' r' s') w (gridArea a p q r s hp hq hr hs p1 q1 r1 s1) (gridArea b p' q' r' s' hp' hq' hr' hs' p2 q2 r2 s2) (norm_ok p q r s) (norm_ok p' q' r' s')
end Go.Proofs.YtfbenlenihlpbaaDoor.OverlapWalks
