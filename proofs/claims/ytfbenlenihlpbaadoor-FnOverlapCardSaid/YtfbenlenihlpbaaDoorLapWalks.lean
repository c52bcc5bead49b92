/- Walks: whether two areas overlap, as the package answers it. -/
import Derived.Test.YtfbenlenihlpbaaDoorAreaWalks
import Derived.Test.YtfbenlenihlpbaaDoorPcellInRangex1
import Derived.Test.YtfbenlenihlpbaaDoorFinish
import Derived.Test.YtfbenlenihlpbaaDoorLapOrder
import Derived.Test.YtfbenlenihlpbaaDoorCellC
namespace Go.Proofs.YtfbenlenihlpbaaDoor.LapWalks
open Go.RowKit Go.Proofs.YtfbenlenihlpbaaDoorW.PrintWords Go.Proofs.YtfbenlenihlpbaaDoorW.PrintLast Go.Proofs.YtfbenlenihlpbaaDoorW.PrintMore
open Go.Proofs.YtfbenlenihlpbaaDoor.Str Go.Proofs.YtfbenlenihlpbaaDoor.Tac Go.Proofs.YtfbenlenihlpbaaDoor.AreaWalks Go.Proofs.YtfbenlenihlpbaaDoor.PcellInRange Go.Proofs.YtfbenlenihlpbaaDoor.Finish

def lap (a b : Ar) : Bool := within a.c a.r b || (within a.d a.r b || (within a.c a.s b || (within a.d a.s b || (within b.c b.r a || (within b.d b.r a || (within b.c b.s a || within b.d b.s a))))))
theorem cell_in (c r : Int) (b : Ar) : excelize_cellInRange.f [c, r] [b.c, b.r, b.d, b.s] = some (within c r b) := by
  have e : ∀ x y z t u v : Int, rd [x, y] 0 = x ∧ rd [x, y] 1 = y ∧ rd [x, y, z, t] 0 = x ∧ rd [x, y, z, t] 1 = y ∧ rd [x, y, z, t] 2 = z ∧ rd [x, y, z, t] 3 = t := fun _ _ _ _ _ _ => ⟨rfl, rfl, rfl, rfl, rfl, rfl⟩
  unfold excelize_cellInRange.f within
  simp only [List.length_cons, List.length_nil]
  rw [if_pos (by decide), if_pos (by decide), show rd [c, r] 0 = c from rfl, show rd [c, r] 1 = r from rfl, show rd [b.c, b.r, b.d, b.s] 0 = b.c from rfl, show rd [b.c, b.r, b.d, b.s] 1 = b.r from rfl, show rd [b.c, b.r, b.d, b.s] 2 = b.d from rfl, show rd [b.c, b.r, b.d, b.s] 3 = b.s from rfl]
  by_cases h1 : b.c ≤ c
  · rw [if_pos h1, if_pos (by decide)]
    by_cases h2 : c ≤ b.d
    · rw [if_pos h2, if_pos (by decide), if_pos (by decide)]
      by_cases h3 : b.r ≤ r
      · rw [if_pos h3, if_pos (by decide), decide_eq_true h1, decide_eq_true h2, decide_eq_true h3]; rfl
      · rw [if_neg h3, decide_eq_false h3, Bool.false_and, Bool.and_false, Bool.and_false]
    · rw [if_neg h2, decide_eq_false h2, Bool.false_and, Bool.and_false]
  · rw [if_neg h1, decide_eq_false h1, Bool.false_and]
theorem C2 {W : World} {g : Nat} {T : TypeId} {a b : Int} (h : W.heap[g]? = some (.cells #[.int .i64 a, .int .i64 b] T (0, 0))) : Kd.C (Kd.int .i64) W (some ⟨g, 0, none⟩) 2 [a, b] :=
  Kd.C_of_reads (d := (0 : Int)) ⟨rfl, by decide, fun _ => ⟨_, rfl, fun j hj => by
    have e := blk_cell h j
    match j, hj, e with
    | 0, _, e => exact e
    | 1, _, e => exact e⟩⟩
/-- The package's test of a cell in a range, at a new slice of two numbers and an area's block. -/
theorem inRange (c r : Int) (b : Ar) (g g2 : Nat) (T T2 : TypeId) (w : World) (h : w.heap[g]? = some (.cells #[.int .i64 c, .int .i64 r] T (0, 0))) (h2 : w.heap[g2]? = some (.cells #[.int .i64 b.c, .int .i64 b.r, .int .i64 b.d, .int .i64 b.s] T2 (0, 0))) :
    Calls Tryd.prog 69 #[.slice (some ⟨g, 0, none⟩) 2 2, .slice (some ⟨g2, 0, none⟩) 4 4] w fun e w' => e = .returned (.bool (within c r b)) ∧ Below w.heap.size w w' :=
  (excelize_cellInRange.calls _ 2 [c, r] _ 4 [b.c, b.r, b.d, b.s] _ w (C2 h) (Nat.le_refl _) (C4 h2) (Nat.le_refl _) (cell_in c r b)).mono (fun _ _ ⟨he, hd⟩ => ⟨he, hd.below⟩)

theorem inRangeN {c r b0 b1 b2 b3 : Int} {g g2 : Nat} {T T2 : TypeId} {w : World} (h : w.heap[g]? = some (.cells #[.int .i64 c, .int .i64 r] T (0, 0))) (h2 : w.heap[g2]? = some (.cells #[.int .i64 b0, .int .i64 b1, .int .i64 b2, .int .i64 b3] T2 (0, 0))) :
    Calls Tryd.prog 69 #[.slice (some ⟨g, 0, none⟩) 2 2, .slice (some ⟨g2, 0, none⟩) 4 4] w fun e w' => e = .returned (.bool (within c r ⟨b0, b1, b2, b3⟩)) ∧ Below w.heap.size w w' :=
  inRange c r ⟨b0, b1, b2, b3⟩ g g2 T T2 w h h2

theorem cells_of {w W : World} {a b : Ar} {g1 g2 : Nat} {T1 T2 : TypeId} (h1 : w.heap[g1]? = some (.cells #[.int .i64 a.c, .int .i64 a.r, .int .i64 a.d, .int .i64 a.s] T1 (0, 0))) (h2 : w.heap[g2]? = some (.cells #[.int .i64 b.c, .int .i64 b.r, .int .i64 b.d, .int .i64 b.s] T2 (0, 0))) (hb : Below w.heap.size w W) :
    W.cell? ⟨g1, 0, none⟩ = some (.int .i64 a.c) ∧ W.cell? ⟨g1, 1, none⟩ = some (.int .i64 a.r) ∧ W.cell? ⟨g1, 2, none⟩ = some (.int .i64 a.d) ∧ W.cell? ⟨g1, 3, none⟩ = some (.int .i64 a.s) ∧ W.cell? ⟨g2, 0, none⟩ = some (.int .i64 b.c) ∧ W.cell? ⟨g2, 1, none⟩ = some (.int .i64 b.r) ∧ W.cell? ⟨g2, 2, none⟩ = some (.int .i64 b.d) ∧ W.cell? ⟨g2, 3, none⟩ = some (.int .i64 b.s) :=
  ⟨blk_cell (blk_below h1 hb) 0, blk_cell (blk_below h1 hb) 1, blk_cell (blk_below h1 hb) 2, blk_cell (blk_below h1 hb) 3, blk_cell (blk_below h2 hb) 0, blk_cell (blk_below h2 hb) 1, blk_cell (blk_below h2 hb) 2, blk_cell (blk_below h2 hb) 3⟩

set_option maxHeartbeats 4000000 in
set_option maxRecDepth 100000 in
theorem isOverlap (a b : Ar) (g1 g2 : Nat) (T1 T2 : TypeId) (w : World) (h1 : w.heap[g1]? = some (.cells #[.int .i64 a.c, .int .i64 a.r, .int .i64 a.d, .int .i64 a.s] T1 (0, 0))) (h2 : w.heap[g2]? = some (.cells #[.int .i64 b.c, .int .i64 b.r, .int .i64 b.d, .int .i64 b.s] T2 (0, 0))) :
    Calls Tryd.prog 52 #[.slice (some ⟨g1, 0, none⟩) 4 4, .slice (some ⟨g2, 0, none⟩) 4 4] w fun e w' => e = .returned (.bool (lap a b)) ∧ Below w.heap.size w w' := by
  have H1 := Aside0.mk h1
  have H2 := Aside0.mk h2
  have x0 : w.cell? ⟨g1, 0, none⟩ = some (.int .i64 a.c) := blk_cell h1 0
  have x1 : w.cell? ⟨g1, 1, none⟩ = some (.int .i64 a.r) := blk_cell h1 1
  have x2 : w.cell? ⟨g1, 2, none⟩ = some (.int .i64 a.d) := blk_cell h1 2
  have x3 : w.cell? ⟨g1, 3, none⟩ = some (.int .i64 a.s) := blk_cell h1 3
  have y0 : w.cell? ⟨g2, 0, none⟩ = some (.int .i64 b.c) := blk_cell h2 0
  have y1 : w.cell? ⟨g2, 1, none⟩ = some (.int .i64 b.r) := blk_cell h2 1
  have y2 : w.cell? ⟨g2, 2, none⟩ = some (.int .i64 b.d) := blk_cell h2 2
  have y3 : w.cell? ⟨g2, 3, none⟩ = some (.int .i64 b.s) := blk_cell h2 3
  clear h1 h2
  have HB := Aside0.mk (Below.refl w.heap.size w)
  obtain ⟨v1, hv1⟩ : ∃ v, within a.c a.r b = v := ⟨_, rfl⟩
  obtain ⟨v2, hv2⟩ : ∃ v, within a.d a.r b = v := ⟨_, rfl⟩
  obtain ⟨v3, hv3⟩ : ∃ v, within a.c a.s b = v := ⟨_, rfl⟩
  obtain ⟨v4, hv4⟩ : ∃ v, within a.d a.s b = v := ⟨_, rfl⟩
  obtain ⟨v5, hv5⟩ : ∃ v, within b.c b.r a = v := ⟨_, rfl⟩
  obtain ⟨v6, hv6⟩ : ∃ v, within b.d b.r a = v := ⟨_, rfl⟩
  obtain ⟨v7, hv7⟩ : ∃ v, within b.c b.s a = v := ⟨_, rfl⟩
  obtain ⟨v8, hv8⟩ : ∃ v, within b.d b.s a = v := ⟨_, rfl⟩
  go_enter Tryd.func52, Tryd.ntmps52
  go_upto_region 1 with fail
  simp only [List.append_eq, List.cons_append, List.nil_append]
  rename_i QQ KK hKK
  go_region_held3 (fun W => W.cell? ⟨g1, 0, none⟩ = some (.int .i64 a.c) ∧ W.cell? ⟨g1, 1, none⟩ = some (.int .i64 a.r) ∧ W.cell? ⟨g1, 2, none⟩ = some (.int .i64 a.d) ∧ W.cell? ⟨g1, 3, none⟩ = some (.int .i64 a.s) ∧ W.cell? ⟨g2, 0, none⟩ = some (.int .i64 b.c) ∧ W.cell? ⟨g2, 1, none⟩ = some (.int .i64 b.r) ∧ W.cell? ⟨g2, 2, none⟩ = some (.int .i64 b.d) ∧ W.cell? ⟨g2, 3, none⟩ = some (.int .i64 b.s)) (first | exact ⟨x0, x1, x2, x3, y0, y1, y2, y3⟩ | exact cells_of H1.out H2.out (by repeat (first | (with_reducible first | exact HB.out | apply below_alloc | apply pw_below_drewN | apply below_drew1) | exact HB.out))) ((go_at_call 69; refine Calls.mono (inRangeN (by exact blk_new _ _) (by first | exact blk_below H1.out (by repeat (first | (with_reducible first | exact HB.out | apply below_alloc | apply pw_below_drewN | apply below_drew1) | exact HB.out)) | exact blk_below H2.out (by repeat (first | (with_reducible first | exact HB.out | apply below_alloc | apply pw_below_drewN | apply below_drew1) | exact HB.out)))) ?_; rintro e wk ⟨rfl, hb⟩; (have n0_ := Aside0.mk (below_step (by repeat (first | (with_reducible first | exact HB.out | apply below_alloc | apply pw_below_drewN | apply below_drew1) | exact HB.out)) hb); clear HB; have HB := n0_; clear n0_ hb); first
    | (rw [show within a.c a.r ⟨b.c, b.r, b.d, b.s⟩ = _ from hv1]; cases v1; case true => (dsimp only; rename_i KS hsh; refine hsh.out _ _ (cells_of H1.out H2.out (by repeat (first | (with_reducible first | exact HB.out | apply below_alloc | apply pw_below_drewN | apply below_drew1) | exact HB.out))) (fun hHeld => ?_); exact finish_true 4 [9, 10, 11, 12, 13, 14, 15, 16, 17, 18, 19, 20, 21, 22, 23, 24, 25, 26, 27, 28, 29, 30, 31, 32, 33, 34, 35, 36, 37, 38, 39, 40, 41, 42, 43, 44, 45, 46, 47, 48, 49, 50, 51, 52, 53, 54, 55, 56, 57, 58, 59, 60, 61, 62, 63, 64, 65, 66, 67, 68, 69, 70, 71, 72, 73, 74, 75, 76, 77, 78, 79, 80, 81, 82, 83, 84, 85, 86] 0 (by kernel_rfl) LapOrder.order1 (by kernel_rfl) (fun _ _ _ _ _ h => h) hHeld (fun a4 h4 hd => hKK a4 _ (wp_ret (bodyPost_ret (results_tmp rfl _ _ _) hd ⟨congrArg Ending.returned (h4.trans (congrArg Value.bool (show true = lap a b by simp only [lap, hv1]; first | done | rfl))), by repeat (first | (with_reducible first | exact HB.out | apply below_alloc | apply pw_below_drewN | apply below_drew1) | exact HB.out)⟩)))))
    | (rw [show within a.d a.r ⟨b.c, b.r, b.d, b.s⟩ = _ from hv2]; cases v2; case true => (dsimp only; rename_i KS hsh; refine hsh.out _ _ (cells_of H1.out H2.out (by repeat (first | (with_reducible first | exact HB.out | apply below_alloc | apply pw_below_drewN | apply below_drew1) | exact HB.out))) (fun hHeld => ?_); exact finish_true 4 [19, 20, 21, 22, 23, 24, 25, 26, 27, 28, 29, 30, 31, 32, 33, 34, 35, 36, 37, 38, 39, 40, 41, 42, 43, 44, 45, 46, 47, 48, 49, 50, 51, 52, 53, 54, 55, 56, 57, 58, 59, 60, 61, 62, 63, 64, 65, 66, 67, 68, 69, 70, 71, 72, 73, 74, 75, 76, 77, 78, 79, 80, 81, 82, 83, 84, 85, 86] 0 (by kernel_rfl) LapOrder.order2 (by kernel_rfl) (fun _ _ _ _ _ h => h) hHeld (fun a4 h4 hd => hKK a4 _ (wp_ret (bodyPost_ret (results_tmp rfl _ _ _) hd ⟨congrArg Ending.returned (h4.trans (congrArg Value.bool (show true = lap a b by simp only [lap, hv1, hv2]; first | done | rfl))), by repeat (first | (with_reducible first | exact HB.out | apply below_alloc | apply pw_below_drewN | apply below_drew1) | exact HB.out)⟩)))))
    | (rw [show within a.c a.s ⟨b.c, b.r, b.d, b.s⟩ = _ from hv3]; cases v3; case true => (dsimp only; rename_i KS hsh; refine hsh.out _ _ (cells_of H1.out H2.out (by repeat (first | (with_reducible first | exact HB.out | apply below_alloc | apply pw_below_drewN | apply below_drew1) | exact HB.out))) (fun hHeld => ?_); exact finish_true 4 [30, 31, 32, 33, 34, 35, 36, 37, 38, 39, 40, 41, 42, 43, 44, 45, 46, 47, 48, 49, 50, 51, 52, 53, 54, 55, 56, 57, 58, 59, 60, 61, 62, 63, 64, 65, 66, 67, 68, 69, 70, 71, 72, 73, 74, 75, 76, 77, 78, 79, 80, 81, 82, 83, 84, 85, 86] 0 (by kernel_rfl) LapOrder.order3 (by kernel_rfl) (fun _ _ _ _ _ h => h) hHeld (fun a4 h4 hd => hKK a4 _ (wp_ret (bodyPost_ret (results_tmp rfl _ _ _) hd ⟨congrArg Ending.returned (h4.trans (congrArg Value.bool (show true = lap a b by simp only [lap, hv1, hv2, hv3]; first | done | rfl))), by repeat (first | (with_reducible first | exact HB.out | apply below_alloc | apply pw_below_drewN | apply below_drew1) | exact HB.out)⟩)))))
    | (rw [show within a.d a.s ⟨b.c, b.r, b.d, b.s⟩ = _ from hv4]; cases v4; case true => (dsimp only; rename_i KS hsh; refine hsh.out _ _ (cells_of H1.out H2.out (by repeat (first | (with_reducible first | exact HB.out | apply below_alloc | apply pw_below_drewN | apply below_drew1) | exact HB.out))) (fun hHeld => ?_); exact finish_true 4 [41, 42, 43, 44, 45, 46, 47, 48, 49, 50, 51, 52, 53, 54, 55, 56, 57, 58, 59, 60, 61, 62, 63, 64, 65, 66, 67, 68, 69, 70, 71, 72, 73, 74, 75, 76, 77, 78, 79, 80, 81, 82, 83, 84, 85, 86] 0 (by kernel_rfl) LapOrder.order4 (by kernel_rfl) (fun _ _ _ _ _ h => h) hHeld (fun a4 h4 hd => hKK a4 _ (wp_ret (bodyPost_ret (results_tmp rfl _ _ _) hd ⟨congrArg Ending.returned (h4.trans (congrArg Value.bool (show true = lap a b by simp only [lap, hv1, hv2, hv3, hv4]; first | done | rfl))), by repeat (first | (with_reducible first | exact HB.out | apply below_alloc | apply pw_below_drewN | apply below_drew1) | exact HB.out)⟩)))))
    | (rw [show within b.c b.r ⟨a.c, a.r, a.d, a.s⟩ = _ from hv5]; cases v5; case true => (dsimp only; rename_i KS hsh; refine hsh.out _ _ (cells_of H1.out H2.out (by repeat (first | (with_reducible first | exact HB.out | apply below_alloc | apply pw_below_drewN | apply below_drew1) | exact HB.out))) (fun hHeld => ?_); exact finish_true 4 [52, 53, 54, 55, 56, 57, 58, 59, 60, 61, 62, 63, 64, 65, 66, 67, 68, 69, 70, 71, 72, 73, 74, 75, 76, 77, 78, 79, 80, 81, 82, 83, 84, 85, 86] 0 (by kernel_rfl) LapOrder.order5 (by kernel_rfl) (fun _ _ _ _ _ h => h) hHeld (fun a4 h4 hd => hKK a4 _ (wp_ret (bodyPost_ret (results_tmp rfl _ _ _) hd ⟨congrArg Ending.returned (h4.trans (congrArg Value.bool (show true = lap a b by simp only [lap, hv1, hv2, hv3, hv4, hv5]; first | done | rfl))), by repeat (first | (with_reducible first | exact HB.out | apply below_alloc | apply pw_below_drewN | apply below_drew1) | exact HB.out)⟩)))))
    | (rw [show within b.d b.r ⟨a.c, a.r, a.d, a.s⟩ = _ from hv6]; cases v6; case true => (dsimp only; rename_i KS hsh; refine hsh.out _ _ (cells_of H1.out H2.out (by repeat (first | (with_reducible first | exact HB.out | apply below_alloc | apply pw_below_drewN | apply below_drew1) | exact HB.out))) (fun hHeld => ?_); exact finish_true 4 [63, 64, 65, 66, 67, 68, 69, 70, 71, 72, 73, 74, 75, 76, 77, 78, 79, 80, 81, 82, 83, 84, 85, 86] 0 (by kernel_rfl) LapOrder.order6 (by kernel_rfl) (fun _ _ _ _ _ h => h) hHeld (fun a4 h4 hd => hKK a4 _ (wp_ret (bodyPost_ret (results_tmp rfl _ _ _) hd ⟨congrArg Ending.returned (h4.trans (congrArg Value.bool (show true = lap a b by simp only [lap, hv1, hv2, hv3, hv4, hv5, hv6]; first | done | rfl))), by repeat (first | (with_reducible first | exact HB.out | apply below_alloc | apply pw_below_drewN | apply below_drew1) | exact HB.out)⟩)))))
    | (rw [show within b.c b.s ⟨a.c, a.r, a.d, a.s⟩ = _ from hv7]; cases v7; case true => (dsimp only; rename_i KS hsh; refine hsh.out _ _ (cells_of H1.out H2.out (by repeat (first | (with_reducible first | exact HB.out | apply below_alloc | apply pw_below_drewN | apply below_drew1) | exact HB.out))) (fun hHeld => ?_); exact finish_true 4 [74, 75, 76, 77, 78, 79, 80, 81, 82, 83, 84, 85, 86] 0 (by kernel_rfl) LapOrder.order7 (by kernel_rfl) (fun _ _ _ _ _ h => h) hHeld (fun a4 h4 hd => hKK a4 _ (wp_ret (bodyPost_ret (results_tmp rfl _ _ _) hd ⟨congrArg Ending.returned (h4.trans (congrArg Value.bool (show true = lap a b by simp only [lap, hv1, hv2, hv3, hv4, hv5, hv6, hv7]; first | done | rfl))), by repeat (first | (with_reducible first | exact HB.out | apply below_alloc | apply pw_below_drewN | apply below_drew1) | exact HB.out)⟩)))))
    | (rw [show within b.d b.s ⟨a.c, a.r, a.d, a.s⟩ = _ from hv8]; cases v8; case true => (dsimp only; rename_i KS hsh; refine hsh.out _ _ (cells_of H1.out H2.out (by repeat (first | (with_reducible first | exact HB.out | apply below_alloc | apply pw_below_drewN | apply below_drew1) | exact HB.out))) (fun hHeld => ?_); exact finish_true 4 [85, 86] 0 (by kernel_rfl) LapOrder.order8 (by kernel_rfl) (fun _ _ _ _ _ h => h) hHeld (fun a4 h4 hd => hKK a4 _ (wp_ret (bodyPost_ret (results_tmp rfl _ _ _) hd ⟨congrArg Ending.returned (h4.trans (congrArg Value.bool (show true = lap a b by simp only [lap, hv1, hv2, hv3, hv4, hv5, hv6, hv7, hv8]; first | done | rfl))), by repeat (first | (with_reducible first | exact HB.out | apply below_alloc | apply pw_below_drewN | apply below_drew1) | exact HB.out)⟩)))))))
  all_goals (go_wp2_with fail; go_ret; exact ⟨congrArg (fun b => Ending.returned (Value.bool b)) (by simp only [lap, hv1, hv2, hv3, hv4, hv5, hv6, hv7, hv8]; first | done | rfl), by repeat (first | (with_reducible first | exact HB.out | apply below_alloc | apply pw_below_drewN | apply below_drew1) | exact HB.out)⟩)
end Go.Proofs.YtfbenlenihlpbaaDoor.LapWalks
