/- Contracts of functions that the text "Rn" uses: the call ends in what the plain Lean function says, where that says something. Written by a program of this session. No conditions. -/
import Derived.Test.YtfbenlenihlpbaaDoorPRnx0
import Derived.Test.YtfbenlenihlpbaaDoorPRnx1
import Derived.Test.YtfbenlenihlpbaaDoorPRnx2
namespace Go.Proofs.YtfbenlenihlpbaaDoor.PRn
open Go.RowKit Go.Proofs.YtfbenlenihlpbaaDoorW.PrintWords Go.Proofs.YtfbenlenihlpbaaDoorW.PrintLast Go.Proofs.YtfbenlenihlpbaaDoorW.PrintMore
attribute [local go_sem] max2_int min2_int max_two min_two max_three min_three max_four min_four   -- for this text's walks alone
set_option linter.unusedVariables false
set_option linter.unusedSimpArgs false

/-! ### laws_FnRename: function 9 -/
mutual
def laws_FnRename.j0 : Nat → ByteArray → ByteArray → ByteArray → Bool → Int → Int → Int → Int → Int → Int → Int → Int → Option (Bool)
  | 0, _, _, _, _, _, _, _, _, _, _, _, _ => none
  | k + 1, x0, x1, x2, x28, x145000, x145001, x145002, x145003, x146000, x146001, x146002, x146003 => if x28 = true then (some true) else ((laws_refLetters.f k x0).bind fun t146 => ((laws_refLetters.f k x1).bind fun t147 => ((laws_refLetters.f k x2).bind fun t148 => (if t146.toList = t148.toList then (laws_FnRename.j1 k t146 t147 t148 true x145000 x145001 x145002 x145003 x146000 x146001 x146002 x146003) else (if t147.toList = t148.toList then (laws_FnRename.j1 k t146 t147 t148 true x145000 x145001 x145002 x145003 x146000 x146001 x146002 x146003) else (laws_FnRename.j1 k t146 t147 t148 (t146.toList == t147.toList) x145000 x145001 x145002 x145003 x146000 x146001 x146002 x146003))))))
def laws_FnRename.j1 : Nat → ByteArray → ByteArray → ByteArray → Bool → Int → Int → Int → Int → Int → Int → Int → Int → Option (Bool)
  | 0, _, _, _, _, _, _, _, _, _, _, _, _ => none
  | k + 1, x0, x1, x2, x47, x145000, x145001, x145002, x145003, x146000, x146001, x146002, x146003 => if x47 = true then ((Go.Proofs.YtfbenlenihlpbaaDoor.Given.laws_refLives.f).bind fun t149 => (some t149)) else ((spec_GridArea.f k x145000 x145001 x145002 x145003).bind fun bt150 => ((spec_GridAreaText.f k bt150.1 bt150.2.1 bt150.2.2.1 bt150.2.2.2).bind fun t154 => ((spec_GridArea.f k x146000 x146001 x146002 x146003).bind fun bt155 => ((spec_GridAreaText.f k bt155.1 bt155.2.1 bt155.2.2.1 bt155.2.2.2).bind fun t159 => (if x0.size + 1 ≤ 9223372036854775807 then (if (x0 ++ (⟨#[33]⟩ : ByteArray)).size + t154.size ≤ 9223372036854775807 then (if ((x0 ++ (⟨#[33]⟩ : ByteArray)) ++ t154).size + 1 ≤ 9223372036854775807 then (if (((x0 ++ (⟨#[33]⟩ : ByteArray)) ++ t154) ++ (⟨#[44]⟩ : ByteArray)).size + x2.size ≤ 9223372036854775807 then (if ((((x0 ++ (⟨#[33]⟩ : ByteArray)) ++ t154) ++ (⟨#[44]⟩ : ByteArray)) ++ x2).size + 1 ≤ 9223372036854775807 then (if (((((x0 ++ (⟨#[33]⟩ : ByteArray)) ++ t154) ++ (⟨#[44]⟩ : ByteArray)) ++ x2) ++ (⟨#[33]⟩ : ByteArray)).size + t159.size ≤ 9223372036854775807 then (if x1.size + 1 ≤ 9223372036854775807 then (if (x1 ++ (⟨#[33]⟩ : ByteArray)).size + t154.size ≤ 9223372036854775807 then (if ((x1 ++ (⟨#[33]⟩ : ByteArray)) ++ t154).size + 1 ≤ 9223372036854775807 then (if (((x1 ++ (⟨#[33]⟩ : ByteArray)) ++ t154) ++ (⟨#[44]⟩ : ByteArray)).size + x2.size ≤ 9223372036854775807 then (if ((((x1 ++ (⟨#[33]⟩ : ByteArray)) ++ t154) ++ (⟨#[44]⟩ : ByteArray)) ++ x2).size + 1 ≤ 9223372036854775807 then (if (((((x1 ++ (⟨#[33]⟩ : ByteArray)) ++ t154) ++ (⟨#[44]⟩ : ByteArray)) ++ x2) ++ (⟨#[33]⟩ : ByteArray)).size + t159.size ≤ 9223372036854775807 then ((impl_Rename.f k ((((((x0 ++ (⟨#[33]⟩ : ByteArray)) ++ t154) ++ (⟨#[44]⟩ : ByteArray)) ++ x2) ++ (⟨#[33]⟩ : ByteArray)) ++ t159) x0 x1).bind fun t160 => (if t160.toList = ((((((x1 ++ (⟨#[33]⟩ : ByteArray)) ++ t154) ++ (⟨#[44]⟩ : ByteArray)) ++ x2) ++ (⟨#[33]⟩ : ByteArray)) ++ t159).toList then ((impl_Rename.f k t160 x1 x0).bind fun t161 => (if t161.toList = ((((((x0 ++ (⟨#[33]⟩ : ByteArray)) ++ t154) ++ (⟨#[44]⟩ : ByteArray)) ++ x2) ++ (⟨#[33]⟩ : ByteArray)) ++ t159).toList then ((Go.Proofs.YtfbenlenihlpbaaDoor.Given.laws_refLives.f).bind fun t162 => (some t162)) else (some false))) else (some false))) else (none)) else (none)) else (none)) else (none)) else (none)) else (none)) else (none)) else (none)) else (none)) else (none)) else (none)) else (none))))))
end
def laws_FnRename.f (k : Nat) (a0 : ByteArray) (a1 : ByteArray) (a2 : ByteArray) (a3_0 : Int) (a3_1 : Int) (a3_2 : Int) (a3_3 : Int) (a4_0 : Int) (a4_1 : Int) (a4_2 : Int) (a4_3 : Int) : Option (Bool) := if (a0.size : Int) > 2147483647 then (laws_FnRename.j0 k a0 a1 a2 true a3_0 a3_1 a3_2 a3_3 a4_0 a4_1 a4_2 a4_3) else (if (a1.size : Int) > 2147483647 then (laws_FnRename.j0 k a0 a1 a2 true a3_0 a3_1 a3_2 a3_3 a4_0 a4_1 a4_2 a4_3) else (laws_FnRename.j0 k a0 a1 a2 (decide ((a2.size : Int) > 2147483647)) a3_0 a3_1 a3_2 a3_3 a4_0 a4_1 a4_2 a4_3))
theorem laws_FnRename.mono_l : ∀ k, (∀ y0 y1 y2 y3 y4 y5 y6 y7 y8 y9 y10 y11, LeO (laws_FnRename.j0 k y0 y1 y2 y3 y4 y5 y6 y7 y8 y9 y10 y11) (laws_FnRename.j0 (k + 1) y0 y1 y2 y3 y4 y5 y6 y7 y8 y9 y10 y11)) ∧ (∀ y0 y1 y2 y3 y4 y5 y6 y7 y8 y9 y10 y11, LeO (laws_FnRename.j1 k y0 y1 y2 y3 y4 y5 y6 y7 y8 y9 y10 y11) (laws_FnRename.j1 (k + 1) y0 y1 y2 y3 y4 y5 y6 y7 y8 y9 y10 y11))
  | 0 => ⟨fun _ _ _ _ _ _ _ _ _ _ _ _ r h => by simp [laws_FnRename.j0] at h, fun _ _ _ _ _ _ _ _ _ _ _ _ r h => by simp [laws_FnRename.j1] at h⟩
  | k + 1 => by
    obtain ⟨ih0, ih1⟩ := laws_FnRename.mono_l k
    refine ⟨?_, ?_⟩
    · intro y0 y1 y2 y3 y4 y5 y6 y7 y8 y9 y10 y11
      unfold laws_FnRename.j0
      repeat' first
      | (with_reducible exact ih0 _ _ _ _ _ _ _ _ _ _ _ _)
      | (with_reducible exact ih1 _ _ _ _ _ _ _ _ _ _ _ _)
      | (with_reducible exact impl_Rename.mono _ _ _ _)
      | (with_reducible exact laws_refLetters.mono _ _)
      | (with_reducible exact spec_GridArea.mono _ _ _ _ _)
      | (with_reducible exact spec_GridAreaText.mono _ _ _ _ _)
      | (with_reducible exact LeO.refl _)
      | (with_reducible exact LeO.none _)
      | (with_reducible refine LeO.ite ?_ ?_)
      | (with_reducible refine LeO.bind ?_ (fun _ => ?_))
      | exact ih0 _ _ _ _ _ _ _ _ _ _ _ _
      | exact ih1 _ _ _ _ _ _ _ _ _ _ _ _
      | exact impl_Rename.mono _ _ _ _
      | exact laws_refLetters.mono _ _
      | exact spec_GridArea.mono _ _ _ _ _
      | exact spec_GridAreaText.mono _ _ _ _ _
      | exact LeO.none _
      | refine LeO.ite ?_ ?_
      | refine LeO.bind ?_ (fun _ => ?_)
    · intro y0 y1 y2 y3 y4 y5 y6 y7 y8 y9 y10 y11
      unfold laws_FnRename.j1
      repeat' first
      | (with_reducible exact ih0 _ _ _ _ _ _ _ _ _ _ _ _)
      | (with_reducible exact ih1 _ _ _ _ _ _ _ _ _ _ _ _)
      | (with_reducible exact impl_Rename.mono _ _ _ _)
      | (with_reducible exact laws_refLetters.mono _ _)
      | (with_reducible exact spec_GridArea.mono _ _ _ _ _)
      | (with_reducible exact spec_GridAreaText.mono _ _ _ _ _)
      | (with_reducible exact LeO.refl _)
      | (with_reducible exact LeO.none _)
      | (with_reducible refine LeO.ite ?_ ?_)
      | (with_reducible refine LeO.bind ?_ (fun _ => ?_))
      | exact ih0 _ _ _ _ _ _ _ _ _ _ _ _
      | exact ih1 _ _ _ _ _ _ _ _ _ _ _ _
      | exact impl_Rename.mono _ _ _ _
      | exact laws_refLetters.mono _ _
      | exact spec_GridArea.mono _ _ _ _ _
      | exact spec_GridAreaText.mono _ _ _ _ _
      | exact LeO.none _
      | refine LeO.ite ?_ ?_
      | refine LeO.bind ?_ (fun _ => ?_)
theorem laws_FnRename.mono : ∀ a0 a1 a2 a3 a4 a5 a6 a7 a8 a9 a10 k, LeO (laws_FnRename.f k a0 a1 a2 a3 a4 a5 a6 a7 a8 a9 a10) (laws_FnRename.f (k + 1) a0 a1 a2 a3 a4 a5 a6 a7 a8 a9 a10) := by
  intro a0 a1 a2 a3 a4 a5 a6 a7 a8 a9 a10 k
  obtain ⟨ih0, ih1⟩ := laws_FnRename.mono_l k
  unfold laws_FnRename.f
  repeat' first
      | (with_reducible exact ih0 _ _ _ _ _ _ _ _ _ _ _ _)
      | (with_reducible exact ih1 _ _ _ _ _ _ _ _ _ _ _ _)
      | (with_reducible exact impl_Rename.mono _ _ _ _)
      | (with_reducible exact laws_refLetters.mono _ _)
      | (with_reducible exact spec_GridArea.mono _ _ _ _ _)
      | (with_reducible exact spec_GridAreaText.mono _ _ _ _ _)
      | (with_reducible exact LeO.refl _)
      | (with_reducible exact LeO.none _)
      | (with_reducible refine LeO.ite ?_ ?_)
      | (with_reducible refine LeO.bind ?_ (fun _ => ?_))
      | exact ih0 _ _ _ _ _ _ _ _ _ _ _ _
      | exact ih1 _ _ _ _ _ _ _ _ _ _ _ _
      | exact impl_Rename.mono _ _ _ _
      | exact laws_refLetters.mono _ _
      | exact spec_GridArea.mono _ _ _ _ _
      | exact spec_GridAreaText.mono _ _ _ _ _
      | exact LeO.none _
      | refine LeO.ite ?_ ?_
      | refine LeO.bind ?_ (fun _ => ?_)
def laws_FnRename.T6 : Bool × List (List Nat × List Nat) := (true, [([], []), ([0], [0]), ([1, 1], [1]), ([], []), ([3, 2], [3]), ([4, 4], [4]), ([2, 5, 0, 1, 2], [2]), ([5, 6, 0, 1, 2, 3, 4, 5, 6], [5])])
def laws_FnRename.B6 : List Nat := [0, 1, 3, 0, 15, 31, 63, 127]
theorem laws_FnRename.tab6 : rtab .any (opsOf Tryd.f9 6) = laws_FnRename.T6 := by kernel_rfl
theorem laws_FnRename.bits6 : waitsOk laws_FnRename.T6.2 laws_FnRename.B6 = true := by kernel_rfl
set_option maxHeartbeats 8000000 in
set_option maxRecDepth 100000 in
theorem laws_FnRename.calls (k : Nat) (a0 : ByteArray) (a1 : ByteArray) (a2 : ByteArray) (a3_0 : Int) (a3_1 : Int) (a3_2 : Int) (a3_3 : Int) (a4_0 : Int) (a4_1 : Int) (a4_2 : Int) (a4_3 : Int) (r : Bool) (w : World) (hU : Letters.Props w) (h : laws_FnRename.f k a0 a1 a2 a3_0 a3_1 a3_2 a3_3 a4_0 a4_1 a4_2 a4_3 = some r) :
    Calls Tryd.prog 9 #[.string a0, .string a1, .string a2, .agg #[.int .i64 a3_0, .int .i64 a3_1, .int .i64 a3_2, .int .i64 a3_3], .agg #[.int .i64 a4_0, .int .i64 a4_1, .int .i64 a4_2, .int .i64 a4_3]] w fun e w' => e = .returned (.bool r) ∧ Below w.heap.size w w' := by
  have HU := Aside0.mk hU
  clear hU
  have hu22 := Tryd.underlying22
  have HB := Aside0.mk (Below.refl w.heap.size w)
  have H : (if (a0.size : Int) > 2147483647 then (laws_FnRename.j0 k a0 a1 a2 true a3_0 a3_1 a3_2 a3_3 a4_0 a4_1 a4_2 a4_3) else (if (a1.size : Int) > 2147483647 then (laws_FnRename.j0 k a0 a1 a2 true a3_0 a3_1 a3_2 a3_3 a4_0 a4_1 a4_2 a4_3) else (laws_FnRename.j0 k a0 a1 a2 (decide ((a2.size : Int) > 2147483647)) a3_0 a3_1 a3_2 a3_3 a4_0 a4_1 a4_2 a4_3))) = some r := h
  clear h
  have HC6 := Aside0.mk H
  clear H
  go_enter Tryd.func9, Tryd.ntmps9
  go_upto_region 1 with (first | ((with_reducible refine gate_dst (N := 8) rfl ?_); (try (refine gate_guard (by rfl) ?_; dsimp only)); refine box_event ?hg (N := 8) ?hd (cs := #[.int .i64 a3_0, .int .i64 a3_1, .int .i64 a3_2, .int .i64 a3_3]) (t := 22) ?hr ?_; (case hd => rfl); (case hg => rfl); (case hr => first | (go_simp; done) | (go_simp; rfl)); intro gb144 hg w7 hbox hb; have n0_ := Aside0.mk (below_step (by repeat (first | (with_reducible first | exact HB.out | apply below_alloc | apply pw_below_drewN | apply below_drew1) | exact HB.out)) hb); have n1_ := Aside0.mk (hbox); have n2_ := Aside0.mk ((by rw [hg]; exact (below_size (by repeat (first | (with_reducible first | exact HB.out | apply below_alloc | apply pw_below_drewN | apply below_drew1) | exact HB.out))) : w.heap.size ≤ gb144)); have n3_ := Aside0.mk ((by rw [hg]; exact (below_size (by repeat (first | (with_reducible first | exact HB.out | apply below_alloc | apply pw_below_drewN | apply below_drew1) | exact HB.out))) : w.heap.size ≤ gb144)); clear HB; have HB := n0_; have BK144 := n1_; have GW144 := n2_; have GE144 := n3_; clear n0_ n1_ n2_ n3_; clear hb hbox hg) | ((with_reducible refine gate_dst (N := 9) rfl ?_); (try (refine gate_guard (by rfl) ?_; dsimp only)); refine box_event ?hg (N := 9) ?hd (cs := #[.int .i64 a4_0, .int .i64 a4_1, .int .i64 a4_2, .int .i64 a4_3]) (t := 22) ?hr ?_; (case hd => rfl); (case hg => rfl); (case hr => first | (go_simp; done) | (go_simp; rfl)); intro gb145 hg w8 hbox hb; have n0_ := Aside0.mk (blk_below (g := gb144) (o := .cells #[.int .i64 a3_0, .int .i64 a3_1, .int .i64 a3_2, .int .i64 a3_3] 22 (0, 0)) (by (with_reducible repeat (first | refine blk_drewN ?_ _ | refine blk_drew ?_ | refine blk_alloc ?_ _)); exact BK144.out) hb); have n1_ := Aside0.mk (below_step (by repeat (first | (with_reducible first | exact HB.out | apply below_alloc | apply pw_below_drewN | apply below_drew1 | refine below_set ?_ GE144.out) | exact HB.out)) hb); have n2_ := Aside0.mk (hbox); have n3_ := Aside0.mk ((by rw [hg]; exact (below_size (by repeat (first | (with_reducible first | exact HB.out | apply below_alloc | apply pw_below_drewN | apply below_drew1 | refine below_set ?_ GE144.out) | exact HB.out))) : w.heap.size ≤ gb145)); have n4_ := Aside0.mk ((by rw [hg]; exact (below_size (by repeat (first | (with_reducible first | exact HB.out | apply below_alloc | apply pw_below_drewN | apply below_drew1 | refine below_set ?_ GE144.out) | exact HB.out))) : w.heap.size ≤ gb145)); have n5_ := Aside0.mk ((by rw [hg]; exact Nat.ne_of_lt (blk_lt (g := gb144) (o := .cells #[.int .i64 a3_0, .int .i64 a3_1, .int .i64 a3_2, .int .i64 a3_3] 22 (0, 0)) (by (with_reducible repeat (first | refine blk_drewN ?_ _ | refine blk_drew ?_ | refine blk_alloc ?_ _)); exact BK144.out)) : gb144 ≠ gb145)); have n6_ := Aside0.mk ((by rw [hg]; exact Nat.ne_of_gt (blk_lt (g := gb144) (o := .cells #[.int .i64 a3_0, .int .i64 a3_1, .int .i64 a3_2, .int .i64 a3_3] 22 (0, 0)) (by (with_reducible repeat (first | refine blk_drewN ?_ _ | refine blk_drew ?_ | refine blk_alloc ?_ _)); exact BK144.out)) : gb145 ≠ gb144)); clear BK144; clear HB; have BK144 := n0_; have HB := n1_; have BK145 := n2_; have GW145 := n3_; have GE145 := n4_; have NB144_145 := n5_; have NB145_144 := n6_; clear n0_ n1_ n2_ n3_ n4_ n5_ n6_; clear hb hbox hg))
  (try simp only [Act.put, List.setIfInBounds_toArray, List.set_cons_zero, List.set_cons_succ])
  go_cut [28] (fun v28 wc => ∃ (kq : Nat) (x28_5 : Bool), v28 = .bool x28_5 ∧ Aside0 (laws_FnRename.j0 kq a0 a1 a2 x28_5 a3_0 a3_1 a3_2 a3_3 a4_0 a4_1 a4_2 a4_3 = some r) ∧ Aside0 (kq ≤ k) ∧ Aside0 (wc.heap[gb144]? = some (.cells #[.int .i64 a3_0, .int .i64 a3_1, .int .i64 a3_2, .int .i64 a3_3] 22 (0, 0))) ∧ Aside0 (wc.heap[gb145]? = some (.cells #[.int .i64 a4_0, .int .i64 a4_1, .int .i64 a4_2, .int .i64 a4_3] 22 (0, 0))) ∧ Aside0 (Below w.heap.size w wc))
  case first =>
    have H := HC6.out
    clear HC6
    by_cases c9 : (a0.size : Int) > 2147483647
    · rw [if_pos c9] at H
      have c9b0 : decide (2147483647 < (a0.size : Int)) = true := decide_eq_true c9
      have c9b1 : decide (2147483647 < a0.size) = true := decide_eq_true (by omega)
      clear c9
      (first | rw [c9b0] | (simp only [i64_w, i32_w]; rw [c9b0]) | skip)
      have H' := Aside0.mk H
      clear H
      go_wp2
      go_meet
      case rel => exact ⟨_, (true), (by first | rfl | (simp; done) | (simp [*]; done) | (simp [wrap64]; done) | (generalize ByteArray.toList _ = l_; cases l_ <;> first | rfl | (simp; done))), H', ⟨by first | omega | exact Nat.le_refl _⟩, ⟨by (with_reducible repeat (first | refine blk_drewN ?_ _ | refine blk_drew ?_ | refine blk_alloc ?_ _)); exact BK144.out⟩, ⟨by (with_reducible repeat (first | refine blk_drewN ?_ _ | refine blk_drew ?_ | refine blk_alloc ?_ _)); exact BK145.out⟩, ⟨by repeat (first | (with_reducible first | exact HB.out | apply below_alloc | apply pw_below_drewN | apply below_drew1 | refine below_set ?_ GE144.out | refine below_set ?_ GE145.out) | exact HB.out)⟩⟩
    · rw [if_neg c9] at H
      have c9b0 : decide (2147483647 < (a0.size : Int)) = false := decide_eq_false c9
      have c9b1 : decide (2147483647 < a0.size) = false := decide_eq_false (by omega)
      clear c9
      (first | rw [c9b0] | (simp only [i64_w, i32_w]; rw [c9b0]) | skip)
      by_cases c10 : (a1.size : Int) > 2147483647
      · rw [if_pos c10] at H
        have c10b0 : decide (2147483647 < (a1.size : Int)) = true := decide_eq_true c10
        have c10b1 : decide (2147483647 < a1.size) = true := decide_eq_true (by omega)
        clear c10
        have H' := Aside0.mk H
        clear H
        go_wp2
        go_meet
        case rel => exact ⟨_, (true), (by first | rfl | (simp; done) | (simp [*]; done) | (simp [wrap64]; done) | (generalize ByteArray.toList _ = l_; cases l_ <;> first | rfl | (simp; done))), H', ⟨by first | omega | exact Nat.le_refl _⟩, ⟨by (with_reducible repeat (first | refine blk_drewN ?_ _ | refine blk_drew ?_ | refine blk_alloc ?_ _)); exact BK144.out⟩, ⟨by (with_reducible repeat (first | refine blk_drewN ?_ _ | refine blk_drew ?_ | refine blk_alloc ?_ _)); exact BK145.out⟩, ⟨by repeat (first | (with_reducible first | exact HB.out | apply below_alloc | apply pw_below_drewN | apply below_drew1 | refine below_set ?_ GE144.out | refine below_set ?_ GE145.out) | exact HB.out)⟩⟩
      · rw [if_neg c10] at H
        have c10b0 : decide (2147483647 < (a1.size : Int)) = false := decide_eq_false c10
        have c10b1 : decide (2147483647 < a1.size) = false := decide_eq_false (by omega)
        clear c10
        have H' := Aside0.mk H
        clear H
        go_wp2
        go_meet
        case rel => exact ⟨_, (decide ((a2.size : Int) > 2147483647)), (by first | rfl | (simp; done) | (simp [*]; done) | (simp [wrap64]; done) | (generalize ByteArray.toList _ = l_; cases l_ <;> first | rfl | (simp; done))), H', ⟨by first | omega | exact Nat.le_refl _⟩, ⟨by (with_reducible repeat (first | refine blk_drewN ?_ _ | refine blk_drew ?_ | refine blk_alloc ?_ _)); exact BK144.out⟩, ⟨by (with_reducible repeat (first | refine blk_drewN ?_ _ | refine blk_drew ?_ | refine blk_alloc ?_ _)); exact BK145.out⟩, ⟨by repeat (first | (with_reducible first | exact HB.out | apply below_alloc | apply pw_below_drewN | apply below_drew1 | refine below_set ?_ GE144.out | refine below_set ?_ GE145.out) | exact HB.out)⟩⟩
  case rest =>
    clear HC6
    try clear c1
    try clear p2
    try clear c9
    try clear c9b0
    try clear c9b1
    try clear c10
    try clear c10b0
    try clear c10b1
    obtain ⟨kq, x28_5, rfl, HA, HJ5, BK144, BK145, HB⟩ := hcut
    cases kq with
    | zero => exact absurd HA.out (by simp [laws_FnRename.j0])
    | succ kj5 =>
      have H := HA.out
      clear HA
      simp only [laws_FnRename.j0] at H
      by_cases c11 : x28_5 = true
      · subst c11
        have H1 : (some true) = some r := by rw [if_pos rfl] at H; exact H
        clear H
        have H := H1
        clear H1
        obtain rfl := Option.some.inj H
        go_wp2
        go_ret
        exact ⟨by first | rfl | (simp [errW_none, errW_some] <;> rfl) | (simp [*, errW_none, errW_some] <;> rfl), by repeat (first | (with_reducible first | exact HB.out | apply below_alloc | apply pw_below_drewN | apply below_drew1 | refine below_set ?_ GE144.out | refine below_set ?_ GE145.out) | exact HB.out)⟩
      · replace c11 := Bool.eq_false_iff.mpr c11
        subst c11
        have H1 : ((laws_refLetters.f kj5 a0).bind fun t146 => ((laws_refLetters.f kj5 a1).bind fun t147 => ((laws_refLetters.f kj5 a2).bind fun t148 => (if t146.toList = t148.toList then (laws_FnRename.j1 kj5 t146 t147 t148 true a3_0 a3_1 a3_2 a3_3 a4_0 a4_1 a4_2 a4_3) else (if t147.toList = t148.toList then (laws_FnRename.j1 kj5 t146 t147 t148 true a3_0 a3_1 a3_2 a3_3 a4_0 a4_1 a4_2 a4_3) else (laws_FnRename.j1 kj5 t146 t147 t148 (t146.toList == t147.toList) a3_0 a3_1 a3_2 a3_3 a4_0 a4_1 a4_2 a4_3)))))) = some r := by rw [if_neg (show ¬ (false = true) by decide)] at H; exact H
        clear H
        have H := H1
        clear H1
        replace H := Option.bind_eq_some_iff.mp H
        obtain ⟨t146, A120, H⟩ := H
        replace H : ((laws_refLetters.f kj5 a1).bind fun t147 => ((laws_refLetters.f kj5 a2).bind fun t148 => (if t146.toList = t148.toList then (laws_FnRename.j1 kj5 t146 t147 t148 true a3_0 a3_1 a3_2 a3_3 a4_0 a4_1 a4_2 a4_3) else (if t147.toList = t148.toList then (laws_FnRename.j1 kj5 t146 t147 t148 true a3_0 a3_1 a3_2 a3_3 a4_0 a4_1 a4_2 a4_3) else (laws_FnRename.j1 kj5 t146 t147 t148 (t146.toList == t147.toList) a3_0 a3_1 a3_2 a3_3 a4_0 a4_1 a4_2 a4_3))))) = some r := H
        have A12 := Aside0.mk A120
        clear A120
        replace H := Option.bind_eq_some_iff.mp H
        obtain ⟨t147, A130, H⟩ := H
        replace H : ((laws_refLetters.f kj5 a2).bind fun t148 => (if t146.toList = t148.toList then (laws_FnRename.j1 kj5 t146 t147 t148 true a3_0 a3_1 a3_2 a3_3 a4_0 a4_1 a4_2 a4_3) else (if t147.toList = t148.toList then (laws_FnRename.j1 kj5 t146 t147 t148 true a3_0 a3_1 a3_2 a3_3 a4_0 a4_1 a4_2 a4_3) else (laws_FnRename.j1 kj5 t146 t147 t148 (t146.toList == t147.toList) a3_0 a3_1 a3_2 a3_3 a4_0 a4_1 a4_2 a4_3)))) = some r := H
        have A13 := Aside0.mk A130
        clear A130
        replace H := Option.bind_eq_some_iff.mp H
        obtain ⟨t148, A140, H⟩ := H
        replace H : (if t146.toList = t148.toList then (laws_FnRename.j1 kj5 t146 t147 t148 true a3_0 a3_1 a3_2 a3_3 a4_0 a4_1 a4_2 a4_3) else (if t147.toList = t148.toList then (laws_FnRename.j1 kj5 t146 t147 t148 true a3_0 a3_1 a3_2 a3_3 a4_0 a4_1 a4_2 a4_3) else (laws_FnRename.j1 kj5 t146 t147 t148 (t146.toList == t147.toList) a3_0 a3_1 a3_2 a3_3 a4_0 a4_1 a4_2 a4_3))) = some r := H
        have A14 := Aside0.mk A140
        clear A140
        have HC15 := Aside0.mk H
        clear H
        go_upto_region 4 with (first | ((with_reducible refine gate_callee (f := 33) rfl ?_); refine goesL_ (some 30) rfl rfl Tryd.func33 (by kernel_rfl) rfl #[.string a0] rfl (by (try simp only [List.map_toArray, List.map_cons, List.map_nil]); first | done | rfl | (simp only [List.length_drop, List.length_take]; rfl)) ?_; (with_reducible refine (laws_refLetters.calls kj5 a0 t146 _ A12.out).mono ?_); rintro e w16 ⟨rfl, hb⟩; refine ⟨_, rfl, ?_⟩; have n0_ := Aside0.mk (blk_below (g := gb144) (o := .cells #[.int .i64 a3_0, .int .i64 a3_1, .int .i64 a3_2, .int .i64 a3_3] 22 (0, 0)) (by (with_reducible repeat (first | refine blk_drewN ?_ _ | refine blk_drew ?_ | refine blk_alloc ?_ _)); exact BK144.out) hb); have n1_ := Aside0.mk (blk_below (g := gb145) (o := .cells #[.int .i64 a4_0, .int .i64 a4_1, .int .i64 a4_2, .int .i64 a4_3] 22 (0, 0)) (by (with_reducible repeat (first | refine blk_drewN ?_ _ | refine blk_drew ?_ | refine blk_alloc ?_ _)); exact BK145.out) hb); have n2_ := Aside0.mk (below_step (by repeat (first | (with_reducible first | exact HB.out | apply below_alloc | apply pw_below_drewN | apply below_drew1 | refine below_set ?_ GE144.out | refine below_set ?_ GE145.out) | exact HB.out)) hb); clear BK144; clear BK145; clear HB; have BK144 := n0_; have BK145 := n1_; have HB := n2_; clear n0_ n1_ n2_; (try clear hb); (try clear hb2); (try clear hk); (try clear hi)) | ((with_reducible refine gate_callee (f := 33) rfl ?_); refine goesL_ (some 32) rfl rfl Tryd.func33 (by kernel_rfl) rfl #[.string a1] rfl (by (try simp only [List.map_toArray, List.map_cons, List.map_nil]); first | done | rfl | (simp only [List.length_drop, List.length_take]; rfl)) ?_; (with_reducible refine (laws_refLetters.calls kj5 a1 t147 _ A13.out).mono ?_); rintro e w17 ⟨rfl, hb⟩; refine ⟨_, rfl, ?_⟩; have n0_ := Aside0.mk (blk_below (g := gb144) (o := .cells #[.int .i64 a3_0, .int .i64 a3_1, .int .i64 a3_2, .int .i64 a3_3] 22 (0, 0)) (by (with_reducible repeat (first | refine blk_drewN ?_ _ | refine blk_drew ?_ | refine blk_alloc ?_ _)); exact BK144.out) hb); have n1_ := Aside0.mk (blk_below (g := gb145) (o := .cells #[.int .i64 a4_0, .int .i64 a4_1, .int .i64 a4_2, .int .i64 a4_3] 22 (0, 0)) (by (with_reducible repeat (first | refine blk_drewN ?_ _ | refine blk_drew ?_ | refine blk_alloc ?_ _)); exact BK145.out) hb); have n2_ := Aside0.mk (below_step (by repeat (first | (with_reducible first | exact HB.out | apply below_alloc | apply pw_below_drewN | apply below_drew1 | refine below_set ?_ GE144.out | refine below_set ?_ GE145.out) | exact HB.out)) hb); clear BK144; clear BK145; clear HB; have BK144 := n0_; have BK145 := n1_; have HB := n2_; clear n0_ n1_ n2_; (try clear hb); (try clear hb2); (try clear hk); (try clear hi)) | ((with_reducible refine gate_callee (f := 33) rfl ?_); refine goesL_ (some 34) rfl rfl Tryd.func33 (by kernel_rfl) rfl #[.string a2] rfl (by (try simp only [List.map_toArray, List.map_cons, List.map_nil]); first | done | rfl | (simp only [List.length_drop, List.length_take]; rfl)) ?_; (with_reducible refine (laws_refLetters.calls kj5 a2 t148 _ A14.out).mono ?_); rintro e w18 ⟨rfl, hb⟩; refine ⟨_, rfl, ?_⟩; have n0_ := Aside0.mk (blk_below (g := gb144) (o := .cells #[.int .i64 a3_0, .int .i64 a3_1, .int .i64 a3_2, .int .i64 a3_3] 22 (0, 0)) (by (with_reducible repeat (first | refine blk_drewN ?_ _ | refine blk_drew ?_ | refine blk_alloc ?_ _)); exact BK144.out) hb); have n1_ := Aside0.mk (blk_below (g := gb145) (o := .cells #[.int .i64 a4_0, .int .i64 a4_1, .int .i64 a4_2, .int .i64 a4_3] 22 (0, 0)) (by (with_reducible repeat (first | refine blk_drewN ?_ _ | refine blk_drew ?_ | refine blk_alloc ?_ _)); exact BK145.out) hb); have n2_ := Aside0.mk (below_step (by repeat (first | (with_reducible first | exact HB.out | apply below_alloc | apply pw_below_drewN | apply below_drew1 | refine below_set ?_ GE144.out | refine below_set ?_ GE145.out) | exact HB.out)) hb); clear BK144; clear BK145; clear HB; have BK144 := n0_; have BK145 := n1_; have HB := n2_; clear n0_ n1_ n2_; (try clear hb); (try clear hb2); (try clear hk); (try clear hi)))
        (try simp only [Act.put, List.setIfInBounds_toArray, List.set_cons_zero, List.set_cons_succ])
        go_cut [47] (fun v47 wc => ∃ (kq : Nat) (x47_14 : Bool), v47 = .bool x47_14 ∧ Aside0 (laws_FnRename.j1 kq t146 t147 t148 x47_14 a3_0 a3_1 a3_2 a3_3 a4_0 a4_1 a4_2 a4_3 = some r) ∧ Aside0 (kq ≤ kj5) ∧ Aside0 (wc.heap[gb144]? = some (.cells #[.int .i64 a3_0, .int .i64 a3_1, .int .i64 a3_2, .int .i64 a3_3] 22 (0, 0))) ∧ Aside0 (wc.heap[gb145]? = some (.cells #[.int .i64 a4_0, .int .i64 a4_1, .int .i64 a4_2, .int .i64 a4_3] 22 (0, 0))) ∧ Aside0 (Below w.heap.size w wc))
        case first =>
          have H := HC15.out
          clear HC15
          by_cases c19 : t146.toList = t148.toList
          · rw [if_pos c19] at H
            have c19b0 : (t146.toList == t148.toList) = true := beq_iff_eq.mpr c19
            have c19b1 : (t146.toList != t148.toList) = false := bne_eq_false_iff_eq.mpr c19
            clear c19
            (first | rw [c19b0] | (simp only [i64_w, i32_w]; rw [c19b0]) | skip)
            have H' := Aside0.mk H
            clear H
            go_wp2
            go_meet
            case rel => exact ⟨_, (true), (by first | rfl | (simp; done) | (simp [*]; done) | (simp [wrap64]; done) | (generalize ByteArray.toList _ = l_; cases l_ <;> first | rfl | (simp; done))), H', ⟨by have := HJ5.out; first | omega | exact Nat.le_refl _⟩, ⟨by (with_reducible repeat (first | refine blk_drewN ?_ _ | refine blk_drew ?_ | refine blk_alloc ?_ _)); exact BK144.out⟩, ⟨by (with_reducible repeat (first | refine blk_drewN ?_ _ | refine blk_drew ?_ | refine blk_alloc ?_ _)); exact BK145.out⟩, ⟨by repeat (first | (with_reducible first | exact HB.out | apply below_alloc | apply pw_below_drewN | apply below_drew1 | refine below_set ?_ GE144.out | refine below_set ?_ GE145.out) | exact HB.out)⟩⟩
          · rw [if_neg c19] at H
            have c19b0 : (t146.toList == t148.toList) = false := beq_eq_false_iff_ne.mpr c19
            have c19b1 : (t146.toList != t148.toList) = true := bne_iff_ne.mpr c19
            (first | rw [c19b0] | (simp only [i64_w, i32_w]; rw [c19b0]) | skip)
            by_cases c20 : t147.toList = t148.toList
            · rw [if_pos c20] at H
              have c20b0 : (t147.toList == t148.toList) = true := beq_iff_eq.mpr c20
              have c20b1 : (t147.toList != t148.toList) = false := bne_eq_false_iff_eq.mpr c20
              clear c20
              have H' := Aside0.mk H
              clear H
              go_wp2
              go_meet
              case rel => exact ⟨_, (true), (by first | rfl | (simp; done) | (simp [*]; done) | (simp [wrap64]; done) | (generalize ByteArray.toList _ = l_; cases l_ <;> first | rfl | (simp; done))), H', ⟨by have := HJ5.out; first | omega | exact Nat.le_refl _⟩, ⟨by (with_reducible repeat (first | refine blk_drewN ?_ _ | refine blk_drew ?_ | refine blk_alloc ?_ _)); exact BK144.out⟩, ⟨by (with_reducible repeat (first | refine blk_drewN ?_ _ | refine blk_drew ?_ | refine blk_alloc ?_ _)); exact BK145.out⟩, ⟨by repeat (first | (with_reducible first | exact HB.out | apply below_alloc | apply pw_below_drewN | apply below_drew1 | refine below_set ?_ GE144.out | refine below_set ?_ GE145.out) | exact HB.out)⟩⟩
            · rw [if_neg c20] at H
              have c20b0 : (t147.toList == t148.toList) = false := beq_eq_false_iff_ne.mpr c20
              have c20b1 : (t147.toList != t148.toList) = true := bne_iff_ne.mpr c20
              have H' := Aside0.mk H
              clear H
              go_wp2
              go_meet
              case rel => exact ⟨_, ((t146.toList == t147.toList)), (by first | rfl | (simp; done) | (simp [*]; done) | (simp [wrap64]; done) | (generalize ByteArray.toList _ = l_; cases l_ <;> first | rfl | (simp; done))), H', ⟨by have := HJ5.out; first | omega | exact Nat.le_refl _⟩, ⟨by (with_reducible repeat (first | refine blk_drewN ?_ _ | refine blk_drew ?_ | refine blk_alloc ?_ _)); exact BK144.out⟩, ⟨by (with_reducible repeat (first | refine blk_drewN ?_ _ | refine blk_drew ?_ | refine blk_alloc ?_ _)); exact BK145.out⟩, ⟨by repeat (first | (with_reducible first | exact HB.out | apply below_alloc | apply pw_below_drewN | apply below_drew1 | refine below_set ?_ GE144.out | refine below_set ?_ GE145.out) | exact HB.out)⟩⟩
        case rest =>
          clear HC15
          try clear c1
          try clear c2
          try clear p2
          try clear c3
          try clear c9
          try clear c9b0
          try clear c9b1
          try clear c10
          try clear c10b0
          try clear c10b1
          try clear c11
          try clear c19
          try clear c19b0
          try clear c19b1
          try clear c20
          try clear c20b0
          try clear c20b1
          try clear p2
          obtain ⟨kq, x47_14, rfl, HA, HJ14, BK144, BK145, HB⟩ := hcut
          cases kq with
          | zero => exact absurd HA.out (by simp [laws_FnRename.j1])
          | succ kj14 =>
            have H := HA.out
            clear HA
            simp only [laws_FnRename.j1] at H
            by_cases c21 : x47_14 = true
            · subst c21
              have H1 : ((Go.Proofs.YtfbenlenihlpbaaDoor.Given.laws_refLives.f).bind fun t149 => (some t149)) = some r := by rw [if_pos rfl] at H; exact H
              clear H
              have H := H1
              clear H1
              replace H := Option.bind_eq_some_iff.mp H
              obtain ⟨t149, A220, H⟩ := H
              replace H : (some t149) = some r := H
              have A22 := Aside0.mk A220
              clear A220
              obtain rfl := Option.some.inj H
              go_wp2_with (first | ((with_reducible refine gate_callee (f := 14) rfl ?_); refine goesL_ (some 48) rfl rfl Tryd.func14 (by kernel_rfl) rfl #[] rfl (by (try simp only [List.map_toArray, List.map_cons, List.map_nil]); first | done | rfl | (simp only [List.length_drop, List.length_take]; rfl)) ?_; (with_reducible refine (Go.Proofs.YtfbenlenihlpbaaDoor.Given.laws_refLives.calls  t149 _ A22.out).mono ?_); rintro e w23 ⟨rfl, hb⟩; refine ⟨_, rfl, ?_⟩; have n0_ := Aside0.mk (blk_below (g := gb144) (o := .cells #[.int .i64 a3_0, .int .i64 a3_1, .int .i64 a3_2, .int .i64 a3_3] 22 (0, 0)) (by (with_reducible repeat (first | refine blk_drewN ?_ _ | refine blk_drew ?_ | refine blk_alloc ?_ _)); exact BK144.out) hb); have n1_ := Aside0.mk (blk_below (g := gb145) (o := .cells #[.int .i64 a4_0, .int .i64 a4_1, .int .i64 a4_2, .int .i64 a4_3] 22 (0, 0)) (by (with_reducible repeat (first | refine blk_drewN ?_ _ | refine blk_drew ?_ | refine blk_alloc ?_ _)); exact BK145.out) hb); have n2_ := Aside0.mk (below_step (by repeat (first | (with_reducible first | exact HB.out | apply below_alloc | apply pw_below_drewN | apply below_drew1 | refine below_set ?_ GE144.out | refine below_set ?_ GE145.out) | exact HB.out)) hb); clear BK144; clear BK145; clear HB; have BK144 := n0_; have BK145 := n1_; have HB := n2_; clear n0_ n1_ n2_; (try clear hb); (try clear hb2); (try clear hk); (try clear hi)))
              go_ret
              exact ⟨by first | rfl | (simp [errW_none, errW_some] <;> rfl) | (simp [*, errW_none, errW_some] <;> rfl), by repeat (first | (with_reducible first | exact HB.out | apply below_alloc | apply pw_below_drewN | apply below_drew1 | refine below_set ?_ GE144.out | refine below_set ?_ GE145.out) | exact HB.out)⟩
            · replace c21 := Bool.eq_false_iff.mpr c21
              subst c21
              have H1 : ((spec_GridArea.f kj14 a3_0 a3_1 a3_2 a3_3).bind fun bt150 => ((spec_GridAreaText.f kj14 bt150.1 bt150.2.1 bt150.2.2.1 bt150.2.2.2).bind fun t154 => ((spec_GridArea.f kj14 a4_0 a4_1 a4_2 a4_3).bind fun bt155 => ((spec_GridAreaText.f kj14 bt155.1 bt155.2.1 bt155.2.2.1 bt155.2.2.2).bind fun t159 => (if t146.size + 1 ≤ 9223372036854775807 then (if (t146 ++ (⟨#[33]⟩ : ByteArray)).size + t154.size ≤ 9223372036854775807 then (if ((t146 ++ (⟨#[33]⟩ : ByteArray)) ++ t154).size + 1 ≤ 9223372036854775807 then (if (((t146 ++ (⟨#[33]⟩ : ByteArray)) ++ t154) ++ (⟨#[44]⟩ : ByteArray)).size + t148.size ≤ 9223372036854775807 then (if ((((t146 ++ (⟨#[33]⟩ : ByteArray)) ++ t154) ++ (⟨#[44]⟩ : ByteArray)) ++ t148).size + 1 ≤ 9223372036854775807 then (if (((((t146 ++ (⟨#[33]⟩ : ByteArray)) ++ t154) ++ (⟨#[44]⟩ : ByteArray)) ++ t148) ++ (⟨#[33]⟩ : ByteArray)).size + t159.size ≤ 9223372036854775807 then (if t147.size + 1 ≤ 9223372036854775807 then (if (t147 ++ (⟨#[33]⟩ : ByteArray)).size + t154.size ≤ 9223372036854775807 then (if ((t147 ++ (⟨#[33]⟩ : ByteArray)) ++ t154).size + 1 ≤ 9223372036854775807 then (if (((t147 ++ (⟨#[33]⟩ : ByteArray)) ++ t154) ++ (⟨#[44]⟩ : ByteArray)).size + t148.size ≤ 9223372036854775807 then (if ((((t147 ++ (⟨#[33]⟩ : ByteArray)) ++ t154) ++ (⟨#[44]⟩ : ByteArray)) ++ t148).size + 1 ≤ 9223372036854775807 then (if (((((t147 ++ (⟨#[33]⟩ : ByteArray)) ++ t154) ++ (⟨#[44]⟩ : ByteArray)) ++ t148) ++ (⟨#[33]⟩ : ByteArray)).size + t159.size ≤ 9223372036854775807 then ((impl_Rename.f kj14 ((((((t146 ++ (⟨#[33]⟩ : ByteArray)) ++ t154) ++ (⟨#[44]⟩ : ByteArray)) ++ t148) ++ (⟨#[33]⟩ : ByteArray)) ++ t159) t146 t147).bind fun t160 => (if t160.toList = ((((((t147 ++ (⟨#[33]⟩ : ByteArray)) ++ t154) ++ (⟨#[44]⟩ : ByteArray)) ++ t148) ++ (⟨#[33]⟩ : ByteArray)) ++ t159).toList then ((impl_Rename.f kj14 t160 t147 t146).bind fun t161 => (if t161.toList = ((((((t146 ++ (⟨#[33]⟩ : ByteArray)) ++ t154) ++ (⟨#[44]⟩ : ByteArray)) ++ t148) ++ (⟨#[33]⟩ : ByteArray)) ++ t159).toList then ((Go.Proofs.YtfbenlenihlpbaaDoor.Given.laws_refLives.f).bind fun t162 => (some t162)) else (some false))) else (some false))) else (none)) else (none)) else (none)) else (none)) else (none)) else (none)) else (none)) else (none)) else (none)) else (none)) else (none)) else (none)))))) = some r := by rw [if_neg (show ¬ (false = true) by decide)] at H; exact H
              clear H
              have H := H1
              clear H1
              replace H := Option.bind_eq_some_iff.mp H
              obtain ⟨⟨t150, t151, t152, t153⟩, A240, H⟩ := H
              replace H : ((spec_GridAreaText.f kj14 t150 t151 t152 t153).bind fun t154 => ((spec_GridArea.f kj14 a4_0 a4_1 a4_2 a4_3).bind fun bt155 => ((spec_GridAreaText.f kj14 bt155.1 bt155.2.1 bt155.2.2.1 bt155.2.2.2).bind fun t159 => (if t146.size + 1 ≤ 9223372036854775807 then (if (t146 ++ (⟨#[33]⟩ : ByteArray)).size + t154.size ≤ 9223372036854775807 then (if ((t146 ++ (⟨#[33]⟩ : ByteArray)) ++ t154).size + 1 ≤ 9223372036854775807 then (if (((t146 ++ (⟨#[33]⟩ : ByteArray)) ++ t154) ++ (⟨#[44]⟩ : ByteArray)).size + t148.size ≤ 9223372036854775807 then (if ((((t146 ++ (⟨#[33]⟩ : ByteArray)) ++ t154) ++ (⟨#[44]⟩ : ByteArray)) ++ t148).size + 1 ≤ 9223372036854775807 then (if (((((t146 ++ (⟨#[33]⟩ : ByteArray)) ++ t154) ++ (⟨#[44]⟩ : ByteArray)) ++ t148) ++ (⟨#[33]⟩ : ByteArray)).size + t159.size ≤ 9223372036854775807 then (if t147.size + 1 ≤ 9223372036854775807 then (if (t147 ++ (⟨#[33]⟩ : ByteArray)).size + t154.size ≤ 9223372036854775807 then (if ((t147 ++ (⟨#[33]⟩ : ByteArray)) ++ t154).size + 1 ≤ 9223372036854775807 then (if (((t147 ++ (⟨#[33]⟩ : ByteArray)) ++ t154) ++ (⟨#[44]⟩ : ByteArray)).size + t148.size ≤ 9223372036854775807 then (if ((((t147 ++ (⟨#[33]⟩ : ByteArray)) ++ t154) ++ (⟨#[44]⟩ : ByteArray)) ++ t148).size + 1 ≤ 9223372036854775807 then (if (((((t147 ++ (⟨#[33]⟩ : ByteArray)) ++ t154) ++ (⟨#[44]⟩ : ByteArray)) ++ t148) ++ (⟨#[33]⟩ : ByteArray)).size + t159.size ≤ 9223372036854775807 then ((impl_Rename.f kj14 ((((((t146 ++ (⟨#[33]⟩ : ByteArray)) ++ t154) ++ (⟨#[44]⟩ : ByteArray)) ++ t148) ++ (⟨#[33]⟩ : ByteArray)) ++ t159) t146 t147).bind fun t160 => (if t160.toList = ((((((t147 ++ (⟨#[33]⟩ : ByteArray)) ++ t154) ++ (⟨#[44]⟩ : ByteArray)) ++ t148) ++ (⟨#[33]⟩ : ByteArray)) ++ t159).toList then ((impl_Rename.f kj14 t160 t147 t146).bind fun t161 => (if t161.toList = ((((((t146 ++ (⟨#[33]⟩ : ByteArray)) ++ t154) ++ (⟨#[44]⟩ : ByteArray)) ++ t148) ++ (⟨#[33]⟩ : ByteArray)) ++ t159).toList then ((Go.Proofs.YtfbenlenihlpbaaDoor.Given.laws_refLives.f).bind fun t162 => (some t162)) else (some false))) else (some false))) else (none)) else (none)) else (none)) else (none)) else (none)) else (none)) else (none)) else (none)) else (none)) else (none)) else (none)) else (none))))) = some r := H
              have A24 := Aside0.mk A240
              clear A240
              replace H := Option.bind_eq_some_iff.mp H
              obtain ⟨t154, A250, H⟩ := H
              replace H : ((spec_GridArea.f kj14 a4_0 a4_1 a4_2 a4_3).bind fun bt155 => ((spec_GridAreaText.f kj14 bt155.1 bt155.2.1 bt155.2.2.1 bt155.2.2.2).bind fun t159 => (if t146.size + 1 ≤ 9223372036854775807 then (if (t146 ++ (⟨#[33]⟩ : ByteArray)).size + t154.size ≤ 9223372036854775807 then (if ((t146 ++ (⟨#[33]⟩ : ByteArray)) ++ t154).size + 1 ≤ 9223372036854775807 then (if (((t146 ++ (⟨#[33]⟩ : ByteArray)) ++ t154) ++ (⟨#[44]⟩ : ByteArray)).size + t148.size ≤ 9223372036854775807 then (if ((((t146 ++ (⟨#[33]⟩ : ByteArray)) ++ t154) ++ (⟨#[44]⟩ : ByteArray)) ++ t148).size + 1 ≤ 9223372036854775807 then (if (((((t146 ++ (⟨#[33]⟩ : ByteArray)) ++ t154) ++ (⟨#[44]⟩ : ByteArray)) ++ t148) ++ (⟨#[33]⟩ : ByteArray)).size + t159.size ≤ 9223372036854775807 then (if t147.size + 1 ≤ 9223372036854775807 then (if (t147 ++ (⟨#[33]⟩ : ByteArray)).size + t154.size ≤ 9223372036854775807 then (if ((t147 ++ (⟨#[33]⟩ : ByteArray)) ++ t154).size + 1 ≤ 9223372036854775807 then (if (((t147 ++ (⟨#[33]⟩ : ByteArray)) ++ t154) ++ (⟨#[44]⟩ : ByteArray)).size + t148.size ≤ 9223372036854775807 then (if ((((t147 ++ (⟨#[33]⟩ : ByteArray)) ++ t154) ++ (⟨#[44]⟩ : ByteArray)) ++ t148).size + 1 ≤ 9223372036854775807 then (if (((((t147 ++ (⟨#[33]⟩ : ByteArray)) ++ t154) ++ (⟨#[44]⟩ : ByteArray)) ++ t148) ++ (⟨#[33]⟩ : ByteArray)).size + t159.size ≤ 9223372036854775807 then ((impl_Rename.f kj14 ((((((t146 ++ (⟨#[33]⟩ : ByteArray)) ++ t154) ++ (⟨#[44]⟩ : ByteArray)) ++ t148) ++ (⟨#[33]⟩ : ByteArray)) ++ t159) t146 t147).bind fun t160 => (if t160.toList = ((((((t147 ++ (⟨#[33]⟩ : ByteArray)) ++ t154) ++ (⟨#[44]⟩ : ByteArray)) ++ t148) ++ (⟨#[33]⟩ : ByteArray)) ++ t159).toList then ((impl_Rename.f kj14 t160 t147 t146).bind fun t161 => (if t161.toList = ((((((t146 ++ (⟨#[33]⟩ : ByteArray)) ++ t154) ++ (⟨#[44]⟩ : ByteArray)) ++ t148) ++ (⟨#[33]⟩ : ByteArray)) ++ t159).toList then ((Go.Proofs.YtfbenlenihlpbaaDoor.Given.laws_refLives.f).bind fun t162 => (some t162)) else (some false))) else (some false))) else (none)) else (none)) else (none)) else (none)) else (none)) else (none)) else (none)) else (none)) else (none)) else (none)) else (none)) else (none)))) = some r := H
              have A25 := Aside0.mk A250
              clear A250
              replace H := Option.bind_eq_some_iff.mp H
              obtain ⟨⟨t155, t156, t157, t158⟩, A260, H⟩ := H
              replace H : ((spec_GridAreaText.f kj14 t155 t156 t157 t158).bind fun t159 => (if t146.size + 1 ≤ 9223372036854775807 then (if (t146 ++ (⟨#[33]⟩ : ByteArray)).size + t154.size ≤ 9223372036854775807 then (if ((t146 ++ (⟨#[33]⟩ : ByteArray)) ++ t154).size + 1 ≤ 9223372036854775807 then (if (((t146 ++ (⟨#[33]⟩ : ByteArray)) ++ t154) ++ (⟨#[44]⟩ : ByteArray)).size + t148.size ≤ 9223372036854775807 then (if ((((t146 ++ (⟨#[33]⟩ : ByteArray)) ++ t154) ++ (⟨#[44]⟩ : ByteArray)) ++ t148).size + 1 ≤ 9223372036854775807 then (if (((((t146 ++ (⟨#[33]⟩ : ByteArray)) ++ t154) ++ (⟨#[44]⟩ : ByteArray)) ++ t148) ++ (⟨#[33]⟩ : ByteArray)).size + t159.size ≤ 9223372036854775807 then (if t147.size + 1 ≤ 9223372036854775807 then (if (t147 ++ (⟨#[33]⟩ : ByteArray)).size + t154.size ≤ 9223372036854775807 then (if ((t147 ++ (⟨#[33]⟩ : ByteArray)) ++ t154).size + 1 ≤ 9223372036854775807 then (if (((t147 ++ (⟨#[33]⟩ : ByteArray)) ++ t154) ++ (⟨#[44]⟩ : ByteArray)).size + t148.size ≤ 9223372036854775807 then (if ((((t147 ++ (⟨#[33]⟩ : ByteArray)) ++ t154) ++ (⟨#[44]⟩ : ByteArray)) ++ t148).size + 1 ≤ 9223372036854775807 then (if (((((t147 ++ (⟨#[33]⟩ : ByteArray)) ++ t154) ++ (⟨#[44]⟩ : ByteArray)) ++ t148) ++ (⟨#[33]⟩ : ByteArray)).size + t159.size ≤ 9223372036854775807 then ((impl_Rename.f kj14 ((((((t146 ++ (⟨#[33]⟩ : ByteArray)) ++ t154) ++ (⟨#[44]⟩ : ByteArray)) ++ t148) ++ (⟨#[33]⟩ : ByteArray)) ++ t159) t146 t147).bind fun t160 => (if t160.toList = ((((((t147 ++ (⟨#[33]⟩ : ByteArray)) ++ t154) ++ (⟨#[44]⟩ : ByteArray)) ++ t148) ++ (⟨#[33]⟩ : ByteArray)) ++ t159).toList then ((impl_Rename.f kj14 t160 t147 t146).bind fun t161 => (if t161.toList = ((((((t146 ++ (⟨#[33]⟩ : ByteArray)) ++ t154) ++ (⟨#[44]⟩ : ByteArray)) ++ t148) ++ (⟨#[33]⟩ : ByteArray)) ++ t159).toList then ((Go.Proofs.YtfbenlenihlpbaaDoor.Given.laws_refLives.f).bind fun t162 => (some t162)) else (some false))) else (some false))) else (none)) else (none)) else (none)) else (none)) else (none)) else (none)) else (none)) else (none)) else (none)) else (none)) else (none)) else (none))) = some r := H
              have A26 := Aside0.mk A260
              clear A260
              replace H := Option.bind_eq_some_iff.mp H
              obtain ⟨t159, A270, H⟩ := H
              replace H : (if t146.size + 1 ≤ 9223372036854775807 then (if (t146 ++ (⟨#[33]⟩ : ByteArray)).size + t154.size ≤ 9223372036854775807 then (if ((t146 ++ (⟨#[33]⟩ : ByteArray)) ++ t154).size + 1 ≤ 9223372036854775807 then (if (((t146 ++ (⟨#[33]⟩ : ByteArray)) ++ t154) ++ (⟨#[44]⟩ : ByteArray)).size + t148.size ≤ 9223372036854775807 then (if ((((t146 ++ (⟨#[33]⟩ : ByteArray)) ++ t154) ++ (⟨#[44]⟩ : ByteArray)) ++ t148).size + 1 ≤ 9223372036854775807 then (if (((((t146 ++ (⟨#[33]⟩ : ByteArray)) ++ t154) ++ (⟨#[44]⟩ : ByteArray)) ++ t148) ++ (⟨#[33]⟩ : ByteArray)).size + t159.size ≤ 9223372036854775807 then (if t147.size + 1 ≤ 9223372036854775807 then (if (t147 ++ (⟨#[33]⟩ : ByteArray)).size + t154.size ≤ 9223372036854775807 then (if ((t147 ++ (⟨#[33]⟩ : ByteArray)) ++ t154).size + 1 ≤ 9223372036854775807 then (if (((t147 ++ (⟨#[33]⟩ : ByteArray)) ++ t154) ++ (⟨#[44]⟩ : ByteArray)).size + t148.size ≤ 9223372036854775807 then (if ((((t147 ++ (⟨#[33]⟩ : ByteArray)) ++ t154) ++ (⟨#[44]⟩ : ByteArray)) ++ t148).size + 1 ≤ 9223372036854775807 then (if (((((t147 ++ (⟨#[33]⟩ : ByteArray)) ++ t154) ++ (⟨#[44]⟩ : ByteArray)) ++ t148) ++ (⟨#[33]⟩ : ByteArray)).size + t159.size ≤ 9223372036854775807 then ((impl_Rename.f kj14 ((((((t146 ++ (⟨#[33]⟩ : ByteArray)) ++ t154) ++ (⟨#[44]⟩ : ByteArray)) ++ t148) ++ (⟨#[33]⟩ : ByteArray)) ++ t159) t146 t147).bind fun t160 => (if t160.toList = ((((((t147 ++ (⟨#[33]⟩ : ByteArray)) ++ t154) ++ (⟨#[44]⟩ : ByteArray)) ++ t148) ++ (⟨#[33]⟩ : ByteArray)) ++ t159).toList then ((impl_Rename.f kj14 t160 t147 t146).bind fun t161 => (if t161.toList = ((((((t146 ++ (⟨#[33]⟩ : ByteArray)) ++ t154) ++ (⟨#[44]⟩ : ByteArray)) ++ t148) ++ (⟨#[33]⟩ : ByteArray)) ++ t159).toList then ((Go.Proofs.YtfbenlenihlpbaaDoor.Given.laws_refLives.f).bind fun t162 => (some t162)) else (some false))) else (some false))) else (none)) else (none)) else (none)) else (none)) else (none)) else (none)) else (none)) else (none)) else (none)) else (none)) else (none)) else (none)) = some r := H
              have A27 := Aside0.mk A270
              clear A270
              by_cases c28 : t146.size + 1 ≤ 9223372036854775807
              · rw [if_pos c28] at H
                have c28b0 := eq_true c28
                have c28b1 : decide (t146.size + 1 ≤ 9223372036854775807) = true := decide_eq_true c28
                try have c28b2 : (9223372036854775807 < t146.size + 1) = False := eq_false (Nat.not_lt.2 c28)
                have c28z := c28
                (try simp only [ByteArray.size_append, show ∀ x_ : UInt8, (⟨#[x_]⟩ : ByteArray).size = 1 from fun _ => rfl] at c28z)
                by_cases c29 : (t146 ++ (⟨#[33]⟩ : ByteArray)).size + t154.size ≤ 9223372036854775807
                · rw [if_pos c29] at H
                  have c29b0 := eq_true c29
                  have c29b1 : decide ((t146 ++ (⟨#[33]⟩ : ByteArray)).size + t154.size ≤ 9223372036854775807) = true := decide_eq_true c29
                  try have c29b2 : (9223372036854775807 < (t146 ++ (⟨#[33]⟩ : ByteArray)).size + t154.size) = False := eq_false (Nat.not_lt.2 c29)
                  have c29z := c29
                  (try simp only [ByteArray.size_append, show ∀ x_ : UInt8, (⟨#[x_]⟩ : ByteArray).size = 1 from fun _ => rfl] at c29z)
                  by_cases c30 : ((t146 ++ (⟨#[33]⟩ : ByteArray)) ++ t154).size + 1 ≤ 9223372036854775807
                  · rw [if_pos c30] at H
                    have c30b0 := eq_true c30
                    have c30b1 : decide (((t146 ++ (⟨#[33]⟩ : ByteArray)) ++ t154).size + 1 ≤ 9223372036854775807) = true := decide_eq_true c30
                    try have c30b2 : (9223372036854775807 < ((t146 ++ (⟨#[33]⟩ : ByteArray)) ++ t154).size + 1) = False := eq_false (Nat.not_lt.2 c30)
                    have c30z := c30
                    (try simp only [ByteArray.size_append, show ∀ x_ : UInt8, (⟨#[x_]⟩ : ByteArray).size = 1 from fun _ => rfl] at c30z)
                    by_cases c31 : (((t146 ++ (⟨#[33]⟩ : ByteArray)) ++ t154) ++ (⟨#[44]⟩ : ByteArray)).size + t148.size ≤ 9223372036854775807
                    · rw [if_pos c31] at H
                      have c31b0 := eq_true c31
                      have c31b1 : decide ((((t146 ++ (⟨#[33]⟩ : ByteArray)) ++ t154) ++ (⟨#[44]⟩ : ByteArray)).size + t148.size ≤ 9223372036854775807) = true := decide_eq_true c31
                      try have c31b2 : (9223372036854775807 < (((t146 ++ (⟨#[33]⟩ : ByteArray)) ++ t154) ++ (⟨#[44]⟩ : ByteArray)).size + t148.size) = False := eq_false (Nat.not_lt.2 c31)
                      have c31z := c31
                      (try simp only [ByteArray.size_append, show ∀ x_ : UInt8, (⟨#[x_]⟩ : ByteArray).size = 1 from fun _ => rfl] at c31z)
                      by_cases c32 : ((((t146 ++ (⟨#[33]⟩ : ByteArray)) ++ t154) ++ (⟨#[44]⟩ : ByteArray)) ++ t148).size + 1 ≤ 9223372036854775807
                      · rw [if_pos c32] at H
                        have c32b0 := eq_true c32
                        have c32b1 : decide (((((t146 ++ (⟨#[33]⟩ : ByteArray)) ++ t154) ++ (⟨#[44]⟩ : ByteArray)) ++ t148).size + 1 ≤ 9223372036854775807) = true := decide_eq_true c32
                        try have c32b2 : (9223372036854775807 < ((((t146 ++ (⟨#[33]⟩ : ByteArray)) ++ t154) ++ (⟨#[44]⟩ : ByteArray)) ++ t148).size + 1) = False := eq_false (Nat.not_lt.2 c32)
                        have c32z := c32
                        (try simp only [ByteArray.size_append, show ∀ x_ : UInt8, (⟨#[x_]⟩ : ByteArray).size = 1 from fun _ => rfl] at c32z)
                        by_cases c33 : (((((t146 ++ (⟨#[33]⟩ : ByteArray)) ++ t154) ++ (⟨#[44]⟩ : ByteArray)) ++ t148) ++ (⟨#[33]⟩ : ByteArray)).size + t159.size ≤ 9223372036854775807
                        · rw [if_pos c33] at H
                          have c33b0 := eq_true c33
                          have c33b1 : decide ((((((t146 ++ (⟨#[33]⟩ : ByteArray)) ++ t154) ++ (⟨#[44]⟩ : ByteArray)) ++ t148) ++ (⟨#[33]⟩ : ByteArray)).size + t159.size ≤ 9223372036854775807) = true := decide_eq_true c33
                          try have c33b2 : (9223372036854775807 < (((((t146 ++ (⟨#[33]⟩ : ByteArray)) ++ t154) ++ (⟨#[44]⟩ : ByteArray)) ++ t148) ++ (⟨#[33]⟩ : ByteArray)).size + t159.size) = False := eq_false (Nat.not_lt.2 c33)
                          have c33z := c33
                          (try simp only [ByteArray.size_append, show ∀ x_ : UInt8, (⟨#[x_]⟩ : ByteArray).size = 1 from fun _ => rfl] at c33z)
                          by_cases c34 : t147.size + 1 ≤ 9223372036854775807
                          · rw [if_pos c34] at H
                            have c34b0 := eq_true c34
                            have c34b1 : decide (t147.size + 1 ≤ 9223372036854775807) = true := decide_eq_true c34
                            try have c34b2 : (9223372036854775807 < t147.size + 1) = False := eq_false (Nat.not_lt.2 c34)
                            have c34z := c34
                            (try simp only [ByteArray.size_append, show ∀ x_ : UInt8, (⟨#[x_]⟩ : ByteArray).size = 1 from fun _ => rfl] at c34z)
                            by_cases c35 : (t147 ++ (⟨#[33]⟩ : ByteArray)).size + t154.size ≤ 9223372036854775807
                            · rw [if_pos c35] at H
                              have c35b0 := eq_true c35
                              have c35b1 : decide ((t147 ++ (⟨#[33]⟩ : ByteArray)).size + t154.size ≤ 9223372036854775807) = true := decide_eq_true c35
                              try have c35b2 : (9223372036854775807 < (t147 ++ (⟨#[33]⟩ : ByteArray)).size + t154.size) = False := eq_false (Nat.not_lt.2 c35)
                              have c35z := c35
                              (try simp only [ByteArray.size_append, show ∀ x_ : UInt8, (⟨#[x_]⟩ : ByteArray).size = 1 from fun _ => rfl] at c35z)
                              by_cases c36 : ((t147 ++ (⟨#[33]⟩ : ByteArray)) ++ t154).size + 1 ≤ 9223372036854775807
                              · rw [if_pos c36] at H
                                have c36b0 := eq_true c36
                                have c36b1 : decide (((t147 ++ (⟨#[33]⟩ : ByteArray)) ++ t154).size + 1 ≤ 9223372036854775807) = true := decide_eq_true c36
                                try have c36b2 : (9223372036854775807 < ((t147 ++ (⟨#[33]⟩ : ByteArray)) ++ t154).size + 1) = False := eq_false (Nat.not_lt.2 c36)
                                have c36z := c36
                                (try simp only [ByteArray.size_append, show ∀ x_ : UInt8, (⟨#[x_]⟩ : ByteArray).size = 1 from fun _ => rfl] at c36z)
                                by_cases c37 : (((t147 ++ (⟨#[33]⟩ : ByteArray)) ++ t154) ++ (⟨#[44]⟩ : ByteArray)).size + t148.size ≤ 9223372036854775807
                                · rw [if_pos c37] at H
                                  have c37b0 := eq_true c37
                                  have c37b1 : decide ((((t147 ++ (⟨#[33]⟩ : ByteArray)) ++ t154) ++ (⟨#[44]⟩ : ByteArray)).size + t148.size ≤ 9223372036854775807) = true := decide_eq_true c37
                                  try have c37b2 : (9223372036854775807 < (((t147 ++ (⟨#[33]⟩ : ByteArray)) ++ t154) ++ (⟨#[44]⟩ : ByteArray)).size + t148.size) = False := eq_false (Nat.not_lt.2 c37)
                                  have c37z := c37
                                  (try simp only [ByteArray.size_append, show ∀ x_ : UInt8, (⟨#[x_]⟩ : ByteArray).size = 1 from fun _ => rfl] at c37z)
                                  by_cases c38 : ((((t147 ++ (⟨#[33]⟩ : ByteArray)) ++ t154) ++ (⟨#[44]⟩ : ByteArray)) ++ t148).size + 1 ≤ 9223372036854775807
                                  · rw [if_pos c38] at H
                                    have c38b0 := eq_true c38
                                    have c38b1 : decide (((((t147 ++ (⟨#[33]⟩ : ByteArray)) ++ t154) ++ (⟨#[44]⟩ : ByteArray)) ++ t148).size + 1 ≤ 9223372036854775807) = true := decide_eq_true c38
                                    try have c38b2 : (9223372036854775807 < ((((t147 ++ (⟨#[33]⟩ : ByteArray)) ++ t154) ++ (⟨#[44]⟩ : ByteArray)) ++ t148).size + 1) = False := eq_false (Nat.not_lt.2 c38)
                                    have c38z := c38
                                    (try simp only [ByteArray.size_append, show ∀ x_ : UInt8, (⟨#[x_]⟩ : ByteArray).size = 1 from fun _ => rfl] at c38z)
                                    by_cases c39 : (((((t147 ++ (⟨#[33]⟩ : ByteArray)) ++ t154) ++ (⟨#[44]⟩ : ByteArray)) ++ t148) ++ (⟨#[33]⟩ : ByteArray)).size + t159.size ≤ 9223372036854775807
                                    · rw [if_pos c39] at H
                                      have c39b0 := eq_true c39
                                      have c39b1 : decide ((((((t147 ++ (⟨#[33]⟩ : ByteArray)) ++ t154) ++ (⟨#[44]⟩ : ByteArray)) ++ t148) ++ (⟨#[33]⟩ : ByteArray)).size + t159.size ≤ 9223372036854775807) = true := decide_eq_true c39
                                      try have c39b2 : (9223372036854775807 < (((((t147 ++ (⟨#[33]⟩ : ByteArray)) ++ t154) ++ (⟨#[44]⟩ : ByteArray)) ++ t148) ++ (⟨#[33]⟩ : ByteArray)).size + t159.size) = False := eq_false (Nat.not_lt.2 c39)
                                      have c39z := c39
                                      (try simp only [ByteArray.size_append, show ∀ x_ : UInt8, (⟨#[x_]⟩ : ByteArray).size = 1 from fun _ => rfl] at c39z)
                                      replace H := Option.bind_eq_some_iff.mp H
                                      obtain ⟨t160, A400, H⟩ := H
                                      replace H : (if t160.toList = ((((((t147 ++ (⟨#[33]⟩ : ByteArray)) ++ t154) ++ (⟨#[44]⟩ : ByteArray)) ++ t148) ++ (⟨#[33]⟩ : ByteArray)) ++ t159).toList then ((impl_Rename.f kj14 t160 t147 t146).bind fun t161 => (if t161.toList = ((((((t146 ++ (⟨#[33]⟩ : ByteArray)) ++ t154) ++ (⟨#[44]⟩ : ByteArray)) ++ t148) ++ (⟨#[33]⟩ : ByteArray)) ++ t159).toList then ((Go.Proofs.YtfbenlenihlpbaaDoor.Given.laws_refLives.f).bind fun t162 => (some t162)) else (some false))) else (some false)) = some r := H
                                      have A40 := Aside0.mk A400
                                      clear A400
                                      by_cases c41 : t160.toList = ((((((t147 ++ (⟨#[33]⟩ : ByteArray)) ++ t154) ++ (⟨#[44]⟩ : ByteArray)) ++ t148) ++ (⟨#[33]⟩ : ByteArray)) ++ t159).toList
                                      · rw [if_pos c41] at H
                                        have c41b0 : (t160.toList == ((((((t147 ++ (⟨#[33]⟩ : ByteArray)) ++ t154) ++ (⟨#[44]⟩ : ByteArray)) ++ t148) ++ (⟨#[33]⟩ : ByteArray)) ++ t159).toList) = true := beq_iff_eq.mpr c41
                                        have c41b1 : (t160.toList != ((((((t147 ++ (⟨#[33]⟩ : ByteArray)) ++ t154) ++ (⟨#[44]⟩ : ByteArray)) ++ t148) ++ (⟨#[33]⟩ : ByteArray)) ++ t159).toList) = false := bne_eq_false_iff_eq.mpr c41
                                        clear c41
                                        replace H := Option.bind_eq_some_iff.mp H
                                        obtain ⟨t161, A420, H⟩ := H
                                        replace H : (if t161.toList = ((((((t146 ++ (⟨#[33]⟩ : ByteArray)) ++ t154) ++ (⟨#[44]⟩ : ByteArray)) ++ t148) ++ (⟨#[33]⟩ : ByteArray)) ++ t159).toList then ((Go.Proofs.YtfbenlenihlpbaaDoor.Given.laws_refLives.f).bind fun t162 => (some t162)) else (some false)) = some r := H
                                        have A42 := Aside0.mk A420
                                        clear A420
                                        by_cases c43 : t161.toList = ((((((t146 ++ (⟨#[33]⟩ : ByteArray)) ++ t154) ++ (⟨#[44]⟩ : ByteArray)) ++ t148) ++ (⟨#[33]⟩ : ByteArray)) ++ t159).toList
                                        · rw [if_pos c43] at H
                                          have c43b0 : (t161.toList == ((((((t146 ++ (⟨#[33]⟩ : ByteArray)) ++ t154) ++ (⟨#[44]⟩ : ByteArray)) ++ t148) ++ (⟨#[33]⟩ : ByteArray)) ++ t159).toList) = true := beq_iff_eq.mpr c43
                                          have c43b1 : (t161.toList != ((((((t146 ++ (⟨#[33]⟩ : ByteArray)) ++ t154) ++ (⟨#[44]⟩ : ByteArray)) ++ t148) ++ (⟨#[33]⟩ : ByteArray)) ++ t159).toList) = false := bne_eq_false_iff_eq.mpr c43
                                          clear c43
                                          replace H := Option.bind_eq_some_iff.mp H
                                          obtain ⟨t162, A440, H⟩ := H
                                          replace H : (some t162) = some r := H
                                          have A44 := Aside0.mk A440
                                          clear A440
                                          obtain rfl := Option.some.inj H
                                          try go_wp2
                                          have n0_ := Aside0.mk (blk_drew BK144.out)
                                          have n1_ := Aside0.mk (blk_drew BK145.out)
                                          have n2_ := Aside0.mk (below_drew1 HB.out)
                                          clear BK144
                                          clear BK145
                                          clear HB
                                          have BK144 := n0_
                                          have BK145 := n1_
                                          have HB := n2_
                                          clear n0_ n1_ n2_
                                          refine start_ (n := 8) (S := fun w' => w'.cell? ⟨gb144, 0, none⟩ = some (.int .i64 a3_0) ∧ w'.cell? ⟨gb144, 1, none⟩ = some (.int .i64 a3_1) ∧ w'.cell? ⟨gb144, 2, none⟩ = some (.int .i64 a3_2) ∧ w'.cell? ⟨gb144, 3, none⟩ = some (.int .i64 a3_3) ∧ w'.cell? ⟨gb145, 0, none⟩ = some (.int .i64 a4_0) ∧ w'.cell? ⟨gb145, 1, none⟩ = some (.int .i64 a4_1) ∧ w'.cell? ⟨gb145, 2, none⟩ = some (.int .i64 a4_2) ∧ w'.cell? ⟨gb145, 3, none⟩ = some (.int .i64 a4_3)) (ds := []) #[false, false, false, false, false, false, false, false] (by kernel_rfl) rfl rfl ⟨(blk_cell BK144.out 0).trans rfl, (blk_cell BK144.out 1).trans rfl, (blk_cell BK144.out 2).trans rfl, (blk_cell BK144.out 3).trans rfl, (blk_cell BK145.out 0).trans rfl, (blk_cell BK145.out 1).trans rfl, (blk_cell BK145.out 2).trans rfl, (blk_cell BK145.out 3).trans rfl⟩ (fun hHeld => ?_); refine with_tabW laws_FnRename.tab6 laws_FnRename.bits6 (fun HT_ HW_ => ?_)
                                          generalize wc.drew = w45 at BK144 BK145 HB hHeld ⊢
                                          refine take_ (i := 0) (N := some 49) (v := ?_) (a' := ?_) #[true, false, false, false, false, false, false, false] rfl rfl (take_ofW HT_.out HW_.out (by kernel_rfl)) (fun _ _ _ h => h) (Or.inl ⟨by rfl, ?_⟩) hHeld ?_ ?_
                                          rotate_left
                                          · rintro w' ⟨s0, s1, s2, s3, s4, s5, s6, s7⟩
                                            go_simp
                                            with_reducible rfl
                                          rotate_left
                                          · simp only [Act.put, List.setIfInBounds_toArray, List.set_cons_zero, List.set_cons_succ, i64_w, i32_w]
                                            rfl
                                          refine take_ (i := 3) (N := some 52) (v := ?_) (a' := ?_) #[true, false, false, true, false, false, false, false] rfl rfl (take_ofW HT_.out HW_.out (by kernel_rfl)) (fun _ _ _ h => h) (Or.inl ⟨by rfl, ?_⟩) hHeld ?_ ?_
                                          rotate_left
                                          · rintro w' ⟨s0, s1, s2, s3, s4, s5, s6, s7⟩
                                            go_simp
                                            with_reducible rfl
                                          rotate_left
                                          · simp only [Act.put, List.setIfInBounds_toArray, List.set_cons_zero, List.set_cons_succ, i64_w, i32_w]
                                            rfl
                                          refine one_ (i := 1) (N := some 50) #[true, true, false, true, false, false, false, false] rfl rfl (one_of HT_.out (by kernel_rfl)) (by decide) (fun K hK => ?_)
                                          refine goes_ Tryd.func15 (by kernel_rfl) rfl #[.agg #[.int .i64 a3_0, .int .i64 a3_1, .int .i64 a3_2, .int .i64 a3_3]] (by rfl) rfl rfl (by (try simp only [List.map_toArray, List.map_cons, List.map_nil]); first | done | rfl | (simp only [List.length_drop, List.length_take]; rfl)) ?_
                                          with_reducible refine (spec_GridArea.calls kj14 a3_0 a3_1 a3_2 a3_3 t150 t151 t152 t153 _ A24.out).mono ?_
                                          rintro e w46 ⟨rfl, hb⟩
                                          refine ⟨_, rfl, ?_⟩
                                          have n0_ := Aside0.mk (blk_below (g := gb144) (o := .cells #[.int .i64 a3_0, .int .i64 a3_1, .int .i64 a3_2, .int .i64 a3_3] 22 (0, 0)) (by (with_reducible repeat (first | refine blk_drewN ?_ _ | refine blk_drew ?_ | refine blk_alloc ?_ _)); exact BK144.out) hb)
                                          have n1_ := Aside0.mk (blk_below (g := gb145) (o := .cells #[.int .i64 a4_0, .int .i64 a4_1, .int .i64 a4_2, .int .i64 a4_3] 22 (0, 0)) (by (with_reducible repeat (first | refine blk_drewN ?_ _ | refine blk_drew ?_ | refine blk_alloc ?_ _)); exact BK145.out) hb)
                                          have n2_ := Aside0.mk (below_step (by repeat (first | (with_reducible first | exact HB.out | apply below_alloc | apply pw_below_drewN | apply below_drew1 | refine below_set ?_ GE144.out | refine below_set ?_ GE145.out) | exact HB.out)) hb)
                                          clear BK144
                                          clear BK145
                                          clear HB
                                          have BK144 := n0_
                                          have BK145 := n1_
                                          have HB := n2_
                                          clear n0_ n1_ n2_
                                          (try clear hb)
                                          (try clear hb2)
                                          (try clear hk)
                                          (try clear hi)
                                          refine hK.out _ _ ⟨(blk_cell BK144.out 0).trans rfl, (blk_cell BK144.out 1).trans rfl, (blk_cell BK144.out 2).trans rfl, (blk_cell BK144.out 3).trans rfl, (blk_cell BK145.out 0).trans rfl, (blk_cell BK145.out 1).trans rfl, (blk_cell BK145.out 2).trans rfl, (blk_cell BK145.out 3).trans rfl⟩ (fun hHeld => ?_)
                                          clear hK K
                                          refine norm_ (a' := ?_) ?_ ?_
                                          rotate_left
                                          · show Act.put _ (some 50) _ = _
                                            simp only [Act.put, List.setIfInBounds_toArray, List.set_cons_zero, List.set_cons_succ, i64_w, i32_w]
                                            rfl
                                          refine one_ (i := 2) (N := some 51) #[true, true, true, true, false, false, false, false] rfl rfl (one_of HT_.out (by kernel_rfl)) (by decide) (fun K hK => ?_)
                                          refine goes_ Tryd.func34 (by kernel_rfl) rfl #[.agg #[.int .i64 t150, .int .i64 t151, .int .i64 t152, .int .i64 t153]] (by rfl) rfl rfl (by (try simp only [List.map_toArray, List.map_cons, List.map_nil]); first | done | rfl | (simp only [List.length_drop, List.length_take]; rfl)) ?_
                                          with_reducible refine (spec_GridAreaText.calls kj14 t150 t151 t152 t153 t154 _ A25.out).mono ?_
                                          rintro e w47 ⟨rfl, hb⟩
                                          refine ⟨_, rfl, ?_⟩
                                          have n0_ := Aside0.mk (blk_below (g := gb144) (o := .cells #[.int .i64 a3_0, .int .i64 a3_1, .int .i64 a3_2, .int .i64 a3_3] 22 (0, 0)) (by (with_reducible repeat (first | refine blk_drewN ?_ _ | refine blk_drew ?_ | refine blk_alloc ?_ _)); exact BK144.out) hb)
                                          have n1_ := Aside0.mk (blk_below (g := gb145) (o := .cells #[.int .i64 a4_0, .int .i64 a4_1, .int .i64 a4_2, .int .i64 a4_3] 22 (0, 0)) (by (with_reducible repeat (first | refine blk_drewN ?_ _ | refine blk_drew ?_ | refine blk_alloc ?_ _)); exact BK145.out) hb)
                                          have n2_ := Aside0.mk (below_step (by repeat (first | (with_reducible first | exact HB.out | apply below_alloc | apply pw_below_drewN | apply below_drew1 | refine below_set ?_ GE144.out | refine below_set ?_ GE145.out) | exact HB.out)) hb)
                                          clear BK144
                                          clear BK145
                                          clear HB
                                          have BK144 := n0_
                                          have BK145 := n1_
                                          have HB := n2_
                                          clear n0_ n1_ n2_
                                          (try clear hb)
                                          (try clear hb2)
                                          (try clear hk)
                                          (try clear hi)
                                          refine hK.out _ _ ⟨(blk_cell BK144.out 0).trans rfl, (blk_cell BK144.out 1).trans rfl, (blk_cell BK144.out 2).trans rfl, (blk_cell BK144.out 3).trans rfl, (blk_cell BK145.out 0).trans rfl, (blk_cell BK145.out 1).trans rfl, (blk_cell BK145.out 2).trans rfl, (blk_cell BK145.out 3).trans rfl⟩ (fun hHeld => ?_)
                                          clear hK K
                                          refine norm_ (a' := ?_) ?_ ?_
                                          rotate_left
                                          · show Act.put _ (some 51) _ = _
                                            simp only [Act.put, List.setIfInBounds_toArray, List.set_cons_zero, List.set_cons_succ, i64_w, i32_w]
                                            rfl
                                          refine one_ (i := 4) (N := some 53) #[true, true, true, true, true, false, false, false] rfl rfl (one_of HT_.out (by kernel_rfl)) (by decide) (fun K hK => ?_)
                                          refine goes_ Tryd.func15 (by kernel_rfl) rfl #[.agg #[.int .i64 a4_0, .int .i64 a4_1, .int .i64 a4_2, .int .i64 a4_3]] (by rfl) rfl rfl (by (try simp only [List.map_toArray, List.map_cons, List.map_nil]); first | done | rfl | (simp only [List.length_drop, List.length_take]; rfl)) ?_
                                          with_reducible refine (spec_GridArea.calls kj14 a4_0 a4_1 a4_2 a4_3 t155 t156 t157 t158 _ A26.out).mono ?_
                                          rintro e w48 ⟨rfl, hb⟩
                                          refine ⟨_, rfl, ?_⟩
                                          have n0_ := Aside0.mk (blk_below (g := gb144) (o := .cells #[.int .i64 a3_0, .int .i64 a3_1, .int .i64 a3_2, .int .i64 a3_3] 22 (0, 0)) (by (with_reducible repeat (first | refine blk_drewN ?_ _ | refine blk_drew ?_ | refine blk_alloc ?_ _)); exact BK144.out) hb)
                                          have n1_ := Aside0.mk (blk_below (g := gb145) (o := .cells #[.int .i64 a4_0, .int .i64 a4_1, .int .i64 a4_2, .int .i64 a4_3] 22 (0, 0)) (by (with_reducible repeat (first | refine blk_drewN ?_ _ | refine blk_drew ?_ | refine blk_alloc ?_ _)); exact BK145.out) hb)
                                          have n2_ := Aside0.mk (below_step (by repeat (first | (with_reducible first | exact HB.out | apply below_alloc | apply pw_below_drewN | apply below_drew1 | refine below_set ?_ GE144.out | refine below_set ?_ GE145.out) | exact HB.out)) hb)
                                          clear BK144
                                          clear BK145
                                          clear HB
                                          have BK144 := n0_
                                          have BK145 := n1_
                                          have HB := n2_
                                          clear n0_ n1_ n2_
                                          (try clear hb)
                                          (try clear hb2)
                                          (try clear hk)
                                          (try clear hi)
                                          refine hK.out _ _ ⟨(blk_cell BK144.out 0).trans rfl, (blk_cell BK144.out 1).trans rfl, (blk_cell BK144.out 2).trans rfl, (blk_cell BK144.out 3).trans rfl, (blk_cell BK145.out 0).trans rfl, (blk_cell BK145.out 1).trans rfl, (blk_cell BK145.out 2).trans rfl, (blk_cell BK145.out 3).trans rfl⟩ (fun hHeld => ?_)
                                          clear hK K
                                          refine norm_ (a' := ?_) ?_ ?_
                                          rotate_left
                                          · show Act.put _ (some 53) _ = _
                                            simp only [Act.put, List.setIfInBounds_toArray, List.set_cons_zero, List.set_cons_succ, i64_w, i32_w]
                                            rfl
                                          refine one_ (i := 5) (N := some 54) #[true, true, true, true, true, true, false, false] rfl rfl (one_of HT_.out (by kernel_rfl)) (by decide) (fun K hK => ?_)
                                          refine goes_ Tryd.func34 (by kernel_rfl) rfl #[.agg #[.int .i64 t155, .int .i64 t156, .int .i64 t157, .int .i64 t158]] (by rfl) rfl rfl (by (try simp only [List.map_toArray, List.map_cons, List.map_nil]); first | done | rfl | (simp only [List.length_drop, List.length_take]; rfl)) ?_
                                          with_reducible refine (spec_GridAreaText.calls kj14 t155 t156 t157 t158 t159 _ A27.out).mono ?_
                                          rintro e w49 ⟨rfl, hb⟩
                                          refine ⟨_, rfl, ?_⟩
                                          have n0_ := Aside0.mk (blk_below (g := gb144) (o := .cells #[.int .i64 a3_0, .int .i64 a3_1, .int .i64 a3_2, .int .i64 a3_3] 22 (0, 0)) (by (with_reducible repeat (first | refine blk_drewN ?_ _ | refine blk_drew ?_ | refine blk_alloc ?_ _)); exact BK144.out) hb)
                                          have n1_ := Aside0.mk (blk_below (g := gb145) (o := .cells #[.int .i64 a4_0, .int .i64 a4_1, .int .i64 a4_2, .int .i64 a4_3] 22 (0, 0)) (by (with_reducible repeat (first | refine blk_drewN ?_ _ | refine blk_drew ?_ | refine blk_alloc ?_ _)); exact BK145.out) hb)
                                          have n2_ := Aside0.mk (below_step (by repeat (first | (with_reducible first | exact HB.out | apply below_alloc | apply pw_below_drewN | apply below_drew1 | refine below_set ?_ GE144.out | refine below_set ?_ GE145.out) | exact HB.out)) hb)
                                          clear BK144
                                          clear BK145
                                          clear HB
                                          have BK144 := n0_
                                          have BK145 := n1_
                                          have HB := n2_
                                          clear n0_ n1_ n2_
                                          (try clear hb)
                                          (try clear hb2)
                                          (try clear hk)
                                          (try clear hi)
                                          refine hK.out _ _ ⟨(blk_cell BK144.out 0).trans rfl, (blk_cell BK144.out 1).trans rfl, (blk_cell BK144.out 2).trans rfl, (blk_cell BK144.out 3).trans rfl, (blk_cell BK145.out 0).trans rfl, (blk_cell BK145.out 1).trans rfl, (blk_cell BK145.out 2).trans rfl, (blk_cell BK145.out 3).trans rfl⟩ (fun hHeld => ?_)
                                          clear hK K
                                          refine norm_ (a' := ?_) ?_ ?_
                                          rotate_left
                                          · show Act.put _ (some 54) _ = _
                                            simp only [Act.put, List.setIfInBounds_toArray, List.set_cons_zero, List.set_cons_succ, i64_w, i32_w]
                                            rfl
                                          refine pure_ (i := 6) (N := some 11) (v := ?_) (a' := ?_) #[true, true, true, true, true, true, true, false] rfl rfl (any_of HT_.out (by kernel_rfl)) (fun _ _ _ h => h) (Or.inl ⟨by rfl, ?_⟩) ?_ ?_
                                          rotate_left
                                          · intro w'
                                            go_simp
                                            with_reducible rfl
                                          rotate_left
                                          · simp only [Act.put, List.setIfInBounds_toArray, List.set_cons_zero, List.set_cons_succ, i64_w, i32_w]
                                            rfl
                                          refine pure_ (i := 7) (N := some 12) (v := ?_) (a' := ?_) #[true, true, true, true, true, true, true, true] rfl rfl (any_of HT_.out (by kernel_rfl)) (fun _ _ _ h => h) (Or.inl ⟨by rfl, ?_⟩) ?_ ?_
                                          rotate_left
                                          · intro w'
                                            go_simp
                                            with_reducible rfl
                                          rotate_left
                                          · simp only [Act.put, List.setIfInBounds_toArray, List.set_cons_zero, List.set_cons_succ, i64_w, i32_w]
                                            rfl
                                          refine done_ (done_of HT_.out (by kernel_rfl)) ?_
                                          try go_wp2_with (first | ((with_reducible refine gate_callee (f := 35) rfl ?_); refine goesL_ (some 78) rfl rfl Tryd.func35 (by kernel_rfl) rfl #[.string ((((((t146 ++ (⟨#[33]⟩ : ByteArray)) ++ t154) ++ (⟨#[44]⟩ : ByteArray)) ++ t148) ++ (⟨#[33]⟩ : ByteArray)) ++ t159), .string t146, .string t147] rfl (by (try simp only [List.map_toArray, List.map_cons, List.map_nil]); first | done | rfl | (simp only [List.length_drop, List.length_take]; rfl)) ?_; (with_reducible refine (impl_Rename.calls kj14 ((((((t146 ++ (⟨#[33]⟩ : ByteArray)) ++ t154) ++ (⟨#[44]⟩ : ByteArray)) ++ t148) ++ (⟨#[33]⟩ : ByteArray)) ++ t159) t146 t147 t160 _ (Letters.Props.below HU.out (by repeat (first | (with_reducible first | exact HB.out | apply below_alloc | apply pw_below_drewN | apply below_drew1) | exact HB.out))) A40.out).mono ?_); rintro e w50 ⟨rfl, hb⟩; refine ⟨_, rfl, ?_⟩; have n0_ := Aside0.mk (blk_below (g := gb144) (o := .cells #[.int .i64 a3_0, .int .i64 a3_1, .int .i64 a3_2, .int .i64 a3_3] 22 (0, 0)) (by (with_reducible repeat (first | refine blk_drewN ?_ _ | refine blk_drew ?_ | refine blk_alloc ?_ _)); exact BK144.out) hb); have n1_ := Aside0.mk (blk_below (g := gb145) (o := .cells #[.int .i64 a4_0, .int .i64 a4_1, .int .i64 a4_2, .int .i64 a4_3] 22 (0, 0)) (by (with_reducible repeat (first | refine blk_drewN ?_ _ | refine blk_drew ?_ | refine blk_alloc ?_ _)); exact BK145.out) hb); have n2_ := Aside0.mk (below_step (by repeat (first | (with_reducible first | exact HB.out | apply below_alloc | apply pw_below_drewN | apply below_drew1 | refine below_set ?_ GE144.out | refine below_set ?_ GE145.out) | exact HB.out)) hb); clear BK144; clear BK145; clear HB; have BK144 := n0_; have BK145 := n1_; have HB := n2_; clear n0_ n1_ n2_; (try clear hb); (try clear hb2); (try clear hk); (try clear hi)) | (go_at_call 35; (with_reducible refine (impl_Rename.calls kj14 t160 t147 t146 t161 _ (Letters.Props.below HU.out (by repeat (first | (with_reducible first | exact HB.out | apply below_alloc | apply pw_below_drewN | apply below_drew1) | exact HB.out))) A42.out).mono ?_); rintro e w51 ⟨rfl, hb⟩; have n0_ := Aside0.mk (blk_below (g := gb144) (o := .cells #[.int .i64 a3_0, .int .i64 a3_1, .int .i64 a3_2, .int .i64 a3_3] 22 (0, 0)) (by (with_reducible repeat (first | refine blk_drewN ?_ _ | refine blk_drew ?_ | refine blk_alloc ?_ _)); exact BK144.out) hb); have n1_ := Aside0.mk (blk_below (g := gb145) (o := .cells #[.int .i64 a4_0, .int .i64 a4_1, .int .i64 a4_2, .int .i64 a4_3] 22 (0, 0)) (by (with_reducible repeat (first | refine blk_drewN ?_ _ | refine blk_drew ?_ | refine blk_alloc ?_ _)); exact BK145.out) hb); have n2_ := Aside0.mk (below_step (by repeat (first | (with_reducible first | exact HB.out | apply below_alloc | apply pw_below_drewN | apply below_drew1 | refine below_set ?_ GE144.out | refine below_set ?_ GE145.out) | exact HB.out)) hb); clear BK144; clear BK145; clear HB; have BK144 := n0_; have BK145 := n1_; have HB := n2_; clear n0_ n1_ n2_; (try clear hb); (try clear hb2); (try clear hk); (try clear hi)) | (go_at_call 14; (with_reducible refine (Go.Proofs.YtfbenlenihlpbaaDoor.Given.laws_refLives.calls  t162 _ A44.out).mono ?_); rintro e w52 ⟨rfl, hb⟩; have n0_ := Aside0.mk (blk_below (g := gb144) (o := .cells #[.int .i64 a3_0, .int .i64 a3_1, .int .i64 a3_2, .int .i64 a3_3] 22 (0, 0)) (by (with_reducible repeat (first | refine blk_drewN ?_ _ | refine blk_drew ?_ | refine blk_alloc ?_ _)); exact BK144.out) hb); have n1_ := Aside0.mk (blk_below (g := gb145) (o := .cells #[.int .i64 a4_0, .int .i64 a4_1, .int .i64 a4_2, .int .i64 a4_3] 22 (0, 0)) (by (with_reducible repeat (first | refine blk_drewN ?_ _ | refine blk_drew ?_ | refine blk_alloc ?_ _)); exact BK145.out) hb); have n2_ := Aside0.mk (below_step (by repeat (first | (with_reducible first | exact HB.out | apply below_alloc | apply pw_below_drewN | apply below_drew1 | refine below_set ?_ GE144.out | refine below_set ?_ GE145.out) | exact HB.out)) hb); clear BK144; clear BK145; clear HB; have BK144 := n0_; have BK145 := n1_; have HB := n2_; clear n0_ n1_ n2_; (try clear hb); (try clear hb2); (try clear hk); (try clear hi)))
                                          go_ret
                                          exact ⟨by first | rfl | (simp [errW_none, errW_some] <;> rfl) | (simp [*, errW_none, errW_some] <;> rfl), by repeat (first | (with_reducible first | exact HB.out | apply below_alloc | apply pw_below_drewN | apply below_drew1 | refine below_set ?_ GE144.out | refine below_set ?_ GE145.out) | exact HB.out)⟩
                                        · rw [if_neg c43] at H
                                          have c43b0 : (t161.toList == ((((((t146 ++ (⟨#[33]⟩ : ByteArray)) ++ t154) ++ (⟨#[44]⟩ : ByteArray)) ++ t148) ++ (⟨#[33]⟩ : ByteArray)) ++ t159).toList) = false := beq_eq_false_iff_ne.mpr c43
                                          have c43b1 : (t161.toList != ((((((t146 ++ (⟨#[33]⟩ : ByteArray)) ++ t154) ++ (⟨#[44]⟩ : ByteArray)) ++ t148) ++ (⟨#[33]⟩ : ByteArray)) ++ t159).toList) = true := bne_iff_ne.mpr c43
                                          obtain rfl := Option.some.inj H
                                          try go_wp2
                                          have n0_ := Aside0.mk (blk_drew BK144.out)
                                          have n1_ := Aside0.mk (blk_drew BK145.out)
                                          have n2_ := Aside0.mk (below_drew1 HB.out)
                                          clear BK144
                                          clear BK145
                                          clear HB
                                          have BK144 := n0_
                                          have BK145 := n1_
                                          have HB := n2_
                                          clear n0_ n1_ n2_
                                          refine start_ (n := 8) (S := fun w' => w'.cell? ⟨gb144, 0, none⟩ = some (.int .i64 a3_0) ∧ w'.cell? ⟨gb144, 1, none⟩ = some (.int .i64 a3_1) ∧ w'.cell? ⟨gb144, 2, none⟩ = some (.int .i64 a3_2) ∧ w'.cell? ⟨gb144, 3, none⟩ = some (.int .i64 a3_3) ∧ w'.cell? ⟨gb145, 0, none⟩ = some (.int .i64 a4_0) ∧ w'.cell? ⟨gb145, 1, none⟩ = some (.int .i64 a4_1) ∧ w'.cell? ⟨gb145, 2, none⟩ = some (.int .i64 a4_2) ∧ w'.cell? ⟨gb145, 3, none⟩ = some (.int .i64 a4_3)) (ds := []) #[false, false, false, false, false, false, false, false] (by kernel_rfl) rfl rfl ⟨(blk_cell BK144.out 0).trans rfl, (blk_cell BK144.out 1).trans rfl, (blk_cell BK144.out 2).trans rfl, (blk_cell BK144.out 3).trans rfl, (blk_cell BK145.out 0).trans rfl, (blk_cell BK145.out 1).trans rfl, (blk_cell BK145.out 2).trans rfl, (blk_cell BK145.out 3).trans rfl⟩ (fun hHeld => ?_); refine with_tabW laws_FnRename.tab6 laws_FnRename.bits6 (fun HT_ HW_ => ?_)
                                          generalize wc.drew = w53 at BK144 BK145 HB hHeld ⊢
                                          refine take_ (i := 0) (N := some 49) (v := ?_) (a' := ?_) #[true, false, false, false, false, false, false, false] rfl rfl (take_ofW HT_.out HW_.out (by kernel_rfl)) (fun _ _ _ h => h) (Or.inl ⟨by rfl, ?_⟩) hHeld ?_ ?_
                                          rotate_left
                                          · rintro w' ⟨s0, s1, s2, s3, s4, s5, s6, s7⟩
                                            go_simp
                                            with_reducible rfl
                                          rotate_left
                                          · simp only [Act.put, List.setIfInBounds_toArray, List.set_cons_zero, List.set_cons_succ, i64_w, i32_w]
                                            rfl
                                          refine take_ (i := 3) (N := some 52) (v := ?_) (a' := ?_) #[true, false, false, true, false, false, false, false] rfl rfl (take_ofW HT_.out HW_.out (by kernel_rfl)) (fun _ _ _ h => h) (Or.inl ⟨by rfl, ?_⟩) hHeld ?_ ?_
                                          rotate_left
                                          · rintro w' ⟨s0, s1, s2, s3, s4, s5, s6, s7⟩
                                            go_simp
                                            with_reducible rfl
                                          rotate_left
                                          · simp only [Act.put, List.setIfInBounds_toArray, List.set_cons_zero, List.set_cons_succ, i64_w, i32_w]
                                            rfl
                                          refine one_ (i := 1) (N := some 50) #[true, true, false, true, false, false, false, false] rfl rfl (one_of HT_.out (by kernel_rfl)) (by decide) (fun K hK => ?_)
                                          refine goes_ Tryd.func15 (by kernel_rfl) rfl #[.agg #[.int .i64 a3_0, .int .i64 a3_1, .int .i64 a3_2, .int .i64 a3_3]] (by rfl) rfl rfl (by (try simp only [List.map_toArray, List.map_cons, List.map_nil]); first | done | rfl | (simp only [List.length_drop, List.length_take]; rfl)) ?_
                                          with_reducible refine (spec_GridArea.calls kj14 a3_0 a3_1 a3_2 a3_3 t150 t151 t152 t153 _ A24.out).mono ?_
                                          rintro e w54 ⟨rfl, hb⟩
                                          refine ⟨_, rfl, ?_⟩
                                          have n0_ := Aside0.mk (blk_below (g := gb144) (o := .cells #[.int .i64 a3_0, .int .i64 a3_1, .int .i64 a3_2, .int .i64 a3_3] 22 (0, 0)) (by (with_reducible repeat (first | refine blk_drewN ?_ _ | refine blk_drew ?_ | refine blk_alloc ?_ _)); exact BK144.out) hb)
                                          have n1_ := Aside0.mk (blk_below (g := gb145) (o := .cells #[.int .i64 a4_0, .int .i64 a4_1, .int .i64 a4_2, .int .i64 a4_3] 22 (0, 0)) (by (with_reducible repeat (first | refine blk_drewN ?_ _ | refine blk_drew ?_ | refine blk_alloc ?_ _)); exact BK145.out) hb)
                                          have n2_ := Aside0.mk (below_step (by repeat (first | (with_reducible first | exact HB.out | apply below_alloc | apply pw_below_drewN | apply below_drew1 | refine below_set ?_ GE144.out | refine below_set ?_ GE145.out) | exact HB.out)) hb)
                                          clear BK144
                                          clear BK145
                                          clear HB
                                          have BK144 := n0_
                                          have BK145 := n1_
                                          have HB := n2_
                                          clear n0_ n1_ n2_
                                          (try clear hb)
                                          (try clear hb2)
                                          (try clear hk)
                                          (try clear hi)
                                          refine hK.out _ _ ⟨(blk_cell BK144.out 0).trans rfl, (blk_cell BK144.out 1).trans rfl, (blk_cell BK144.out 2).trans rfl, (blk_cell BK144.out 3).trans rfl, (blk_cell BK145.out 0).trans rfl, (blk_cell BK145.out 1).trans rfl, (blk_cell BK145.out 2).trans rfl, (blk_cell BK145.out 3).trans rfl⟩ (fun hHeld => ?_)
                                          clear hK K
                                          refine norm_ (a' := ?_) ?_ ?_
                                          rotate_left
                                          · show Act.put _ (some 50) _ = _
                                            simp only [Act.put, List.setIfInBounds_toArray, List.set_cons_zero, List.set_cons_succ, i64_w, i32_w]
                                            rfl
                                          refine one_ (i := 2) (N := some 51) #[true, true, true, true, false, false, false, false] rfl rfl (one_of HT_.out (by kernel_rfl)) (by decide) (fun K hK => ?_)
                                          refine goes_ Tryd.func34 (by kernel_rfl) rfl #[.agg #[.int .i64 t150, .int .i64 t151, .int .i64 t152, .int .i64 t153]] (by rfl) rfl rfl (by (try simp only [List.map_toArray, List.map_cons, List.map_nil]); first | done | rfl | (simp only [List.length_drop, List.length_take]; rfl)) ?_
                                          with_reducible refine (spec_GridAreaText.calls kj14 t150 t151 t152 t153 t154 _ A25.out).mono ?_
                                          rintro e w55 ⟨rfl, hb⟩
                                          refine ⟨_, rfl, ?_⟩
                                          have n0_ := Aside0.mk (blk_below (g := gb144) (o := .cells #[.int .i64 a3_0, .int .i64 a3_1, .int .i64 a3_2, .int .i64 a3_3] 22 (0, 0)) (by (with_reducible repeat (first | refine blk_drewN ?_ _ | refine blk_drew ?_ | refine blk_alloc ?_ _)); exact BK144.out) hb)
                                          have n1_ := Aside0.mk (blk_below (g := gb145) (o := .cells #[.int .i64 a4_0, .int .i64 a4_1, .int .i64 a4_2, .int .i64 a4_3] 22 (0, 0)) (by (with_reducible repeat (first | refine blk_drewN ?_ _ | refine blk_drew ?_ | refine blk_alloc ?_ _)); exact BK145.out) hb)
                                          have n2_ := Aside0.mk (below_step (by repeat (first | (with_reducible first | exact HB.out | apply below_alloc | apply pw_below_drewN | apply below_drew1 | refine below_set ?_ GE144.out | refine below_set ?_ GE145.out) | exact HB.out)) hb)
                                          clear BK144
                                          clear BK145
                                          clear HB
                                          have BK144 := n0_
                                          have BK145 := n1_
                                          have HB := n2_
                                          clear n0_ n1_ n2_
                                          (try clear hb)
                                          (try clear hb2)
                                          (try clear hk)
                                          (try clear hi)
                                          refine hK.out _ _ ⟨(blk_cell BK144.out 0).trans rfl, (blk_cell BK144.out 1).trans rfl, (blk_cell BK144.out 2).trans rfl, (blk_cell BK144.out 3).trans rfl, (blk_cell BK145.out 0).trans rfl, (blk_cell BK145.out 1).trans rfl, (blk_cell BK145.out 2).trans rfl, (blk_cell BK145.out 3).trans rfl⟩ (fun hHeld => ?_)
                                          clear hK K
                                          refine norm_ (a' := ?_) ?_ ?_
                                          rotate_left
                                          · show Act.put _ (some 51) _ = _
                                            simp only [Act.put, List.setIfInBounds_toArray, List.set_cons_zero, List.set_cons_succ, i64_w, i32_w]
                                            rfl
                                          refine one_ (i := 4) (N := some 53) #[true, true, true, true, true, false, false, false] rfl rfl (one_of HT_.out (by kernel_rfl)) (by decide) (fun K hK => ?_)
                                          refine goes_ Tryd.func15 (by kernel_rfl) rfl #[.agg #[.int .i64 a4_0, .int .i64 a4_1, .int .i64 a4_2, .int .i64 a4_3]] (by rfl) rfl rfl (by (try simp only [List.map_toArray, List.map_cons, List.map_nil]); first | done | rfl | (simp only [List.length_drop, List.length_take]; rfl)) ?_
                                          with_reducible refine (spec_GridArea.calls kj14 a4_0 a4_1 a4_2 a4_3 t155 t156 t157 t158 _ A26.out).mono ?_
                                          rintro e w56 ⟨rfl, hb⟩
                                          refine ⟨_, rfl, ?_⟩
                                          have n0_ := Aside0.mk (blk_below (g := gb144) (o := .cells #[.int .i64 a3_0, .int .i64 a3_1, .int .i64 a3_2, .int .i64 a3_3] 22 (0, 0)) (by (with_reducible repeat (first | refine blk_drewN ?_ _ | refine blk_drew ?_ | refine blk_alloc ?_ _)); exact BK144.out) hb)
                                          have n1_ := Aside0.mk (blk_below (g := gb145) (o := .cells #[.int .i64 a4_0, .int .i64 a4_1, .int .i64 a4_2, .int .i64 a4_3] 22 (0, 0)) (by (with_reducible repeat (first | refine blk_drewN ?_ _ | refine blk_drew ?_ | refine blk_alloc ?_ _)); exact BK145.out) hb)
                                          have n2_ := Aside0.mk (below_step (by repeat (first | (with_reducible first | exact HB.out | apply below_alloc | apply pw_below_drewN | apply below_drew1 | refine below_set ?_ GE144.out | refine below_set ?_ GE145.out) | exact HB.out)) hb)
                                          clear BK144
                                          clear BK145
                                          clear HB
                                          have BK144 := n0_
                                          have BK145 := n1_
                                          have HB := n2_
                                          clear n0_ n1_ n2_
                                          (try clear hb)
                                          (try clear hb2)
                                          (try clear hk)
                                          (try clear hi)
                                          refine hK.out _ _ ⟨(blk_cell BK144.out 0).trans rfl, (blk_cell BK144.out 1).trans rfl, (blk_cell BK144.out 2).trans rfl, (blk_cell BK144.out 3).trans rfl, (blk_cell BK145.out 0).trans rfl, (blk_cell BK145.out 1).trans rfl, (blk_cell BK145.out 2).trans rfl, (blk_cell BK145.out 3).trans rfl⟩ (fun hHeld => ?_)
                                          clear hK K
                                          refine norm_ (a' := ?_) ?_ ?_
                                          rotate_left
                                          · show Act.put _ (some 53) _ = _
                                            simp only [Act.put, List.setIfInBounds_toArray, List.set_cons_zero, List.set_cons_succ, i64_w, i32_w]
                                            rfl
                                          refine one_ (i := 5) (N := some 54) #[true, true, true, true, true, true, false, false] rfl rfl (one_of HT_.out (by kernel_rfl)) (by decide) (fun K hK => ?_)
                                          refine goes_ Tryd.func34 (by kernel_rfl) rfl #[.agg #[.int .i64 t155, .int .i64 t156, .int .i64 t157, .int .i64 t158]] (by rfl) rfl rfl (by (try simp only [List.map_toArray, List.map_cons, List.map_nil]); first | done | rfl | (simp only [List.length_drop, List.length_take]; rfl)) ?_
                                          with_reducible refine (spec_GridAreaText.calls kj14 t155 t156 t157 t158 t159 _ A27.out).mono ?_
                                          rintro e w57 ⟨rfl, hb⟩
                                          refine ⟨_, rfl, ?_⟩
                                          have n0_ := Aside0.mk (blk_below (g := gb144) (o := .cells #[.int .i64 a3_0, .int .i64 a3_1, .int .i64 a3_2, .int .i64 a3_3] 22 (0, 0)) (by (with_reducible repeat (first | refine blk_drewN ?_ _ | refine blk_drew ?_ | refine blk_alloc ?_ _)); exact BK144.out) hb)
                                          have n1_ := Aside0.mk (blk_below (g := gb145) (o := .cells #[.int .i64 a4_0, .int .i64 a4_1, .int .i64 a4_2, .int .i64 a4_3] 22 (0, 0)) (by (with_reducible repeat (first | refine blk_drewN ?_ _ | refine blk_drew ?_ | refine blk_alloc ?_ _)); exact BK145.out) hb)
                                          have n2_ := Aside0.mk (below_step (by repeat (first | (with_reducible first | exact HB.out | apply below_alloc | apply pw_below_drewN | apply below_drew1 | refine below_set ?_ GE144.out | refine below_set ?_ GE145.out) | exact HB.out)) hb)
                                          clear BK144
                                          clear BK145
                                          clear HB
                                          have BK144 := n0_
                                          have BK145 := n1_
                                          have HB := n2_
                                          clear n0_ n1_ n2_
                                          (try clear hb)
                                          (try clear hb2)
                                          (try clear hk)
                                          (try clear hi)
                                          refine hK.out _ _ ⟨(blk_cell BK144.out 0).trans rfl, (blk_cell BK144.out 1).trans rfl, (blk_cell BK144.out 2).trans rfl, (blk_cell BK144.out 3).trans rfl, (blk_cell BK145.out 0).trans rfl, (blk_cell BK145.out 1).trans rfl, (blk_cell BK145.out 2).trans rfl, (blk_cell BK145.out 3).trans rfl⟩ (fun hHeld => ?_)
                                          clear hK K
                                          refine norm_ (a' := ?_) ?_ ?_
                                          rotate_left
                                          · show Act.put _ (some 54) _ = _
                                            simp only [Act.put, List.setIfInBounds_toArray, List.set_cons_zero, List.set_cons_succ, i64_w, i32_w]
                                            rfl
                                          refine pure_ (i := 6) (N := some 11) (v := ?_) (a' := ?_) #[true, true, true, true, true, true, true, false] rfl rfl (any_of HT_.out (by kernel_rfl)) (fun _ _ _ h => h) (Or.inl ⟨by rfl, ?_⟩) ?_ ?_
                                          rotate_left
                                          · intro w'
                                            go_simp
                                            with_reducible rfl
                                          rotate_left
                                          · simp only [Act.put, List.setIfInBounds_toArray, List.set_cons_zero, List.set_cons_succ, i64_w, i32_w]
                                            rfl
                                          refine pure_ (i := 7) (N := some 12) (v := ?_) (a' := ?_) #[true, true, true, true, true, true, true, true] rfl rfl (any_of HT_.out (by kernel_rfl)) (fun _ _ _ h => h) (Or.inl ⟨by rfl, ?_⟩) ?_ ?_
                                          rotate_left
                                          · intro w'
                                            go_simp
                                            with_reducible rfl
                                          rotate_left
                                          · simp only [Act.put, List.setIfInBounds_toArray, List.set_cons_zero, List.set_cons_succ, i64_w, i32_w]
                                            rfl
                                          refine done_ (done_of HT_.out (by kernel_rfl)) ?_
                                          try go_wp2_with (first | ((with_reducible refine gate_callee (f := 35) rfl ?_); refine goesL_ (some 78) rfl rfl Tryd.func35 (by kernel_rfl) rfl #[.string ((((((t146 ++ (⟨#[33]⟩ : ByteArray)) ++ t154) ++ (⟨#[44]⟩ : ByteArray)) ++ t148) ++ (⟨#[33]⟩ : ByteArray)) ++ t159), .string t146, .string t147] rfl (by (try simp only [List.map_toArray, List.map_cons, List.map_nil]); first | done | rfl | (simp only [List.length_drop, List.length_take]; rfl)) ?_; (with_reducible refine (impl_Rename.calls kj14 ((((((t146 ++ (⟨#[33]⟩ : ByteArray)) ++ t154) ++ (⟨#[44]⟩ : ByteArray)) ++ t148) ++ (⟨#[33]⟩ : ByteArray)) ++ t159) t146 t147 t160 _ (Letters.Props.below HU.out (by repeat (first | (with_reducible first | exact HB.out | apply below_alloc | apply pw_below_drewN | apply below_drew1) | exact HB.out))) A40.out).mono ?_); rintro e w58 ⟨rfl, hb⟩; refine ⟨_, rfl, ?_⟩; have n0_ := Aside0.mk (blk_below (g := gb144) (o := .cells #[.int .i64 a3_0, .int .i64 a3_1, .int .i64 a3_2, .int .i64 a3_3] 22 (0, 0)) (by (with_reducible repeat (first | refine blk_drewN ?_ _ | refine blk_drew ?_ | refine blk_alloc ?_ _)); exact BK144.out) hb); have n1_ := Aside0.mk (blk_below (g := gb145) (o := .cells #[.int .i64 a4_0, .int .i64 a4_1, .int .i64 a4_2, .int .i64 a4_3] 22 (0, 0)) (by (with_reducible repeat (first | refine blk_drewN ?_ _ | refine blk_drew ?_ | refine blk_alloc ?_ _)); exact BK145.out) hb); have n2_ := Aside0.mk (below_step (by repeat (first | (with_reducible first | exact HB.out | apply below_alloc | apply pw_below_drewN | apply below_drew1 | refine below_set ?_ GE144.out | refine below_set ?_ GE145.out) | exact HB.out)) hb); clear BK144; clear BK145; clear HB; have BK144 := n0_; have BK145 := n1_; have HB := n2_; clear n0_ n1_ n2_; (try clear hb); (try clear hb2); (try clear hk); (try clear hi)) | (go_at_call 35; (with_reducible refine (impl_Rename.calls kj14 t160 t147 t146 t161 _ (Letters.Props.below HU.out (by repeat (first | (with_reducible first | exact HB.out | apply below_alloc | apply pw_below_drewN | apply below_drew1) | exact HB.out))) A42.out).mono ?_); rintro e w59 ⟨rfl, hb⟩; have n0_ := Aside0.mk (blk_below (g := gb144) (o := .cells #[.int .i64 a3_0, .int .i64 a3_1, .int .i64 a3_2, .int .i64 a3_3] 22 (0, 0)) (by (with_reducible repeat (first | refine blk_drewN ?_ _ | refine blk_drew ?_ | refine blk_alloc ?_ _)); exact BK144.out) hb); have n1_ := Aside0.mk (blk_below (g := gb145) (o := .cells #[.int .i64 a4_0, .int .i64 a4_1, .int .i64 a4_2, .int .i64 a4_3] 22 (0, 0)) (by (with_reducible repeat (first | refine blk_drewN ?_ _ | refine blk_drew ?_ | refine blk_alloc ?_ _)); exact BK145.out) hb); have n2_ := Aside0.mk (below_step (by repeat (first | (with_reducible first | exact HB.out | apply below_alloc | apply pw_below_drewN | apply below_drew1 | refine below_set ?_ GE144.out | refine below_set ?_ GE145.out) | exact HB.out)) hb); clear BK144; clear BK145; clear HB; have BK144 := n0_; have BK145 := n1_; have HB := n2_; clear n0_ n1_ n2_; (try clear hb); (try clear hb2); (try clear hk); (try clear hi)))
                                          go_ret
                                          exact ⟨by first | rfl | (simp [errW_none, errW_some] <;> rfl) | (simp [*, errW_none, errW_some] <;> rfl), by repeat (first | (with_reducible first | exact HB.out | apply below_alloc | apply pw_below_drewN | apply below_drew1 | refine below_set ?_ GE144.out | refine below_set ?_ GE145.out) | exact HB.out)⟩
                                      · rw [if_neg c41] at H
                                        have c41b0 : (t160.toList == ((((((t147 ++ (⟨#[33]⟩ : ByteArray)) ++ t154) ++ (⟨#[44]⟩ : ByteArray)) ++ t148) ++ (⟨#[33]⟩ : ByteArray)) ++ t159).toList) = false := beq_eq_false_iff_ne.mpr c41
                                        have c41b1 : (t160.toList != ((((((t147 ++ (⟨#[33]⟩ : ByteArray)) ++ t154) ++ (⟨#[44]⟩ : ByteArray)) ++ t148) ++ (⟨#[33]⟩ : ByteArray)) ++ t159).toList) = true := bne_iff_ne.mpr c41
                                        obtain rfl := Option.some.inj H
                                        try go_wp2
                                        have n0_ := Aside0.mk (blk_drew BK144.out)
                                        have n1_ := Aside0.mk (blk_drew BK145.out)
                                        have n2_ := Aside0.mk (below_drew1 HB.out)
                                        clear BK144
                                        clear BK145
                                        clear HB
                                        have BK144 := n0_
                                        have BK145 := n1_
                                        have HB := n2_
                                        clear n0_ n1_ n2_
                                        refine start_ (n := 8) (S := fun w' => w'.cell? ⟨gb144, 0, none⟩ = some (.int .i64 a3_0) ∧ w'.cell? ⟨gb144, 1, none⟩ = some (.int .i64 a3_1) ∧ w'.cell? ⟨gb144, 2, none⟩ = some (.int .i64 a3_2) ∧ w'.cell? ⟨gb144, 3, none⟩ = some (.int .i64 a3_3) ∧ w'.cell? ⟨gb145, 0, none⟩ = some (.int .i64 a4_0) ∧ w'.cell? ⟨gb145, 1, none⟩ = some (.int .i64 a4_1) ∧ w'.cell? ⟨gb145, 2, none⟩ = some (.int .i64 a4_2) ∧ w'.cell? ⟨gb145, 3, none⟩ = some (.int .i64 a4_3)) (ds := []) #[false, false, false, false, false, false, false, false] (by kernel_rfl) rfl rfl ⟨(blk_cell BK144.out 0).trans rfl, (blk_cell BK144.out 1).trans rfl, (blk_cell BK144.out 2).trans rfl, (blk_cell BK144.out 3).trans rfl, (blk_cell BK145.out 0).trans rfl, (blk_cell BK145.out 1).trans rfl, (blk_cell BK145.out 2).trans rfl, (blk_cell BK145.out 3).trans rfl⟩ (fun hHeld => ?_); refine with_tabW laws_FnRename.tab6 laws_FnRename.bits6 (fun HT_ HW_ => ?_)
                                        generalize wc.drew = w60 at BK144 BK145 HB hHeld ⊢
                                        refine take_ (i := 0) (N := some 49) (v := ?_) (a' := ?_) #[true, false, false, false, false, false, false, false] rfl rfl (take_ofW HT_.out HW_.out (by kernel_rfl)) (fun _ _ _ h => h) (Or.inl ⟨by rfl, ?_⟩) hHeld ?_ ?_
                                        rotate_left
                                        · rintro w' ⟨s0, s1, s2, s3, s4, s5, s6, s7⟩
                                          go_simp
                                          with_reducible rfl
                                        rotate_left
                                        · simp only [Act.put, List.setIfInBounds_toArray, List.set_cons_zero, List.set_cons_succ, i64_w, i32_w]
                                          rfl
                                        refine take_ (i := 3) (N := some 52) (v := ?_) (a' := ?_) #[true, false, false, true, false, false, false, false] rfl rfl (take_ofW HT_.out HW_.out (by kernel_rfl)) (fun _ _ _ h => h) (Or.inl ⟨by rfl, ?_⟩) hHeld ?_ ?_
                                        rotate_left
                                        · rintro w' ⟨s0, s1, s2, s3, s4, s5, s6, s7⟩
                                          go_simp
                                          with_reducible rfl
                                        rotate_left
                                        · simp only [Act.put, List.setIfInBounds_toArray, List.set_cons_zero, List.set_cons_succ, i64_w, i32_w]
                                          rfl
                                        refine one_ (i := 1) (N := some 50) #[true, true, false, true, false, false, false, false] rfl rfl (one_of HT_.out (by kernel_rfl)) (by decide) (fun K hK => ?_)
                                        refine goes_ Tryd.func15 (by kernel_rfl) rfl #[.agg #[.int .i64 a3_0, .int .i64 a3_1, .int .i64 a3_2, .int .i64 a3_3]] (by rfl) rfl rfl (by (try simp only [List.map_toArray, List.map_cons, List.map_nil]); first | done | rfl | (simp only [List.length_drop, List.length_take]; rfl)) ?_
                                        with_reducible refine (spec_GridArea.calls kj14 a3_0 a3_1 a3_2 a3_3 t150 t151 t152 t153 _ A24.out).mono ?_
                                        rintro e w61 ⟨rfl, hb⟩
                                        refine ⟨_, rfl, ?_⟩
                                        have n0_ := Aside0.mk (blk_below (g := gb144) (o := .cells #[.int .i64 a3_0, .int .i64 a3_1, .int .i64 a3_2, .int .i64 a3_3] 22 (0, 0)) (by (with_reducible repeat (first | refine blk_drewN ?_ _ | refine blk_drew ?_ | refine blk_alloc ?_ _)); exact BK144.out) hb)
                                        have n1_ := Aside0.mk (blk_below (g := gb145) (o := .cells #[.int .i64 a4_0, .int .i64 a4_1, .int .i64 a4_2, .int .i64 a4_3] 22 (0, 0)) (by (with_reducible repeat (first | refine blk_drewN ?_ _ | refine blk_drew ?_ | refine blk_alloc ?_ _)); exact BK145.out) hb)
                                        have n2_ := Aside0.mk (below_step (by repeat (first | (with_reducible first | exact HB.out | apply below_alloc | apply pw_below_drewN | apply below_drew1 | refine below_set ?_ GE144.out | refine below_set ?_ GE145.out) | exact HB.out)) hb)
                                        clear BK144
                                        clear BK145
                                        clear HB
                                        have BK144 := n0_
                                        have BK145 := n1_
                                        have HB := n2_
                                        clear n0_ n1_ n2_
                                        (try clear hb)
                                        (try clear hb2)
                                        (try clear hk)
                                        (try clear hi)
                                        refine hK.out _ _ ⟨(blk_cell BK144.out 0).trans rfl, (blk_cell BK144.out 1).trans rfl, (blk_cell BK144.out 2).trans rfl, (blk_cell BK144.out 3).trans rfl, (blk_cell BK145.out 0).trans rfl, (blk_cell BK145.out 1).trans rfl, (blk_cell BK145.out 2).trans rfl, (blk_cell BK145.out 3).trans rfl⟩ (fun hHeld => ?_)
                                        clear hK K
                                        refine norm_ (a' := ?_) ?_ ?_
                                        rotate_left
                                        · show Act.put _ (some 50) _ = _
                                          simp only [Act.put, List.setIfInBounds_toArray, List.set_cons_zero, List.set_cons_succ, i64_w, i32_w]
                                          rfl
                                        refine one_ (i := 2) (N := some 51) #[true, true, true, true, false, false, false, false] rfl rfl (one_of HT_.out (by kernel_rfl)) (by decide) (fun K hK => ?_)
                                        refine goes_ Tryd.func34 (by kernel_rfl) rfl #[.agg #[.int .i64 t150, .int .i64 t151, .int .i64 t152, .int .i64 t153]] (by rfl) rfl rfl (by (try simp only [List.map_toArray, List.map_cons, List.map_nil]); first | done | rfl | (simp only [List.length_drop, List.length_take]; rfl)) ?_
                                        with_reducible refine (spec_GridAreaText.calls kj14 t150 t151 t152 t153 t154 _ A25.out).mono ?_
                                        rintro e w62 ⟨rfl, hb⟩
                                        refine ⟨_, rfl, ?_⟩
                                        have n0_ := Aside0.mk (blk_below (g := gb144) (o := .cells #[.int .i64 a3_0, .int .i64 a3_1, .int .i64 a3_2, .int .i64 a3_3] 22 (0, 0)) (by (with_reducible repeat (first | refine blk_drewN ?_ _ | refine blk_drew ?_ | refine blk_alloc ?_ _)); exact BK144.out) hb)
                                        have n1_ := Aside0.mk (blk_below (g := gb145) (o := .cells #[.int .i64 a4_0, .int .i64 a4_1, .int .i64 a4_2, .int .i64 a4_3] 22 (0, 0)) (by (with_reducible repeat (first | refine blk_drewN ?_ _ | refine blk_drew ?_ | refine blk_alloc ?_ _)); exact BK145.out) hb)
                                        have n2_ := Aside0.mk (below_step (by repeat (first | (with_reducible first | exact HB.out | apply below_alloc | apply pw_below_drewN | apply below_drew1 | refine below_set ?_ GE144.out | refine below_set ?_ GE145.out) | exact HB.out)) hb)
                                        clear BK144
                                        clear BK145
                                        clear HB
                                        have BK144 := n0_
                                        have BK145 := n1_
                                        have HB := n2_
                                        clear n0_ n1_ n2_
                                        (try clear hb)
                                        (try clear hb2)
                                        (try clear hk)
                                        (try clear hi)
                                        refine hK.out _ _ ⟨(blk_cell BK144.out 0).trans rfl, (blk_cell BK144.out 1).trans rfl, (blk_cell BK144.out 2).trans rfl, (blk_cell BK144.out 3).trans rfl, (blk_cell BK145.out 0).trans rfl, (blk_cell BK145.out 1).trans rfl, (blk_cell BK145.out 2).trans rfl, (blk_cell BK145.out 3).trans rfl⟩ (fun hHeld => ?_)
                                        clear hK K
                                        refine norm_ (a' := ?_) ?_ ?_
                                        rotate_left
                                        · show Act.put _ (some 51) _ = _
                                          simp only [Act.put, List.setIfInBounds_toArray, List.set_cons_zero, List.set_cons_succ, i64_w, i32_w]
                                          rfl
                                        refine one_ (i := 4) (N := some 53) #[true, true, true, true, true, false, false, false] rfl rfl (one_of HT_.out (by kernel_rfl)) (by decide) (fun K hK => ?_)
                                        refine goes_ Tryd.func15 (by kernel_rfl) rfl #[.agg #[.int .i64 a4_0, .int .i64 a4_1, .int .i64 a4_2, .int .i64 a4_3]] (by rfl) rfl rfl (by (try simp only [List.map_toArray, List.map_cons, List.map_nil]); first | done | rfl | (simp only [List.length_drop, List.length_take]; rfl)) ?_
                                        with_reducible refine (spec_GridArea.calls kj14 a4_0 a4_1 a4_2 a4_3 t155 t156 t157 t158 _ A26.out).mono ?_
                                        rintro e w63 ⟨rfl, hb⟩
                                        refine ⟨_, rfl, ?_⟩
                                        have n0_ := Aside0.mk (blk_below (g := gb144) (o := .cells #[.int .i64 a3_0, .int .i64 a3_1, .int .i64 a3_2, .int .i64 a3_3] 22 (0, 0)) (by (with_reducible repeat (first | refine blk_drewN ?_ _ | refine blk_drew ?_ | refine blk_alloc ?_ _)); exact BK144.out) hb)
                                        have n1_ := Aside0.mk (blk_below (g := gb145) (o := .cells #[.int .i64 a4_0, .int .i64 a4_1, .int .i64 a4_2, .int .i64 a4_3] 22 (0, 0)) (by (with_reducible repeat (first | refine blk_drewN ?_ _ | refine blk_drew ?_ | refine blk_alloc ?_ _)); exact BK145.out) hb)
                                        have n2_ := Aside0.mk (below_step (by repeat (first | (with_reducible first | exact HB.out | apply below_alloc | apply pw_below_drewN | apply below_drew1 | refine below_set ?_ GE144.out | refine below_set ?_ GE145.out) | exact HB.out)) hb)
                                        clear BK144
                                        clear BK145
                                        clear HB
                                        have BK144 := n0_
                                        have BK145 := n1_
                                        have HB := n2_
                                        clear n0_ n1_ n2_
                                        (try clear hb)
                                        (try clear hb2)
                                        (try clear hk)
                                        (try clear hi)
                                        refine hK.out _ _ ⟨(blk_cell BK144.out 0).trans rfl, (blk_cell BK144.out 1).trans rfl, (blk_cell BK144.out 2).trans rfl, (blk_cell BK144.out 3).trans rfl, (blk_cell BK145.out 0).trans rfl, (blk_cell BK145.out 1).trans rfl, (blk_cell BK145.out 2).trans rfl, (blk_cell BK145.out 3).trans rfl⟩ (fun hHeld => ?_)
                                        clear hK K
                                        refine norm_ (a' := ?_) ?_ ?_
                                        rotate_left
                                        · show Act.put _ (some 53) _ = _
                                          simp only [Act.put, List.setIfInBounds_toArray, List.set_cons_zero, List.set_cons_succ, i64_w, i32_w]
                                          rfl
                                        refine one_ (i := 5) (N := some 54) #[true, true, true, true, true, true, false, false] rfl rfl (one_of HT_.out (by kernel_rfl)) (by decide) (fun K hK => ?_)
                                        refine goes_ Tryd.func34 (by kernel_rfl) rfl #[.agg #[.int .i64 t155, .int .i64 t156, .int .i64 t157, .int .i64 t158]] (by rfl) rfl rfl (by (try simp only [List.map_toArray, List.map_cons, List.map_nil]); first | done | rfl | (simp only [List.length_drop, List.length_take]; rfl)) ?_
                                        with_reducible refine (spec_GridAreaText.calls kj14 t155 t156 t157 t158 t159 _ A27.out).mono ?_
                                        rintro e w64 ⟨rfl, hb⟩
                                        refine ⟨_, rfl, ?_⟩
                                        have n0_ := Aside0.mk (blk_below (g := gb144) (o := .cells #[.int .i64 a3_0, .int .i64 a3_1, .int .i64 a3_2, .int .i64 a3_3] 22 (0, 0)) (by (with_reducible repeat (first | refine blk_drewN ?_ _ | refine blk_drew ?_ | refine blk_alloc ?_ _)); exact BK144.out) hb)
                                        have n1_ := Aside0.mk (blk_below (g := gb145) (o := .cells #[.int .i64 a4_0, .int .i64 a4_1, .int .i64 a4_2, .int .i64 a4_3] 22 (0, 0)) (by (with_reducible repeat (first | refine blk_drewN ?_ _ | refine blk_drew ?_ | refine blk_alloc ?_ _)); exact BK145.out) hb)
                                        have n2_ := Aside0.mk (below_step (by repeat (first | (with_reducible first | exact HB.out | apply below_alloc | apply pw_below_drewN | apply below_drew1 | refine below_set ?_ GE144.out | refine below_set ?_ GE145.out) | exact HB.out)) hb)
                                        clear BK144
                                        clear BK145
                                        clear HB
                                        have BK144 := n0_
                                        have BK145 := n1_
                                        have HB := n2_
                                        clear n0_ n1_ n2_
                                        (try clear hb)
                                        (try clear hb2)
                                        (try clear hk)
                                        (try clear hi)
                                        refine hK.out _ _ ⟨(blk_cell BK144.out 0).trans rfl, (blk_cell BK144.out 1).trans rfl, (blk_cell BK144.out 2).trans rfl, (blk_cell BK144.out 3).trans rfl, (blk_cell BK145.out 0).trans rfl, (blk_cell BK145.out 1).trans rfl, (blk_cell BK145.out 2).trans rfl, (blk_cell BK145.out 3).trans rfl⟩ (fun hHeld => ?_)
                                        clear hK K
                                        refine norm_ (a' := ?_) ?_ ?_
                                        rotate_left
                                        · show Act.put _ (some 54) _ = _
                                          simp only [Act.put, List.setIfInBounds_toArray, List.set_cons_zero, List.set_cons_succ, i64_w, i32_w]
                                          rfl
                                        refine pure_ (i := 6) (N := some 11) (v := ?_) (a' := ?_) #[true, true, true, true, true, true, true, false] rfl rfl (any_of HT_.out (by kernel_rfl)) (fun _ _ _ h => h) (Or.inl ⟨by rfl, ?_⟩) ?_ ?_
                                        rotate_left
                                        · intro w'
                                          go_simp
                                          with_reducible rfl
                                        rotate_left
                                        · simp only [Act.put, List.setIfInBounds_toArray, List.set_cons_zero, List.set_cons_succ, i64_w, i32_w]
                                          rfl
                                        refine pure_ (i := 7) (N := some 12) (v := ?_) (a' := ?_) #[true, true, true, true, true, true, true, true] rfl rfl (any_of HT_.out (by kernel_rfl)) (fun _ _ _ h => h) (Or.inl ⟨by rfl, ?_⟩) ?_ ?_
                                        rotate_left
                                        · intro w'
                                          go_simp
                                          with_reducible rfl
                                        rotate_left
                                        · simp only [Act.put, List.setIfInBounds_toArray, List.set_cons_zero, List.set_cons_succ, i64_w, i32_w]
                                          rfl
                                        refine done_ (done_of HT_.out (by kernel_rfl)) ?_
                                        try go_wp2_with (first | ((with_reducible refine gate_callee (f := 35) rfl ?_); refine goesL_ (some 78) rfl rfl Tryd.func35 (by kernel_rfl) rfl #[.string ((((((t146 ++ (⟨#[33]⟩ : ByteArray)) ++ t154) ++ (⟨#[44]⟩ : ByteArray)) ++ t148) ++ (⟨#[33]⟩ : ByteArray)) ++ t159), .string t146, .string t147] rfl (by (try simp only [List.map_toArray, List.map_cons, List.map_nil]); first | done | rfl | (simp only [List.length_drop, List.length_take]; rfl)) ?_; (with_reducible refine (impl_Rename.calls kj14 ((((((t146 ++ (⟨#[33]⟩ : ByteArray)) ++ t154) ++ (⟨#[44]⟩ : ByteArray)) ++ t148) ++ (⟨#[33]⟩ : ByteArray)) ++ t159) t146 t147 t160 _ (Letters.Props.below HU.out (by repeat (first | (with_reducible first | exact HB.out | apply below_alloc | apply pw_below_drewN | apply below_drew1) | exact HB.out))) A40.out).mono ?_); rintro e w65 ⟨rfl, hb⟩; refine ⟨_, rfl, ?_⟩; have n0_ := Aside0.mk (blk_below (g := gb144) (o := .cells #[.int .i64 a3_0, .int .i64 a3_1, .int .i64 a3_2, .int .i64 a3_3] 22 (0, 0)) (by (with_reducible repeat (first | refine blk_drewN ?_ _ | refine blk_drew ?_ | refine blk_alloc ?_ _)); exact BK144.out) hb); have n1_ := Aside0.mk (blk_below (g := gb145) (o := .cells #[.int .i64 a4_0, .int .i64 a4_1, .int .i64 a4_2, .int .i64 a4_3] 22 (0, 0)) (by (with_reducible repeat (first | refine blk_drewN ?_ _ | refine blk_drew ?_ | refine blk_alloc ?_ _)); exact BK145.out) hb); have n2_ := Aside0.mk (below_step (by repeat (first | (with_reducible first | exact HB.out | apply below_alloc | apply pw_below_drewN | apply below_drew1 | refine below_set ?_ GE144.out | refine below_set ?_ GE145.out) | exact HB.out)) hb); clear BK144; clear BK145; clear HB; have BK144 := n0_; have BK145 := n1_; have HB := n2_; clear n0_ n1_ n2_; (try clear hb); (try clear hb2); (try clear hk); (try clear hi)))
                                        go_ret
                                        exact ⟨by first | rfl | (simp [errW_none, errW_some] <;> rfl) | (simp [*, errW_none, errW_some] <;> rfl), by repeat (first | (with_reducible first | exact HB.out | apply below_alloc | apply pw_below_drewN | apply below_drew1 | refine below_set ?_ GE144.out | refine below_set ?_ GE145.out) | exact HB.out)⟩
                                    · rw [if_neg c39] at H
                                      exact absurd H (by simp)
                                  · rw [if_neg c38] at H
                                    exact absurd H (by simp)
                                · rw [if_neg c37] at H
                                  exact absurd H (by simp)
                              · rw [if_neg c36] at H
                                exact absurd H (by simp)
                            · rw [if_neg c35] at H
                              exact absurd H (by simp)
                          · rw [if_neg c34] at H
                            exact absurd H (by simp)
                        · rw [if_neg c33] at H
                          exact absurd H (by simp)
                      · rw [if_neg c32] at H
                        exact absurd H (by simp)
                    · rw [if_neg c31] at H
                      exact absurd H (by simp)
                  · rw [if_neg c30] at H
                    exact absurd H (by simp)
                · rw [if_neg c29] at H
                  exact absurd H (by simp)
              · rw [if_neg c28] at H
                exact absurd H (by simp)

end Go.Proofs.YtfbenlenihlpbaaDoor.PRn
