/- Contracts of functions that the text "Rn" uses: the call ends in what the plain Lean function says, where that says something. Written by a program of this session. No conditions. -/
import Derived.Test.YtfbenlenihlpbaaDoorPRnx0
import Derived.Test.YtfbenlenihlpbaaDoorPRnx1
namespace Go.Proofs.YtfbenlenihlpbaaDoor.PRn
open Go.RowKit Go.Proofs.YtfbenlenihlpbaaDoorW.PrintWords Go.Proofs.YtfbenlenihlpbaaDoorW.PrintLast Go.Proofs.YtfbenlenihlpbaaDoorW.PrintMore
attribute [local go_sem] max2_int min2_int max_two min_two max_three min_three max_four min_four   -- for this text's walks alone
set_option linter.unusedVariables false
set_option linter.unusedSimpArgs false

/-! ### spec_GridAreaText: function 34 -/
def spec_GridAreaText.f (k : Nat) (a0_0 : Int) (a0_1 : Int) (a0_2 : Int) (a0_3 : Int) : Option (ByteArray) := (spec_CellName.f k a0_0 a0_1 false).bind fun bt115 => ((spec_CellName.f k a0_2 a0_3 false).bind fun bt117 => (if bt115.1.size + 1 ≤ 9223372036854775807 then (if (bt115.1 ++ (⟨#[58]⟩ : ByteArray)).size + bt117.1.size ≤ 9223372036854775807 then (some ((bt115.1 ++ (⟨#[58]⟩ : ByteArray)) ++ bt117.1)) else (none)) else (none)))
theorem spec_GridAreaText.mono : ∀ a0 a1 a2 a3 k, LeO (spec_GridAreaText.f k a0 a1 a2 a3) (spec_GridAreaText.f (k + 1) a0 a1 a2 a3) := by
  intro a0 a1 a2 a3 k
  unfold spec_GridAreaText.f
  repeat' first
      | (with_reducible exact spec_CellName.mono _ _ _ _)
      | (with_reducible exact LeO.refl _)
      | (with_reducible exact LeO.none _)
      | (with_reducible refine LeO.ite ?_ ?_)
      | (with_reducible refine LeO.bind ?_ (fun _ => ?_))
      | exact spec_CellName.mono _ _ _ _
      | exact LeO.none _
      | refine LeO.ite ?_ ?_
      | refine LeO.bind ?_ (fun _ => ?_)
set_option maxHeartbeats 8000000 in
set_option maxRecDepth 100000 in
theorem spec_GridAreaText.calls (k : Nat) (a0_0 : Int) (a0_1 : Int) (a0_2 : Int) (a0_3 : Int) (r : ByteArray) (w : World) (h : spec_GridAreaText.f k a0_0 a0_1 a0_2 a0_3 = some r) :
    Calls Tryd.prog 34 #[.agg #[.int .i64 a0_0, .int .i64 a0_1, .int .i64 a0_2, .int .i64 a0_3]] w fun e w' => e = .returned (.string r) ∧ Below w.heap.size w w' := by
  have hu22 := Tryd.underlying22
  have HB := Aside0.mk (Below.refl w.heap.size w)
  have H : ((spec_CellName.f k a0_0 a0_1 false).bind fun bt115 => ((spec_CellName.f k a0_2 a0_3 false).bind fun bt117 => (if bt115.1.size + 1 ≤ 9223372036854775807 then (if (bt115.1 ++ (⟨#[58]⟩ : ByteArray)).size + bt117.1.size ≤ 9223372036854775807 then (some ((bt115.1 ++ (⟨#[58]⟩ : ByteArray)) ++ bt117.1)) else (none)) else (none)))) = some r := h
  clear h
  replace H := Option.bind_eq_some_iff.mp H
  obtain ⟨⟨t115, t116⟩, A20, H⟩ := H
  replace H : ((spec_CellName.f k a0_2 a0_3 false).bind fun bt117 => (if t115.size + 1 ≤ 9223372036854775807 then (if (t115 ++ (⟨#[58]⟩ : ByteArray)).size + bt117.1.size ≤ 9223372036854775807 then (some ((t115 ++ (⟨#[58]⟩ : ByteArray)) ++ bt117.1)) else (none)) else (none))) = some r := H
  have A2 := Aside0.mk A20
  clear A20
  replace H := Option.bind_eq_some_iff.mp H
  obtain ⟨⟨t117, t118⟩, A30, H⟩ := H
  replace H : (if t115.size + 1 ≤ 9223372036854775807 then (if (t115 ++ (⟨#[58]⟩ : ByteArray)).size + t117.size ≤ 9223372036854775807 then (some ((t115 ++ (⟨#[58]⟩ : ByteArray)) ++ t117)) else (none)) else (none)) = some r := H
  have A3 := Aside0.mk A30
  clear A30
  by_cases c4 : t115.size + 1 ≤ 9223372036854775807
  · rw [if_pos c4] at H
    have c4b0 := eq_true c4
    have c4b1 : decide (t115.size + 1 ≤ 9223372036854775807) = true := decide_eq_true c4
    try have c4b2 : (9223372036854775807 < t115.size + 1) = False := eq_false (Nat.not_lt.2 c4)
    have c4z := c4
    (try simp only [ByteArray.size_append, show ∀ x_ : UInt8, (⟨#[x_]⟩ : ByteArray).size = 1 from fun _ => rfl] at c4z)
    by_cases c5 : (t115 ++ (⟨#[58]⟩ : ByteArray)).size + t117.size ≤ 9223372036854775807
    · rw [if_pos c5] at H
      have c5b0 := eq_true c5
      have c5b1 : decide ((t115 ++ (⟨#[58]⟩ : ByteArray)).size + t117.size ≤ 9223372036854775807) = true := decide_eq_true c5
      try have c5b2 : (9223372036854775807 < (t115 ++ (⟨#[58]⟩ : ByteArray)).size + t117.size) = False := eq_false (Nat.not_lt.2 c5)
      have c5z := c5
      (try simp only [ByteArray.size_append, show ∀ x_ : UInt8, (⟨#[x_]⟩ : ByteArray).size = 1 from fun _ => rfl] at c5z)
      obtain rfl := Option.some.inj H
      go_enter Tryd.func34, Tryd.ntmps34
      go_wp2_with (first | ((with_reducible refine gate_dst (N := 1) rfl ?_); refine box_event ?hg (N := 1) ?hd (cs := #[.int .i64 a0_0, .int .i64 a0_1, .int .i64 a0_2, .int .i64 a0_3]) (t := 22) ?hr ?_; (case hd => rfl); (case hg => rfl); (case hr => first | (go_simp; done) | (go_simp; rfl)); intro gb114 hg w6 hbox hb; have n0_ := Aside0.mk (below_step (by repeat (first | (with_reducible first | exact HB.out | apply below_alloc | apply pw_below_drewN | apply below_drew1) | exact HB.out)) hb); have n1_ := Aside0.mk (hbox); have n2_ := Aside0.mk ((by rw [hg]; exact (below_size (by repeat (first | (with_reducible first | exact HB.out | apply below_alloc | apply pw_below_drewN | apply below_drew1) | exact HB.out))) : w.heap.size ≤ gb114)); have n3_ := Aside0.mk ((by rw [hg]; exact (below_size (by repeat (first | (with_reducible first | exact HB.out | apply below_alloc | apply pw_below_drewN | apply below_drew1) | exact HB.out))) : w.heap.size ≤ gb114)); clear HB; have HB := n0_; have BK114 := n1_; have GW114 := n2_; have GE114 := n3_; clear n0_ n1_ n2_ n3_; clear hb hbox hg; have hcz7_0 : w6.cell? ⟨gb114, 0, none⟩ = some (.int .i64 a0_0) := (blk_cell BK114.out 0).trans rfl; have hcz7_1 : w6.cell? ⟨gb114, 1, none⟩ = some (.int .i64 a0_1) := (blk_cell BK114.out 1).trans rfl; have hcz7_2 : w6.cell? ⟨gb114, 2, none⟩ = some (.int .i64 a0_2) := (blk_cell BK114.out 2).trans rfl; have hcz7_3 : w6.cell? ⟨gb114, 3, none⟩ = some (.int .i64 a0_3) := (blk_cell BK114.out 3).trans rfl; have hfz7_0 := blk_frozen BK114.out 0; have hfz7_1 := blk_frozen BK114.out 1; have hfz7_2 := blk_frozen BK114.out 2; have hfz7_3 := blk_frozen BK114.out 3) | ((with_reducible refine gate_callee (f := 11) rfl ?_); refine goesL_ (some 12) rfl rfl Tryd.func11 (by kernel_rfl) rfl #[.int .i64 a0_0, .int .i64 a0_1, .bool false] rfl (by (try simp only [List.map_toArray, List.map_cons, List.map_nil]); first | done | rfl | (simp only [List.length_drop, List.length_take]; rfl)) ?_; (with_reducible refine (spec_CellName.calls k a0_0 a0_1 false t115 t116 _ A2.out).mono ?_); rintro e w8 ⟨rfl, hb⟩; refine ⟨_, rfl, ?_⟩; have n0_ := Aside0.mk (blk_below (g := gb114) (o := .cells #[.int .i64 a0_0, .int .i64 a0_1, .int .i64 a0_2, .int .i64 a0_3] 22 (0, 0)) (by (with_reducible repeat (first | refine blk_drewN ?_ _ | refine blk_drew ?_ | refine blk_alloc ?_ _)); exact BK114.out) hb); have n1_ := Aside0.mk (below_step (by repeat (first | (with_reducible first | exact HB.out | apply below_alloc | apply pw_below_drewN | apply below_drew1 | refine below_set ?_ GE114.out) | exact HB.out)) hb); clear BK114; clear HB; have BK114 := n0_; have HB := n1_; clear n0_ n1_; (try clear hb); (try clear hb2); (try clear hk); (try clear hi); have hcz9_0 : w8.cell? ⟨gb114, 0, none⟩ = some (.int .i64 a0_0) := (blk_cell BK114.out 0).trans rfl; have hcz9_1 : w8.cell? ⟨gb114, 1, none⟩ = some (.int .i64 a0_1) := (blk_cell BK114.out 1).trans rfl; have hcz9_2 : w8.cell? ⟨gb114, 2, none⟩ = some (.int .i64 a0_2) := (blk_cell BK114.out 2).trans rfl; have hcz9_3 : w8.cell? ⟨gb114, 3, none⟩ = some (.int .i64 a0_3) := (blk_cell BK114.out 3).trans rfl; have hfz9_0 := blk_frozen BK114.out 0; have hfz9_1 := blk_frozen BK114.out 1; have hfz9_2 := blk_frozen BK114.out 2; have hfz9_3 := blk_frozen BK114.out 3) | ((with_reducible refine gate_callee (f := 11) rfl ?_); refine goesL_ (some 20) rfl rfl Tryd.func11 (by kernel_rfl) rfl #[.int .i64 a0_2, .int .i64 a0_3, .bool false] rfl (by (try simp only [List.map_toArray, List.map_cons, List.map_nil]); first | done | rfl | (simp only [List.length_drop, List.length_take]; rfl)) ?_; (with_reducible refine (spec_CellName.calls k a0_2 a0_3 false t117 t118 _ A3.out).mono ?_); rintro e w10 ⟨rfl, hb⟩; refine ⟨_, rfl, ?_⟩; have n0_ := Aside0.mk (blk_below (g := gb114) (o := .cells #[.int .i64 a0_0, .int .i64 a0_1, .int .i64 a0_2, .int .i64 a0_3] 22 (0, 0)) (by (with_reducible repeat (first | refine blk_drewN ?_ _ | refine blk_drew ?_ | refine blk_alloc ?_ _)); exact BK114.out) hb); have n1_ := Aside0.mk (below_step (by repeat (first | (with_reducible first | exact HB.out | apply below_alloc | apply pw_below_drewN | apply below_drew1 | refine below_set ?_ GE114.out) | exact HB.out)) hb); clear BK114; clear HB; have BK114 := n0_; have HB := n1_; clear n0_ n1_; (try clear hb); (try clear hb2); (try clear hk); (try clear hi)))
      go_ret
      exact ⟨by first | rfl | (simp [errW_none, errW_some] <;> rfl) | (simp [*, errW_none, errW_some] <;> rfl), by repeat (first | (with_reducible first | exact HB.out | apply below_alloc | apply pw_below_drewN | apply below_drew1 | refine below_set ?_ GE114.out) | exact HB.out)⟩
    · rw [if_neg c5] at H
      exact absurd H (by simp)
  · rw [if_neg c4] at H
    exact absurd H (by simp)

/-! ### excelize_adjustRangeSheetName: function 65 -/
mutual
def excelize_adjustRangeSheetName.l0 : Nat → ByteArray → ByteArray → List ByteArray → Int → Int → Option (ByteArray)
  | 0, _, _, _, _, _ => none
  | k + 1, x1, x2, x7, x21, x22 => if x22 < x21 then (if 0 ≤ x22 then (if x22 < (x7.length : Int) then ((Go.Proofs.YtfbenlenihlpbaaDoor.PFnCols.excelize_zzSplit.f k (rdOf ByteArray.empty x7 x22) (⟨#[58]⟩ : ByteArray)).bind fun t125 => (excelize_adjustRangeSheetName.l1 k x1 x2 x7 x22 t125 x21 x22 (t125.length : Int) 0)) else (none)) else (none)) else ((Go.Proofs.YtfbenlenihlpbaaDoor.Given.strings_Join.f x7 (⟨#[44]⟩ : ByteArray)).bind fun t123 => (some t123))
def excelize_adjustRangeSheetName.l1 : Nat → ByteArray → ByteArray → List ByteArray → Int → List ByteArray → Int → Int → Int → Int → Option (ByteArray)
  | 0, _, _, _, _, _, _, _, _, _ => none
  | k + 1, x1, x2, x7, x8, x10, x21, x22, x30, x31 => if x31 < x30 then (if 0 ≤ x31 then (if x31 < (x10.length : Int) then ((Go.Proofs.YtfbenlenihlpbaaDoor.PFnCols.excelize_zzSplit.f k (rdOf ByteArray.empty x10 x31) (⟨#[33]⟩ : ByteArray)).bind fun t131 => (excelize_adjustRangeSheetName.l2 k x1 x2 x7 x8 x10 x31 t131 x21 x22 x30 x31 (t131.length : Int) 0)) else (none)) else (none)) else ((Go.Proofs.YtfbenlenihlpbaaDoor.Given.strings_Join.f x10 (⟨#[58]⟩ : ByteArray)).bind fun t128 => (if 0 ≤ x8 then (if x8 < (x7.length : Int) then (excelize_adjustRangeSheetName.l0 k x1 x2 (x7.set (x8 : Int).toNat t128) x21 (wrap64 (x22 + 1))) else (none)) else (none)))
def excelize_adjustRangeSheetName.l2 : Nat → ByteArray → ByteArray → List ByteArray → Int → List ByteArray → Int → List ByteArray → Int → Int → Int → Int → Int → Int → Option (ByteArray)
  | 0, _, _, _, _, _, _, _, _, _, _, _, _, _ => none
  | k + 1, x1, x2, x7, x8, x10, x11, x13, x21, x22, x30, x31, x39, x40 => if x40 < x39 then (if 0 ≤ x40 then (if x40 < (x13.length : Int) then ((Go.Proofs.YtfbenlenihlpbaaDoor.Given.strings_TrimSuffix.f (rdOf ByteArray.empty x13 x40) (⟨#[39]⟩ : ByteArray)).bind fun t137 => ((Go.Proofs.YtfbenlenihlpbaaDoor.Given.strings_TrimPrefix.f t137 (⟨#[39]⟩ : ByteArray)).bind fun t138 => (if t138.toList = x1.toList then ((Go.Proofs.YtfbenlenihlpbaaDoor.Given.excelize_escapeSheetName.f x2).bind fun t139 => (excelize_adjustRangeSheetName.l2 k x1 x2 x7 x8 x10 x11 (x13.set (x40 : Int).toNat t139) x21 x22 x30 x31 x39 (wrap64 (x40 + 1)))) else (excelize_adjustRangeSheetName.l2 k x1 x2 x7 x8 x10 x11 (x13.set (x40 : Int).toNat (rdOf ByteArray.empty x13 x40)) x21 x22 x30 x31 x39 (wrap64 (x40 + 1)))))) else (none)) else (none)) else ((Go.Proofs.YtfbenlenihlpbaaDoor.Given.strings_Join.f x13 (⟨#[33]⟩ : ByteArray)).bind fun t134 => (if 0 ≤ x11 then (if x11 < (x10.length : Int) then (excelize_adjustRangeSheetName.l1 k x1 x2 x7 x8 (x10.set (x11 : Int).toNat t134) x21 x22 x30 (wrap64 (x31 + 1))) else (none)) else (none)))
end
def excelize_adjustRangeSheetName.f (k : Nat) (a0 : ByteArray) (a1 : ByteArray) (a2 : ByteArray) : Option (ByteArray) := (Go.Proofs.YtfbenlenihlpbaaDoor.Given.excelize_escapeSheetName.f a1).bind fun t119 => ((Go.Proofs.YtfbenlenihlpbaaDoor.PFnCols.excelize_zzSplit.f k a0 (⟨#[44]⟩ : ByteArray)).bind fun t120 => (excelize_adjustRangeSheetName.l0 k t119 a2 t120 (t120.length : Int) 0))
theorem excelize_adjustRangeSheetName.mono_l : ∀ k, (∀ y0 y1 y2 y3 y4, LeO (excelize_adjustRangeSheetName.l0 k y0 y1 y2 y3 y4) (excelize_adjustRangeSheetName.l0 (k + 1) y0 y1 y2 y3 y4)) ∧ (∀ y0 y1 y2 y3 y4 y5 y6 y7 y8, LeO (excelize_adjustRangeSheetName.l1 k y0 y1 y2 y3 y4 y5 y6 y7 y8) (excelize_adjustRangeSheetName.l1 (k + 1) y0 y1 y2 y3 y4 y5 y6 y7 y8)) ∧ (∀ y0 y1 y2 y3 y4 y5 y6 y7 y8 y9 y10 y11 y12, LeO (excelize_adjustRangeSheetName.l2 k y0 y1 y2 y3 y4 y5 y6 y7 y8 y9 y10 y11 y12) (excelize_adjustRangeSheetName.l2 (k + 1) y0 y1 y2 y3 y4 y5 y6 y7 y8 y9 y10 y11 y12))
  | 0 => ⟨fun _ _ _ _ _ r h => by simp [excelize_adjustRangeSheetName.l0] at h, fun _ _ _ _ _ _ _ _ _ r h => by simp [excelize_adjustRangeSheetName.l1] at h, fun _ _ _ _ _ _ _ _ _ _ _ _ _ r h => by simp [excelize_adjustRangeSheetName.l2] at h⟩
  | k + 1 => by
    obtain ⟨ih0, ih1, ih2⟩ := excelize_adjustRangeSheetName.mono_l k
    refine ⟨?_, ?_, ?_⟩
    · intro y0 y1 y2 y3 y4
      unfold excelize_adjustRangeSheetName.l0
      repeat' first
      | (with_reducible exact ih0 _ _ _ _ _)
      | (with_reducible exact ih1 _ _ _ _ _ _ _ _ _)
      | (with_reducible exact ih2 _ _ _ _ _ _ _ _ _ _ _ _ _)
      | (with_reducible exact Go.Proofs.YtfbenlenihlpbaaDoor.PFnCols.excelize_zzSplit.mono _ _ _)
      | (with_reducible exact LeO.refl _)
      | (with_reducible exact LeO.none _)
      | (with_reducible refine LeO.ite ?_ ?_)
      | (with_reducible refine LeO.bind ?_ (fun _ => ?_))
      | exact ih0 _ _ _ _ _
      | exact ih1 _ _ _ _ _ _ _ _ _
      | exact ih2 _ _ _ _ _ _ _ _ _ _ _ _ _
      | exact Go.Proofs.YtfbenlenihlpbaaDoor.PFnCols.excelize_zzSplit.mono _ _ _
      | exact LeO.none _
      | refine LeO.ite ?_ ?_
      | refine LeO.bind ?_ (fun _ => ?_)
    · intro y0 y1 y2 y3 y4 y5 y6 y7 y8
      unfold excelize_adjustRangeSheetName.l1
      repeat' first
      | (with_reducible exact ih0 _ _ _ _ _)
      | (with_reducible exact ih1 _ _ _ _ _ _ _ _ _)
      | (with_reducible exact ih2 _ _ _ _ _ _ _ _ _ _ _ _ _)
      | (with_reducible exact Go.Proofs.YtfbenlenihlpbaaDoor.PFnCols.excelize_zzSplit.mono _ _ _)
      | (with_reducible exact LeO.refl _)
      | (with_reducible exact LeO.none _)
      | (with_reducible refine LeO.ite ?_ ?_)
      | (with_reducible refine LeO.bind ?_ (fun _ => ?_))
      | exact ih0 _ _ _ _ _
      | exact ih1 _ _ _ _ _ _ _ _ _
      | exact ih2 _ _ _ _ _ _ _ _ _ _ _ _ _
      | exact Go.Proofs.YtfbenlenihlpbaaDoor.PFnCols.excelize_zzSplit.mono _ _ _
      | exact LeO.none _
      | refine LeO.ite ?_ ?_
      | refine LeO.bind ?_ (fun _ => ?_)
    · intro y0 y1 y2 y3 y4 y5 y6 y7 y8 y9 y10 y11 y12
      unfold excelize_adjustRangeSheetName.l2
      repeat' first
      | (with_reducible exact ih0 _ _ _ _ _)
      | (with_reducible exact ih1 _ _ _ _ _ _ _ _ _)
      | (with_reducible exact ih2 _ _ _ _ _ _ _ _ _ _ _ _ _)
      | (with_reducible exact Go.Proofs.YtfbenlenihlpbaaDoor.PFnCols.excelize_zzSplit.mono _ _ _)
      | (with_reducible exact LeO.refl _)
      | (with_reducible exact LeO.none _)
      | (with_reducible refine LeO.ite ?_ ?_)
      | (with_reducible refine LeO.bind ?_ (fun _ => ?_))
      | exact ih0 _ _ _ _ _
      | exact ih1 _ _ _ _ _ _ _ _ _
      | exact ih2 _ _ _ _ _ _ _ _ _ _ _ _ _
      | exact Go.Proofs.YtfbenlenihlpbaaDoor.PFnCols.excelize_zzSplit.mono _ _ _
      | exact LeO.none _
      | refine LeO.ite ?_ ?_
      | refine LeO.bind ?_ (fun _ => ?_)
theorem excelize_adjustRangeSheetName.mono : ∀ a0 a1 a2 k, LeO (excelize_adjustRangeSheetName.f k a0 a1 a2) (excelize_adjustRangeSheetName.f (k + 1) a0 a1 a2) := by
  intro a0 a1 a2 k
  obtain ⟨ih0, ih1, ih2⟩ := excelize_adjustRangeSheetName.mono_l k
  unfold excelize_adjustRangeSheetName.f
  repeat' first
      | (with_reducible exact ih0 _ _ _ _ _)
      | (with_reducible exact ih1 _ _ _ _ _ _ _ _ _)
      | (with_reducible exact ih2 _ _ _ _ _ _ _ _ _ _ _ _ _)
      | (with_reducible exact Go.Proofs.YtfbenlenihlpbaaDoor.PFnCols.excelize_zzSplit.mono _ _ _)
      | (with_reducible exact LeO.refl _)
      | (with_reducible exact LeO.none _)
      | (with_reducible refine LeO.ite ?_ ?_)
      | (with_reducible refine LeO.bind ?_ (fun _ => ?_))
      | exact ih0 _ _ _ _ _
      | exact ih1 _ _ _ _ _ _ _ _ _
      | exact ih2 _ _ _ _ _ _ _ _ _ _ _ _ _
      | exact Go.Proofs.YtfbenlenihlpbaaDoor.PFnCols.excelize_zzSplit.mono _ _ _
      | exact LeO.none _
      | refine LeO.ite ?_ ?_
      | refine LeO.bind ?_ (fun _ => ?_)
set_option maxHeartbeats 8000000 in
set_option maxRecDepth 100000 in
theorem excelize_adjustRangeSheetName.calls (k : Nat) (a0 : ByteArray) (a1 : ByteArray) (a2 : ByteArray) (r : ByteArray) (w : World) (hU : Letters.Props w) (h : excelize_adjustRangeSheetName.f k a0 a1 a2 = some r) :
    Calls Tryd.prog 65 #[.string a0, .string a1, .string a2] w fun e w' => e = .returned (.string r) ∧ Below w.heap.size w w' := by
  have HU := Aside0.mk hU
  clear hU
  have HB := Aside0.mk (Below.refl w.heap.size w)
  have H : ((Go.Proofs.YtfbenlenihlpbaaDoor.Given.excelize_escapeSheetName.f a1).bind fun t119 => ((Go.Proofs.YtfbenlenihlpbaaDoor.PFnCols.excelize_zzSplit.f k a0 (⟨#[44]⟩ : ByteArray)).bind fun t120 => (excelize_adjustRangeSheetName.l0 k t119 a2 t120 (t120.length : Int) 0))) = some r := h
  clear h
  replace H := Option.bind_eq_some_iff.mp H
  obtain ⟨t119, A40, H⟩ := H
  replace H : ((Go.Proofs.YtfbenlenihlpbaaDoor.PFnCols.excelize_zzSplit.f k a0 (⟨#[44]⟩ : ByteArray)).bind fun t120 => (excelize_adjustRangeSheetName.l0 k t119 a2 t120 (t120.length : Int) 0)) = some r := H
  have A4 := Aside0.mk A40
  clear A40
  replace H := Option.bind_eq_some_iff.mp H
  obtain ⟨t120, A50, H⟩ := H
  replace H : (excelize_adjustRangeSheetName.l0 k t119 a2 t120 (t120.length : Int) 0) = some r := H
  have A5 := Aside0.mk A50
  clear A50
  have H' := Aside0.mk H
  clear H
  go_enter Tryd.func65, Tryd.ntmps65
  go_wp2_with (first | ((with_reducible refine gate_callee (f := 77) rfl ?_); refine goesL_ (some 17) rfl rfl Tryd.func77 (by kernel_rfl) rfl #[.string a1] rfl (by (try simp only [List.map_toArray, List.map_cons, List.map_nil]); first | done | rfl | (simp only [List.length_drop, List.length_take]; rfl)) ?_; (with_reducible refine (Go.Proofs.YtfbenlenihlpbaaDoor.Given.excelize_escapeSheetName.calls a1 t119 _ (Letters.Props.below HU.out (by repeat (first | (with_reducible first | exact HB.out | apply below_alloc | apply pw_below_drewN | apply below_drew1) | exact HB.out))) A4.out).mono ?_); rintro e w6 ⟨rfl, hb⟩; refine ⟨_, rfl, ?_⟩; have n0_ := Aside0.mk (below_step (by repeat (first | (with_reducible first | exact HB.out | apply below_alloc | apply pw_below_drewN | apply below_drew1) | exact HB.out)) hb); clear HB; have HB := n0_; clear n0_; (try clear hb); (try clear hb2); (try clear hk); (try clear hi)) | ((with_reducible refine gate_callee (f := 66) rfl ?_); refine goesL_ (some 19) rfl rfl Tryd.func66 (by kernel_rfl) rfl #[.string a0, .string (⟨#[44]⟩ : ByteArray)] rfl (by (try simp only [List.map_toArray, List.map_cons, List.map_nil]); first | done | rfl | (simp only [List.length_drop, List.length_take]; rfl)) ?_; (with_reducible refine (Go.Proofs.YtfbenlenihlpbaaDoor.PFnCols.excelize_zzSplit.calls k a0 (⟨#[44]⟩ : ByteArray) t120 _ A5.out).mono ?_); rintro e w7 ⟨v121, rfl, ho0, hb⟩; refine ⟨_, rfl, ?_⟩; have n0_ := Aside0.mk (Kd.R_lower ho0 (below_size (by repeat (first | (with_reducible first | exact HB.out | apply below_alloc | apply pw_below_drewN | apply below_drew1) | exact HB.out)))); have n1_ := Aside0.mk (below_step (by repeat (first | (with_reducible first | exact HB.out | apply below_alloc | apply pw_below_drewN | apply below_drew1) | exact HB.out)) hb); clear HB; have HO122 := n0_; have HB := n1_; clear n0_ n1_; (try clear hb); (try clear hb2); (try clear hk); (try clear hi); (try clear ho0); obtain ⟨Ao8, co8, eo8⟩ := Kd.R_slice HO122.out; subst eo8))
  go_loopg [22] k (fun kq v22 w' => ∃ (x7_1 : List ByteArray) (x22_1 : Int), v22 = .int .i64 x22_1 ∧ Aside0 (excelize_adjustRangeSheetName.l0 kq t119 a2 x7_1 (t120.length : Int) x22_1 = some r) ∧ Aside0 (kq ≤ k) ∧ Aside0 (Kd.R Kd.string 9 w' w.heap.size (fun _ => True) (.slice Ao8 t120.length co8) x7_1) ∧ Aside0 (Below w.heap.size w w'))
  case atStart => exact ⟨(t120), (0), (by first | rfl | (simp; done) | (simp [*]; done) | (simp [wrap64]; done) | (generalize ByteArray.toList _ = l_; cases l_ <;> first | rfl | (simp; done))), H', ⟨Nat.le_refl _⟩, ⟨by (with_reducible repeat (first | apply Kd.R_alloc | apply Kd.R_drewN | apply Kd.R_drew)); exact HO122.out⟩, ⟨by repeat (first | (with_reducible first | exact HB.out | apply below_alloc | apply pw_below_drewN | apply below_drew1) | exact HB.out)⟩⟩
  case round =>
    clear H'
    try clear p2
    try clear c6
    try clear c7
    obtain ⟨x7_1, x22_1, rfl, HA, HK1, HO_7, HB⟩ := hrel
    have hl7_1 := (Kd.R_reads' HO_7.out).1
    rw [hl7_1] at HO_7
    (try simp only [hl7_1])
    cases gk with
    | zero => exact absurd HA.out (by simp [excelize_adjustRangeSheetName.l0])
    | succ k1 =>
      have H := HA.out
      clear HA
      simp only [excelize_adjustRangeSheetName.l0] at H
      by_cases c9 : x22_1 < (t120.length : Int)
      · rw [if_pos c9] at H
        have c9b0 : decide (x22_1 < (t120.length : Int)) = true := decide_eq_true c9
        clear c9
        by_cases c10 : 0 ≤ x22_1
        · rw [if_pos c10] at H
          have c10b0 : decide (0 ≤ x22_1) = true := decide_eq_true c10
          clear c10
          by_cases c11 : x22_1 < (x7_1.length : Int)
          · rw [if_pos c11] at H
            have c11b0 : decide (x22_1 < (x7_1.length : Int)) = true := decide_eq_true c11
            clear c11
            replace H := Option.bind_eq_some_iff.mp H
            obtain ⟨t125, A120, H⟩ := H
            replace H : (excelize_adjustRangeSheetName.l1 k1 t119 a2 x7_1 x22_1 t125 (t120.length : Int) x22_1 (t125.length : Int) 0) = some r := H
            have A12 := Aside0.mk A120
            clear A120
            have H' := Aside0.mk H
            clear H
            have p124 : 0 ≤ (x22_1 : Int) := of_decide_eq_true (by first | (with_reducible assumption) | assumption)
            have q124 : x22_1 < (x7_1.length : Int) := of_decide_eq_true (by first | (with_reducible assumption) | assumption)
            obtain ⟨ad124, e124, hx124_0⟩ := Kd.at_string (Kd.R_reads' HO_7.out).2.2 x22_1 p124 q124
            cases e124
            replace p124 := eq_true p124
            replace q124 := eq_true q124
            go_wp2_with (first | ((with_reducible refine gate_callee (f := 66) rfl ?_); refine goesL_ (some 28) rfl rfl Tryd.func66 (by kernel_rfl) rfl #[.string (rdOf ByteArray.empty x7_1 x22_1), .string (⟨#[58]⟩ : ByteArray)] rfl (by (try simp only [List.map_toArray, List.map_cons, List.map_nil]); first | done | rfl | (simp only [List.length_drop, List.length_take]; rfl)) ?_; (with_reducible refine (Go.Proofs.YtfbenlenihlpbaaDoor.PFnCols.excelize_zzSplit.calls k1 (rdOf ByteArray.empty x7_1 x22_1) (⟨#[58]⟩ : ByteArray) t125 _ A12.out).mono ?_); rintro e w13 ⟨v126, rfl, ho0, hb⟩; refine ⟨_, rfl, ?_⟩; have n0_ := Aside0.mk (Kd.R_elder' (by (with_reducible repeat (first | apply Kd.R_alloc | apply Kd.R_drewN | apply Kd.R_drew)); exact HO_7.out) (Kd.R_base ho0) hb); have n1_ := Aside0.mk (Kd.R_lower (Kd.R_new' ho0 (Kd.R_lt (by (with_reducible repeat (first | apply Kd.R_alloc | apply Kd.R_drewN | apply Kd.R_drew)); exact HO_7.out))) (below_size (by repeat (first | (with_reducible first | exact HB.out | apply below_alloc | apply pw_below_drewN | apply below_drew1) | exact HB.out)))); have n2_ := Aside0.mk (below_step (by repeat (first | (with_reducible first | exact HB.out | apply below_alloc | apply pw_below_drewN | apply below_drew1) | exact HB.out)) hb); clear HO_7; clear HB; have HO_7 := n0_; have HO127 := n1_; have HB := n2_; clear n0_ n1_ n2_; (try clear hb); (try clear hb2); (try clear hk); (try clear hi); (try clear ho0); obtain ⟨Ao14, co14, eo14⟩ := Kd.R_slice HO127.out; subst eo14))
            go_loopg [31] k1 (fun kq v31 w' => ∃ (x7_2 : List ByteArray) (x10_2 : List ByteArray) (x31_2 : Int), v31 = .int .i64 x31_2 ∧ Aside0 (excelize_adjustRangeSheetName.l1 kq t119 a2 x7_2 x22_1 x10_2 (t120.length : Int) x22_1 (t125.length : Int) x31_2 = some r) ∧ Aside0 (kq ≤ k1) ∧ Aside0 (Kd.R Kd.string 9 w' w.heap.size (fun k_ => some k_ ≠ ((.slice Ao14 t125.length co14) : Value).ownBlock) (.slice (some ad124) x7_1.length co8) x7_2) ∧ Aside0 (Kd.R Kd.string 9 w' w.heap.size (fun k_ => some k_ ≠ ((.slice (some ad124) x7_1.length co8) : Value).ownBlock) (.slice Ao14 t125.length co14) x10_2) ∧ Aside0 (Below w.heap.size w w'))
            case atStart => exact ⟨(x7_1), (t125), (0), (by first | rfl | (simp; done) | (simp [*]; done) | (simp [wrap64]; done) | (generalize ByteArray.toList _ = l_; cases l_ <;> first | rfl | (simp; done))), H', ⟨Nat.le_refl _⟩, ⟨by (try simp only [hl7_1]); (with_reducible repeat (first | apply Kd.R_alloc | apply Kd.R_drewN | apply Kd.R_drew)); exact Kd.R_mono HO_7.out (fun _ hk => hk.2)⟩, ⟨by (try simp only [hl7_1]); (with_reducible repeat (first | apply Kd.R_alloc | apply Kd.R_drewN | apply Kd.R_drew)); exact Kd.R_mono HO127.out (fun _ hk => hk.2)⟩, ⟨by repeat (first | (with_reducible first | exact HB.out | apply below_alloc | apply pw_below_drewN | apply below_drew1) | exact HB.out)⟩⟩
            case round =>
              clear H'
              try clear c1
              try clear p1
              try clear q1
              try clear hx1
              try clear p2
              try clear c6
              try clear c7
              try clear c9
              try clear c9b0
              try clear c10
              try clear c10b0
              try clear c11
              try clear c11b0
              try clear p12
              try clear q12
              try clear hx12
              try clear hx124_0
              try clear p124
              try clear p2
              try clear q124
              obtain ⟨x7_2, x10_2, x31_2, rfl, HA, HK2, HO_7, HO_10, HB⟩ := hrel
              have hl7_2 := (Kd.R_reads' HO_7.out).1
              rw [hl7_2] at HO_7
              (try simp only [hl7_2])
              (try simp only [hl7_2] at HO_10)
              have hl10_2 := (Kd.R_reads' HO_10.out).1
              rw [hl10_2] at HO_10
              (try simp only [hl10_2])
              (try simp only [hl10_2] at HO_7)
              cases gk with
              | zero => exact absurd HA.out (by simp [excelize_adjustRangeSheetName.l1])
              | succ k2 =>
                have H := HA.out
                clear HA
                simp only [excelize_adjustRangeSheetName.l1] at H
                by_cases c15 : x31_2 < (t125.length : Int)
                · rw [if_pos c15] at H
                  have c15b0 : decide (x31_2 < (t125.length : Int)) = true := decide_eq_true c15
                  clear c15
                  by_cases c16 : 0 ≤ x31_2
                  · rw [if_pos c16] at H
                    have c16b0 : decide (0 ≤ x31_2) = true := decide_eq_true c16
                    clear c16
                    by_cases c17 : x31_2 < (x10_2.length : Int)
                    · rw [if_pos c17] at H
                      have c17b0 : decide (x31_2 < (x10_2.length : Int)) = true := decide_eq_true c17
                      clear c17
                      replace H := Option.bind_eq_some_iff.mp H
                      obtain ⟨t131, A180, H⟩ := H
                      replace H : (excelize_adjustRangeSheetName.l2 k2 t119 a2 x7_2 x22_1 x10_2 x31_2 t131 (t120.length : Int) x22_1 (t125.length : Int) x31_2 (t131.length : Int) 0) = some r := H
                      have A18 := Aside0.mk A180
                      clear A180
                      have H' := Aside0.mk H
                      clear H
                      have p130 : 0 ≤ (x31_2 : Int) := of_decide_eq_true (by first | (with_reducible assumption) | assumption)
                      have q130 : x31_2 < (x10_2.length : Int) := of_decide_eq_true (by first | (with_reducible assumption) | assumption)
                      obtain ⟨ad130, e130, hx130_0⟩ := Kd.at_string (Kd.R_reads' HO_10.out).2.2 x31_2 p130 q130
                      cases e130
                      replace p130 := eq_true p130
                      replace q130 := eq_true q130
                      go_wp2_with (first | ((with_reducible refine gate_callee (f := 66) rfl ?_); refine goesL_ (some 37) rfl rfl Tryd.func66 (by kernel_rfl) rfl #[.string (rdOf ByteArray.empty x10_2 x31_2), .string (⟨#[33]⟩ : ByteArray)] rfl (by (try simp only [List.map_toArray, List.map_cons, List.map_nil]); first | done | rfl | (simp only [List.length_drop, List.length_take]; rfl)) ?_; (with_reducible refine (Go.Proofs.YtfbenlenihlpbaaDoor.PFnCols.excelize_zzSplit.calls k2 (rdOf ByteArray.empty x10_2 x31_2) (⟨#[33]⟩ : ByteArray) t131 _ A18.out).mono ?_); rintro e w19 ⟨v132, rfl, ho0, hb⟩; refine ⟨_, rfl, ?_⟩; have n0_ := Aside0.mk (Kd.R_elder' (by (with_reducible repeat (first | apply Kd.R_alloc | apply Kd.R_drewN | apply Kd.R_drew)); exact HO_7.out) (Kd.R_base ho0) hb); have n1_ := Aside0.mk (Kd.R_elder' (by (with_reducible repeat (first | apply Kd.R_alloc | apply Kd.R_drewN | apply Kd.R_drew)); exact HO_10.out) (Kd.R_base ho0) hb); have n2_ := Aside0.mk (Kd.R_lower (Kd.R_new' (Kd.R_new' ho0 (Kd.R_lt (by (with_reducible repeat (first | apply Kd.R_alloc | apply Kd.R_drewN | apply Kd.R_drew)); exact HO_7.out))) (Kd.R_lt (by (with_reducible repeat (first | apply Kd.R_alloc | apply Kd.R_drewN | apply Kd.R_drew)); exact HO_10.out))) (below_size (by repeat (first | (with_reducible first | exact HB.out | apply below_alloc | apply pw_below_drewN | apply below_drew1) | exact HB.out)))); have n3_ := Aside0.mk (below_step (by repeat (first | (with_reducible first | exact HB.out | apply below_alloc | apply pw_below_drewN | apply below_drew1) | exact HB.out)) hb); clear HO_7; clear HO_10; clear HB; have HO_7 := n0_; have HO_10 := n1_; have HO133 := n2_; have HB := n3_; clear n0_ n1_ n2_ n3_; (try clear hb); (try clear hb2); (try clear hk); (try clear hi); (try clear ho0); obtain ⟨Ao20, co20, eo20⟩ := Kd.R_slice HO133.out; subst eo20))
                      go_loopg [40] k2 (fun kq v40 w' => ∃ (x13_3 : List ByteArray) (x40_3 : Int), v40 = .int .i64 x40_3 ∧ Aside0 (excelize_adjustRangeSheetName.l2 kq t119 a2 x7_2 x22_1 x10_2 x31_2 x13_3 (t120.length : Int) x22_1 (t125.length : Int) x31_2 (t131.length : Int) x40_3 = some r) ∧ Aside0 (kq ≤ k2) ∧ Aside0 (Kd.R Kd.string 9 w' w.heap.size (fun k_ => some k_ ≠ ((.slice (some ad130) x10_2.length co14) : Value).ownBlock ∧ some k_ ≠ ((.slice Ao20 t131.length co20) : Value).ownBlock) (.slice (some ad124) x7_2.length co8) x7_2) ∧ Aside0 (Kd.R Kd.string 9 w' w.heap.size (fun k_ => some k_ ≠ ((.slice (some ad124) x7_2.length co8) : Value).ownBlock ∧ some k_ ≠ ((.slice Ao20 t131.length co20) : Value).ownBlock) (.slice (some ad130) x10_2.length co14) x10_2) ∧ Aside0 (Kd.R Kd.string 9 w' w.heap.size (fun k_ => some k_ ≠ ((.slice (some ad124) x7_2.length co8) : Value).ownBlock ∧ some k_ ≠ ((.slice (some ad130) x10_2.length co14) : Value).ownBlock) (.slice Ao20 t131.length co20) x13_3) ∧ Aside0 (Below w.heap.size w w'))
                      case atStart => exact ⟨(t131), (0), (by first | rfl | (simp; done) | (simp [*]; done) | (simp [wrap64]; done) | (generalize ByteArray.toList _ = l_; cases l_ <;> first | rfl | (simp; done))), H', ⟨Nat.le_refl _⟩, ⟨by (try simp only [hl7_1]); (try simp only [hl7_2]); (try simp only [hl10_2]); (with_reducible repeat (first | apply Kd.R_alloc | apply Kd.R_drewN | apply Kd.R_drew)); exact HO_7.out⟩, ⟨by (try simp only [hl7_1]); (try simp only [hl7_2]); (try simp only [hl10_2]); (with_reducible repeat (first | apply Kd.R_alloc | apply Kd.R_drewN | apply Kd.R_drew)); exact HO_10.out⟩, ⟨by (try simp only [hl7_1]); (try simp only [hl7_2]); (try simp only [hl10_2]); (with_reducible repeat (first | apply Kd.R_alloc | apply Kd.R_drewN | apply Kd.R_drew)); exact Kd.R_mono HO133.out (fun _ hk => ⟨hk.1.2, hk.2⟩)⟩, ⟨by repeat (first | (with_reducible first | exact HB.out | apply below_alloc | apply pw_below_drewN | apply below_drew1) | exact HB.out)⟩⟩
                      case round =>
                        clear H'
                        try clear c1
                        try clear p1
                        try clear q1
                        try clear hx1
                        try clear p2
                        try clear c6
                        try clear c7
                        try clear c9
                        try clear c9b0
                        try clear c10
                        try clear c10b0
                        try clear c11
                        try clear c11b0
                        try clear p12
                        try clear q12
                        try clear hx12
                        try clear p13
                        try clear q13
                        try clear hx13
                        try clear c15
                        try clear c15b0
                        try clear c16
                        try clear c16b0
                        try clear c17
                        try clear c17b0
                        try clear hx124_0
                        try clear hx130_0
                        try clear p1
                        try clear p12
                        try clear p124
                        try clear p130
                        try clear p2
                        try clear q1
                        try clear q12
                        try clear q124
                        try clear q130
                        obtain ⟨x13_3, x40_3, rfl, HA, HK3, HO_7, HO_10, HO_13, HB⟩ := hrel
                        have hl13_3 := (Kd.R_reads' HO_13.out).1
                        rw [hl13_3] at HO_13
                        (try simp only [hl13_3])
                        (try simp only [hl13_3] at HO_7)
                        (try simp only [hl13_3] at HO_10)
                        cases gk with
                        | zero => exact absurd HA.out (by simp [excelize_adjustRangeSheetName.l2])
                        | succ k3 =>
                          have H := HA.out
                          clear HA
                          simp only [excelize_adjustRangeSheetName.l2] at H
                          by_cases c21 : x40_3 < (t131.length : Int)
                          · rw [if_pos c21] at H
                            have c21b0 : decide (x40_3 < (t131.length : Int)) = true := decide_eq_true c21
                            clear c21
                            by_cases c22 : 0 ≤ x40_3
                            · rw [if_pos c22] at H
                              have c22b0 : decide (0 ≤ x40_3) = true := decide_eq_true c22
                              clear c22
                              by_cases c23 : x40_3 < (x13_3.length : Int)
                              · rw [if_pos c23] at H
                                have c23b0 : decide (x40_3 < (x13_3.length : Int)) = true := decide_eq_true c23
                                clear c23
                                replace H := Option.bind_eq_some_iff.mp H
                                obtain ⟨t137, A240, H⟩ := H
                                replace H : ((Go.Proofs.YtfbenlenihlpbaaDoor.Given.strings_TrimPrefix.f t137 (⟨#[39]⟩ : ByteArray)).bind fun t138 => (if t138.toList = t119.toList then ((Go.Proofs.YtfbenlenihlpbaaDoor.Given.excelize_escapeSheetName.f a2).bind fun t139 => (excelize_adjustRangeSheetName.l2 k3 t119 a2 x7_2 x22_1 x10_2 x31_2 (x13_3.set (x40_3 : Int).toNat t139) (t120.length : Int) x22_1 (t125.length : Int) x31_2 (t131.length : Int) (wrap64 (x40_3 + 1)))) else (excelize_adjustRangeSheetName.l2 k3 t119 a2 x7_2 x22_1 x10_2 x31_2 (x13_3.set (x40_3 : Int).toNat (rdOf ByteArray.empty x13_3 x40_3)) (t120.length : Int) x22_1 (t125.length : Int) x31_2 (t131.length : Int) (wrap64 (x40_3 + 1))))) = some r := H
                                have A24 := Aside0.mk A240
                                clear A240
                                replace H := Option.bind_eq_some_iff.mp H
                                obtain ⟨t138, A250, H⟩ := H
                                replace H : (if t138.toList = t119.toList then ((Go.Proofs.YtfbenlenihlpbaaDoor.Given.excelize_escapeSheetName.f a2).bind fun t139 => (excelize_adjustRangeSheetName.l2 k3 t119 a2 x7_2 x22_1 x10_2 x31_2 (x13_3.set (x40_3 : Int).toNat t139) (t120.length : Int) x22_1 (t125.length : Int) x31_2 (t131.length : Int) (wrap64 (x40_3 + 1)))) else (excelize_adjustRangeSheetName.l2 k3 t119 a2 x7_2 x22_1 x10_2 x31_2 (x13_3.set (x40_3 : Int).toNat (rdOf ByteArray.empty x13_3 x40_3)) (t120.length : Int) x22_1 (t125.length : Int) x31_2 (t131.length : Int) (wrap64 (x40_3 + 1)))) = some r := H
                                have A25 := Aside0.mk A250
                                clear A250
                                by_cases c26 : t138.toList = t119.toList
                                · rw [if_pos c26] at H
                                  have c26b0 : (t138.toList == t119.toList) = true := beq_iff_eq.mpr c26
                                  have c26b1 : (t138.toList != t119.toList) = false := bne_eq_false_iff_eq.mpr c26
                                  clear c26
                                  replace H := Option.bind_eq_some_iff.mp H
                                  obtain ⟨t139, A270, H⟩ := H
                                  replace H : (excelize_adjustRangeSheetName.l2 k3 t119 a2 x7_2 x22_1 x10_2 x31_2 (x13_3.set (x40_3 : Int).toNat t139) (t120.length : Int) x22_1 (t125.length : Int) x31_2 (t131.length : Int) (wrap64 (x40_3 + 1))) = some r := H
                                  have A27 := Aside0.mk A270
                                  clear A270
                                  obtain ⟨y140, hy140⟩ : ∃ y_ : List ByteArray, y_ = (x13_3.set (x40_3 : Int).toNat t139) := ⟨_, rfl⟩
                                  replace H : (excelize_adjustRangeSheetName.l2 k3 t119 a2 x7_2 x22_1 x10_2 x31_2 y140 (t120.length : Int) x22_1 (t125.length : Int) x31_2 (t131.length : Int) (wrap64 (x40_3 + 1))) = some r := by first | (rw [hy140]; with_reducible exact H) | (have H2_ := (Option.bind_some _ _).symm.trans H; rw [hy140]; with_reducible exact H2_) | (have H2_ := (Option.bind_some _ _).symm.trans H; with_reducible exact H2_) | with_reducible exact H | (rw [hy140]; exact H) | exact H
                                  have Ny140 := Aside0.mk hy140
                                  clear hy140
                                  have H' := Aside0.mk H
                                  clear H
                                  have p136 : 0 ≤ (x40_3 : Int) := of_decide_eq_true (by first | (with_reducible assumption) | assumption)
                                  have q136 : x40_3 < (x13_3.length : Int) := of_decide_eq_true (by first | (with_reducible assumption) | assumption)
                                  obtain ⟨ad136, e136, hx136_0⟩ := Kd.at_string (Kd.R_reads' HO_13.out).2.2 x40_3 p136 q136
                                  cases e136
                                  replace p136 := eq_true p136
                                  replace q136 := eq_true q136
                                  go_wp2_with (first | ((with_reducible refine gate_callee (f := 84) rfl ?_); refine goesL_ (some 46) rfl rfl Tryd.func84 (by kernel_rfl) rfl #[.string (rdOf ByteArray.empty x13_3 x40_3), .string (⟨#[39]⟩ : ByteArray)] rfl (by (try simp only [List.map_toArray, List.map_cons, List.map_nil]); first | done | rfl | (simp only [List.length_drop, List.length_take]; rfl)) ?_; (with_reducible refine (Go.Proofs.YtfbenlenihlpbaaDoor.Given.strings_TrimSuffix.calls (rdOf ByteArray.empty x13_3 x40_3) (⟨#[39]⟩ : ByteArray) t137 _ A24.out).mono ?_); rintro e w' ⟨rfl, ⟨nd, rfl⟩⟩; refine ⟨_, rfl, ?_⟩; (try (rw [drewN_self wr]; generalize hq_ : World.drewN wr _ = wr; have n0_ : Aside0 (Kd.R Kd.string 9 wr w.heap.size (fun k_ => some k_ ≠ (.slice (some ad124) x7_2.length co8 : Value).ownBlock ∧ some k_ ≠ (.slice (some ad136) x13_3.length co20 : Value).ownBlock) (.slice (some ad130) x10_2.length co14) x10_2) := ⟨by rw [← hq_]; exact (by (with_reducible repeat (first | apply Kd.R_alloc | apply Kd.R_drewN | apply Kd.R_drew)); exact HO_10.out)⟩; have n1_ : Aside0 (Kd.R Kd.string 9 wr w.heap.size (fun k_ => some k_ ≠ (.slice (some ad124) x7_2.length co8 : Value).ownBlock ∧ some k_ ≠ (.slice (some ad130) x10_2.length co14 : Value).ownBlock) (.slice (some ad136) x13_3.length co20) x13_3) := ⟨by rw [← hq_]; exact (by (with_reducible repeat (first | apply Kd.R_alloc | apply Kd.R_drewN | apply Kd.R_drew)); exact HO_13.out)⟩; have n2_ : Aside0 (Kd.R Kd.string 9 wr w.heap.size (fun k_ => some k_ ≠ (.slice (some ad130) x10_2.length co14 : Value).ownBlock ∧ some k_ ≠ (.slice (some ad136) x13_3.length co20 : Value).ownBlock) (.slice (some ad124) x7_2.length co8) x7_2) := ⟨by rw [← hq_]; exact (by (with_reducible repeat (first | apply Kd.R_alloc | apply Kd.R_drewN | apply Kd.R_drew)); exact HO_7.out)⟩; have n3_ : Aside0 (Below w.heap.size w wr) := ⟨by rw [← hq_]; exact (by repeat (first | (with_reducible first | exact HB.out | apply below_alloc | apply pw_below_drewN | apply below_drew1) | exact HB.out))⟩; clear HO_10 HO_13 HO_7 HB hq_; have HO_10 := n0_; have HO_13 := n1_; have HO_7 := n2_; have HB := n3_; clear n0_ n1_ n2_ n3_))) | ((with_reducible refine gate_callee (f := 83) rfl ?_); refine goesL_ (some 47) rfl rfl Tryd.func83 (by kernel_rfl) rfl #[.string t137, .string (⟨#[39]⟩ : ByteArray)] rfl (by (try simp only [List.map_toArray, List.map_cons, List.map_nil]); first | done | rfl | (simp only [List.length_drop, List.length_take]; rfl)) ?_; (with_reducible refine (Go.Proofs.YtfbenlenihlpbaaDoor.Given.strings_TrimPrefix.calls t137 (⟨#[39]⟩ : ByteArray) t138 _ A25.out).mono ?_); rintro e w' ⟨rfl, ⟨nd, rfl⟩⟩; refine ⟨_, rfl, ?_⟩; (try (rw [drewN_self wr]; generalize hq_ : World.drewN wr _ = wr; have n0_ : Aside0 (Kd.R Kd.string 9 wr w.heap.size (fun k_ => some k_ ≠ (.slice (some ad124) x7_2.length co8 : Value).ownBlock ∧ some k_ ≠ (.slice (some ad136) x13_3.length co20 : Value).ownBlock) (.slice (some ad130) x10_2.length co14) x10_2) := ⟨by rw [← hq_]; exact (by (with_reducible repeat (first | apply Kd.R_alloc | apply Kd.R_drewN | apply Kd.R_drew)); exact HO_10.out)⟩; have n1_ : Aside0 (Kd.R Kd.string 9 wr w.heap.size (fun k_ => some k_ ≠ (.slice (some ad124) x7_2.length co8 : Value).ownBlock ∧ some k_ ≠ (.slice (some ad130) x10_2.length co14 : Value).ownBlock) (.slice (some ad136) x13_3.length co20) x13_3) := ⟨by rw [← hq_]; exact (by (with_reducible repeat (first | apply Kd.R_alloc | apply Kd.R_drewN | apply Kd.R_drew)); exact HO_13.out)⟩; have n2_ : Aside0 (Kd.R Kd.string 9 wr w.heap.size (fun k_ => some k_ ≠ (.slice (some ad130) x10_2.length co14 : Value).ownBlock ∧ some k_ ≠ (.slice (some ad136) x13_3.length co20 : Value).ownBlock) (.slice (some ad124) x7_2.length co8) x7_2) := ⟨by rw [← hq_]; exact (by (with_reducible repeat (first | apply Kd.R_alloc | apply Kd.R_drewN | apply Kd.R_drew)); exact HO_7.out)⟩; have n3_ : Aside0 (Below w.heap.size w wr) := ⟨by rw [← hq_]; exact (by repeat (first | (with_reducible first | exact HB.out | apply below_alloc | apply pw_below_drewN | apply below_drew1) | exact HB.out))⟩; clear HO_10 HO_13 HO_7 HB hq_; have HO_10 := n0_; have HO_13 := n1_; have HO_7 := n2_; have HB := n3_; clear n0_ n1_ n2_ n3_))) | ((with_reducible refine gate_callee (f := 77) rfl ?_); refine goesL_ (some 51) rfl rfl Tryd.func77 (by kernel_rfl) rfl #[.string a2] rfl (by (try simp only [List.map_toArray, List.map_cons, List.map_nil]); first | done | rfl | (simp only [List.length_drop, List.length_take]; rfl)) ?_; (with_reducible refine (Go.Proofs.YtfbenlenihlpbaaDoor.Given.excelize_escapeSheetName.calls a2 t139 _ (Letters.Props.below HU.out (by repeat (first | (with_reducible first | exact HB.out | apply below_alloc | apply pw_below_drewN | apply below_drew1) | exact HB.out))) A27.out).mono ?_); rintro e w29 ⟨rfl, hb⟩; refine ⟨_, rfl, ?_⟩; have n0_ := Aside0.mk (Kd.R_below (by (with_reducible repeat (first | apply Kd.R_alloc | apply Kd.R_drewN | apply Kd.R_drew)); exact HO_7.out) hb); have n1_ := Aside0.mk (Kd.R_below (by (with_reducible repeat (first | apply Kd.R_alloc | apply Kd.R_drewN | apply Kd.R_drew)); exact HO_10.out) hb); have n2_ := Aside0.mk (Kd.R_below (by (with_reducible repeat (first | apply Kd.R_alloc | apply Kd.R_drewN | apply Kd.R_drew)); exact HO_13.out) hb); have n3_ := Aside0.mk (below_step (by repeat (first | (with_reducible first | exact HB.out | apply below_alloc | apply pw_below_drewN | apply below_drew1) | exact HB.out)) hb); clear HO_7; clear HO_10; clear HO_13; clear HB; have HO_7 := n0_; have HO_10 := n1_; have HO_13 := n2_; have HB := n3_; clear n0_ n1_ n2_ n3_; (try clear hb); (try clear hb2); (try clear hk); (try clear hi); have p28 : 0 ≤ (x40_3 : Int) := of_decide_eq_true (by first | (with_reducible assumption) | assumption); have q28 : (x40_3 : Int) < ((x13_3.length : Int) : Int) := of_decide_eq_true (by first | (with_reducible assumption) | assumption); obtain ⟨go28, co28, eo28, gb28, gl28, cl28, HG28⟩ := Kd.R_form HO_13.out (by omega); (first | cases eo28 | (injection eo28 with ea_ en_ ec_; (first | subst ea_ | (injection ea_ with ea_; subst ea_)); subst ec_; clear en_)); have GB28 := Aside0.mk gb28; have GG28 := Aside0.mk HG28; clear gb28 gl28 HG28; (first | simp only [add_plain] at hx136_0 | skip); obtain ⟨hx28_0, hf28_0⟩ := Kd.R_celln (⟨#[]⟩ : ByteArray) HO_13.out (x40_3 : Int) p28 q28; replace p28 := eq_true p28; replace q28 := eq_true q28; obtain ⟨hy30_, hz30_⟩ := Kd.R_celln (⟨#[]⟩ : ByteArray) HO_13.out (x40_3 : Int) (of_decide_eq_true (by first | (with_reducible assumption) | assumption)) (of_decide_eq_true (by first | (with_reducible assumption) | assumption)); have HP30 := Kd.R_putg HO_13.out (x40_3 : Int) t139) | ((with_reducible refine gate_store (t := 9) (p := 55) rfl ?_); refine store_event (t := 9) (p := 55) (v := ?vo_w31) (w1 := (w29.setCell ⟨go28, (x40_3 : Int).toNat, none⟩ (.string t139))) ?hg ?ho ?hn ?hr ?_; (case ho => rfl); (case hg => rfl); (case hn => rfl); (case hr => first | (go_simp; done) | (go_simp; rfl)); intro w31 hw; have hg : w29.grownBy w31 (some go28) := (by rw [hw]; exact HP30.2); have hp_ : Kd.R Kd.string 9 w31 w.heap.size (fun k_ => some k_ ≠ (.slice (some ad124) x7_2.length co8 : Value).ownBlock ∧ some k_ ≠ (.slice (some ad130) x10_2.length co14 : Value).ownBlock) (.slice (some ⟨go28, 0, none⟩) x13_3.length co20) y140 := (by rw [hw, Ny140.out]; exact HP30.1); clear HP30; have n0_ := Aside0.mk (Kd.R_after (v := (.slice (some ⟨go28, 0, none⟩) x13_3.length co20)) (v1 := (.slice (some ⟨go28, 0, none⟩) x13_3.length co20)) (ok := (fun k_ => some k_ ≠ (.slice (some ad130) x10_2.length co14 : Value).ownBlock)) (by (with_reducible repeat (first | apply Kd.R_alloc | apply Kd.R_drewN | apply Kd.R_drew)); exact HO_7.out) hg (.inl rfl)); have n1_ := Aside0.mk (Kd.R_after (v := (.slice (some ⟨go28, 0, none⟩) x13_3.length co20)) (v1 := (.slice (some ⟨go28, 0, none⟩) x13_3.length co20)) (ok := (fun k_ => some k_ ≠ (.slice (some ad124) x7_2.length co8 : Value).ownBlock)) (by (with_reducible repeat (first | apply Kd.R_alloc | apply Kd.R_drewN | apply Kd.R_drew)); exact HO_10.out) hg (.inl rfl)); have n2_ := Aside0.mk (hp_); have n3_ := Aside0.mk ((by rw [hw]; exact below_set (HB.out) GB28.out : Below w.heap.size w w31)); clear HO_7; clear HO_10; clear HO_13; clear HB; have HO_7 := n0_; have HO_10 := n1_; have HO_13 := n2_; have HB := n3_; clear n0_ n1_ n2_ n3_; clear hg hw hp_))
                                  (try simp only [← hl13_3])
                                  go_roundg k3
                                  case measure => have := HK1.out; have := HK2.out; have := HK3.out; omega
                                  case rel => exact ⟨(y140), (wrap64 (x40_3 + 1)), (by first | rfl | (simp; done) | (simp [*]; done) | (simp [wrap64]; done) | (generalize ByteArray.toList _ = l_; cases l_ <;> first | rfl | (simp; done))), H', ⟨by have := HK1.out; have := HK2.out; have := HK3.out; omega⟩, ⟨by (try simp only [hl7_1]); (try simp only [hl7_2]); (try simp only [hl10_2]); (try simp only [hl13_3]); (with_reducible repeat (first | apply Kd.R_alloc | apply Kd.R_drewN | apply Kd.R_drew)); exact HO_7.out⟩, ⟨by (try simp only [hl7_1]); (try simp only [hl7_2]); (try simp only [hl10_2]); (try simp only [hl13_3]); (with_reducible repeat (first | apply Kd.R_alloc | apply Kd.R_drewN | apply Kd.R_drew)); exact HO_10.out⟩, ⟨by (try simp only [hl7_1]); (try simp only [hl7_2]); (try simp only [hl10_2]); (try simp only [hl13_3]); (with_reducible repeat (first | apply Kd.R_alloc | apply Kd.R_drewN | apply Kd.R_drew)); exact HO_13.out⟩, ⟨by repeat (first | (with_reducible first | exact HB.out | apply below_alloc | apply pw_below_drewN | apply below_drew1) | exact HB.out)⟩⟩
                                · rw [if_neg c26] at H
                                  have c26b0 : (t138.toList == t119.toList) = false := beq_eq_false_iff_ne.mpr c26
                                  have c26b1 : (t138.toList != t119.toList) = true := bne_iff_ne.mpr c26
                                  obtain ⟨y141, hy141⟩ : ∃ y_ : List ByteArray, y_ = (x13_3.set (x40_3 : Int).toNat (rdOf ByteArray.empty x13_3 x40_3)) := ⟨_, rfl⟩
                                  replace H : (excelize_adjustRangeSheetName.l2 k3 t119 a2 x7_2 x22_1 x10_2 x31_2 y141 (t120.length : Int) x22_1 (t125.length : Int) x31_2 (t131.length : Int) (wrap64 (x40_3 + 1))) = some r := by first | (rw [hy141]; with_reducible exact H) | (have H2_ := (Option.bind_some _ _).symm.trans H; rw [hy141]; with_reducible exact H2_) | (have H2_ := (Option.bind_some _ _).symm.trans H; with_reducible exact H2_) | with_reducible exact H | (rw [hy141]; exact H) | exact H
                                  have Ny141 := Aside0.mk hy141
                                  clear hy141
                                  have H' := Aside0.mk H
                                  clear H
                                  have p136 : 0 ≤ (x40_3 : Int) := of_decide_eq_true (by first | (with_reducible assumption) | assumption)
                                  have q136 : x40_3 < (x13_3.length : Int) := of_decide_eq_true (by first | (with_reducible assumption) | assumption)
                                  obtain ⟨ad136, e136, hx136_0⟩ := Kd.at_string (Kd.R_reads' HO_13.out).2.2 x40_3 p136 q136
                                  cases e136
                                  replace p136 := eq_true p136
                                  replace q136 := eq_true q136
                                  go_wp2_with (first | ((with_reducible refine gate_callee (f := 84) rfl ?_); refine goesL_ (some 46) rfl rfl Tryd.func84 (by kernel_rfl) rfl #[.string (rdOf ByteArray.empty x13_3 x40_3), .string (⟨#[39]⟩ : ByteArray)] rfl (by (try simp only [List.map_toArray, List.map_cons, List.map_nil]); first | done | rfl | (simp only [List.length_drop, List.length_take]; rfl)) ?_; (with_reducible refine (Go.Proofs.YtfbenlenihlpbaaDoor.Given.strings_TrimSuffix.calls (rdOf ByteArray.empty x13_3 x40_3) (⟨#[39]⟩ : ByteArray) t137 _ A24.out).mono ?_); rintro e w' ⟨rfl, ⟨nd, rfl⟩⟩; refine ⟨_, rfl, ?_⟩; (try (rw [drewN_self wr]; generalize hq_ : World.drewN wr _ = wr; have n0_ : Aside0 (Kd.R Kd.string 9 wr w.heap.size (fun k_ => some k_ ≠ (.slice (some ad124) x7_2.length co8 : Value).ownBlock ∧ some k_ ≠ (.slice (some ad136) x13_3.length co20 : Value).ownBlock) (.slice (some ad130) x10_2.length co14) x10_2) := ⟨by rw [← hq_]; exact (by (with_reducible repeat (first | apply Kd.R_alloc | apply Kd.R_drewN | apply Kd.R_drew)); exact HO_10.out)⟩; have n1_ : Aside0 (Kd.R Kd.string 9 wr w.heap.size (fun k_ => some k_ ≠ (.slice (some ad124) x7_2.length co8 : Value).ownBlock ∧ some k_ ≠ (.slice (some ad130) x10_2.length co14 : Value).ownBlock) (.slice (some ad136) x13_3.length co20) x13_3) := ⟨by rw [← hq_]; exact (by (with_reducible repeat (first | apply Kd.R_alloc | apply Kd.R_drewN | apply Kd.R_drew)); exact HO_13.out)⟩; have n2_ : Aside0 (Kd.R Kd.string 9 wr w.heap.size (fun k_ => some k_ ≠ (.slice (some ad130) x10_2.length co14 : Value).ownBlock ∧ some k_ ≠ (.slice (some ad136) x13_3.length co20 : Value).ownBlock) (.slice (some ad124) x7_2.length co8) x7_2) := ⟨by rw [← hq_]; exact (by (with_reducible repeat (first | apply Kd.R_alloc | apply Kd.R_drewN | apply Kd.R_drew)); exact HO_7.out)⟩; have n3_ : Aside0 (Below w.heap.size w wr) := ⟨by rw [← hq_]; exact (by repeat (first | (with_reducible first | exact HB.out | apply below_alloc | apply pw_below_drewN | apply below_drew1) | exact HB.out))⟩; clear HO_10 HO_13 HO_7 HB hq_; have HO_10 := n0_; have HO_13 := n1_; have HO_7 := n2_; have HB := n3_; clear n0_ n1_ n2_ n3_))) | ((with_reducible refine gate_callee (f := 83) rfl ?_); refine goesL_ (some 47) rfl rfl Tryd.func83 (by kernel_rfl) rfl #[.string t137, .string (⟨#[39]⟩ : ByteArray)] rfl (by (try simp only [List.map_toArray, List.map_cons, List.map_nil]); first | done | rfl | (simp only [List.length_drop, List.length_take]; rfl)) ?_; (with_reducible refine (Go.Proofs.YtfbenlenihlpbaaDoor.Given.strings_TrimPrefix.calls t137 (⟨#[39]⟩ : ByteArray) t138 _ A25.out).mono ?_); rintro e w' ⟨rfl, ⟨nd, rfl⟩⟩; refine ⟨_, rfl, ?_⟩; (try (rw [drewN_self wr]; generalize hq_ : World.drewN wr _ = wr; have n0_ : Aside0 (Kd.R Kd.string 9 wr w.heap.size (fun k_ => some k_ ≠ (.slice (some ad124) x7_2.length co8 : Value).ownBlock ∧ some k_ ≠ (.slice (some ad136) x13_3.length co20 : Value).ownBlock) (.slice (some ad130) x10_2.length co14) x10_2) := ⟨by rw [← hq_]; exact (by (with_reducible repeat (first | apply Kd.R_alloc | apply Kd.R_drewN | apply Kd.R_drew)); exact HO_10.out)⟩; have n1_ : Aside0 (Kd.R Kd.string 9 wr w.heap.size (fun k_ => some k_ ≠ (.slice (some ad124) x7_2.length co8 : Value).ownBlock ∧ some k_ ≠ (.slice (some ad130) x10_2.length co14 : Value).ownBlock) (.slice (some ad136) x13_3.length co20) x13_3) := ⟨by rw [← hq_]; exact (by (with_reducible repeat (first | apply Kd.R_alloc | apply Kd.R_drewN | apply Kd.R_drew)); exact HO_13.out)⟩; have n2_ : Aside0 (Kd.R Kd.string 9 wr w.heap.size (fun k_ => some k_ ≠ (.slice (some ad130) x10_2.length co14 : Value).ownBlock ∧ some k_ ≠ (.slice (some ad136) x13_3.length co20 : Value).ownBlock) (.slice (some ad124) x7_2.length co8) x7_2) := ⟨by rw [← hq_]; exact (by (with_reducible repeat (first | apply Kd.R_alloc | apply Kd.R_drewN | apply Kd.R_drew)); exact HO_7.out)⟩; have n3_ : Aside0 (Below w.heap.size w wr) := ⟨by rw [← hq_]; exact (by repeat (first | (with_reducible first | exact HB.out | apply below_alloc | apply pw_below_drewN | apply below_drew1) | exact HB.out))⟩; clear HO_10 HO_13 HO_7 HB hq_; have HO_10 := n0_; have HO_13 := n1_; have HO_7 := n2_; have HB := n3_; clear n0_ n1_ n2_ n3_)); have p32 : 0 ≤ (x40_3 : Int) := of_decide_eq_true (by first | (with_reducible assumption) | assumption); have q32 : (x40_3 : Int) < ((x13_3.length : Int) : Int) := of_decide_eq_true (by first | (with_reducible assumption) | assumption); obtain ⟨go32, co32, eo32, gb32, gl32, cl32, HG32⟩ := Kd.R_form HO_13.out (by omega); (first | cases eo32 | (injection eo32 with ea_ en_ ec_; (first | subst ea_ | (injection ea_ with ea_; subst ea_)); subst ec_; clear en_)); have GB32 := Aside0.mk gb32; have GG32 := Aside0.mk HG32; clear gb32 gl32 HG32; (first | simp only [add_plain] at hx136_0 | skip); obtain ⟨hx32_0, hf32_0⟩ := Kd.R_celln (⟨#[]⟩ : ByteArray) HO_13.out (x40_3 : Int) p32 q32; replace p32 := eq_true p32; replace q32 := eq_true q32; obtain ⟨hy33_, hz33_⟩ := Kd.R_celln (⟨#[]⟩ : ByteArray) HO_13.out (x40_3 : Int) (of_decide_eq_true (by first | (with_reducible assumption) | assumption)) (of_decide_eq_true (by first | (with_reducible assumption) | assumption)); have HP33 := Kd.R_putg HO_13.out (x40_3 : Int) (rdOf ByteArray.empty x13_3 x40_3)) | ((with_reducible refine gate_store (t := 9) (p := 55) rfl ?_); refine store_event (t := 9) (p := 55) (v := ?vo_w34) (w1 := (wr.setCell ⟨go32, (x40_3 : Int).toNat, none⟩ (.string (rdOf ByteArray.empty x13_3 x40_3)))) ?hg ?ho ?hn ?hr ?_; (case ho => rfl); (case hg => rfl); (case hn => rfl); (case hr => first | (go_simp; done) | (go_simp; rfl)); intro w34 hw; have hg : wr.grownBy w34 (some go32) := (by rw [hw]; exact HP33.2); have hp_ : Kd.R Kd.string 9 w34 w.heap.size (fun k_ => some k_ ≠ (.slice (some ad124) x7_2.length co8 : Value).ownBlock ∧ some k_ ≠ (.slice (some ad130) x10_2.length co14 : Value).ownBlock) (.slice (some ⟨go32, 0, none⟩) x13_3.length co20) y141 := (by rw [hw, Ny141.out]; exact HP33.1); clear HP33; have n0_ := Aside0.mk (Kd.R_after (v := (.slice (some ⟨go32, 0, none⟩) x13_3.length co20)) (v1 := (.slice (some ⟨go32, 0, none⟩) x13_3.length co20)) (ok := (fun k_ => some k_ ≠ (.slice (some ad130) x10_2.length co14 : Value).ownBlock)) (by (with_reducible repeat (first | apply Kd.R_alloc | apply Kd.R_drewN | apply Kd.R_drew)); exact HO_7.out) hg (.inl rfl)); have n1_ := Aside0.mk (Kd.R_after (v := (.slice (some ⟨go32, 0, none⟩) x13_3.length co20)) (v1 := (.slice (some ⟨go32, 0, none⟩) x13_3.length co20)) (ok := (fun k_ => some k_ ≠ (.slice (some ad124) x7_2.length co8 : Value).ownBlock)) (by (with_reducible repeat (first | apply Kd.R_alloc | apply Kd.R_drewN | apply Kd.R_drew)); exact HO_10.out) hg (.inl rfl)); have n2_ := Aside0.mk (hp_); have n3_ := Aside0.mk ((by rw [hw]; exact below_set (HB.out) GB32.out : Below w.heap.size w w34)); clear HO_7; clear HO_10; clear HO_13; clear HB; have HO_7 := n0_; have HO_10 := n1_; have HO_13 := n2_; have HB := n3_; clear n0_ n1_ n2_ n3_; clear hg hw hp_))
                                  (try simp only [← hl13_3])
                                  go_roundg k3
                                  case measure => have := HK1.out; have := HK2.out; have := HK3.out; omega
                                  case rel => exact ⟨(y141), (wrap64 (x40_3 + 1)), (by first | rfl | (simp; done) | (simp [*]; done) | (simp [wrap64]; done) | (generalize ByteArray.toList _ = l_; cases l_ <;> first | rfl | (simp; done))), H', ⟨by have := HK1.out; have := HK2.out; have := HK3.out; omega⟩, ⟨by (try simp only [hl7_1]); (try simp only [hl7_2]); (try simp only [hl10_2]); (try simp only [hl13_3]); (with_reducible repeat (first | apply Kd.R_alloc | apply Kd.R_drewN | apply Kd.R_drew)); exact HO_7.out⟩, ⟨by (try simp only [hl7_1]); (try simp only [hl7_2]); (try simp only [hl10_2]); (try simp only [hl13_3]); (with_reducible repeat (first | apply Kd.R_alloc | apply Kd.R_drewN | apply Kd.R_drew)); exact HO_10.out⟩, ⟨by (try simp only [hl7_1]); (try simp only [hl7_2]); (try simp only [hl10_2]); (try simp only [hl13_3]); (with_reducible repeat (first | apply Kd.R_alloc | apply Kd.R_drewN | apply Kd.R_drew)); exact HO_13.out⟩, ⟨by repeat (first | (with_reducible first | exact HB.out | apply below_alloc | apply pw_below_drewN | apply below_drew1) | exact HB.out)⟩⟩
                              · rw [if_neg c23] at H
                                exact absurd H (by simp)
                            · rw [if_neg c22] at H
                              exact absurd H (by simp)
                          · rw [if_neg c21] at H
                            have c21b0 : decide (x40_3 < (t131.length : Int)) = false := decide_eq_false c21
                            have c21x := c21b0
                            (try simp only [hl10_2] at c21x)
                            (try simp only [hl13_3] at c21x)
                            (try simp only [hl7_1] at c21x)
                            (try simp only [hl7_2] at c21x)
                            clear c21
                            replace H := Option.bind_eq_some_iff.mp H
                            obtain ⟨t134, A350, H⟩ := H
                            replace H : (if 0 ≤ x31_2 then (if x31_2 < (x10_2.length : Int) then (excelize_adjustRangeSheetName.l1 k3 t119 a2 x7_2 x22_1 (x10_2.set (x31_2 : Int).toNat t134) (t120.length : Int) x22_1 (t125.length : Int) (wrap64 (x31_2 + 1))) else (none)) else (none)) = some r := H
                            have A35 := Aside0.mk A350
                            clear A350
                            by_cases c36 : 0 ≤ x31_2
                            · rw [if_pos c36] at H
                              have c36b0 : decide (0 ≤ x31_2) = true := decide_eq_true c36
                              clear c36
                              by_cases c37 : x31_2 < (x10_2.length : Int)
                              · rw [if_pos c37] at H
                                have c37b0 : decide (x31_2 < (x10_2.length : Int)) = true := decide_eq_true c37
                                clear c37
                                obtain ⟨y135, hy135⟩ : ∃ y_ : List ByteArray, y_ = (x10_2.set (x31_2 : Int).toNat t134) := ⟨_, rfl⟩
                                replace H : (excelize_adjustRangeSheetName.l1 k3 t119 a2 x7_2 x22_1 y135 (t120.length : Int) x22_1 (t125.length : Int) (wrap64 (x31_2 + 1))) = some r := by first | (rw [hy135]; with_reducible exact H) | (have H2_ := (Option.bind_some _ _).symm.trans H; rw [hy135]; with_reducible exact H2_) | (have H2_ := (Option.bind_some _ _).symm.trans H; with_reducible exact H2_) | with_reducible exact H | (rw [hy135]; exact H) | exact H
                                have Ny135 := Aside0.mk hy135
                                clear hy135
                                have H' := Aside0.mk H
                                clear H
                                go_wp2_with (first | ((with_reducible refine gate_callee (f := 76) rfl ?_); refine goesL_ (some 60) rfl rfl Tryd.func76 (by kernel_rfl) rfl #[.slice Ao20 x13_3.length co20, .string (⟨#[33]⟩ : ByteArray)] rfl (by (try simp only [List.map_toArray, List.map_cons, List.map_nil]); first | done | rfl | (simp only [List.length_drop, List.length_take]; rfl)) ?_; (with_reducible refine (Go.Proofs.YtfbenlenihlpbaaDoor.Given.strings_Join.calls _ _ x13_3 (⟨#[33]⟩ : ByteArray) t134 _ ?side1 ?side2 A35.out).mono ?_); (case side1 => repeat (first | exact (Kd.R_reads' HO_13.out).2.2 | (with_reducible refine Kd.C_alloc ?_ _) | (with_reducible refine Kd.C_drewN ?_ _) | (with_reducible refine Kd.C_drew ?_))); (case side2 => exact (Kd.R_reads' HO_13.out).2.1); rintro e w39 ⟨rfl, hb⟩; refine ⟨_, rfl, ?_⟩; have n0_ := Aside0.mk (Kd.R_below (by (with_reducible repeat (first | apply Kd.R_alloc | apply Kd.R_drewN | apply Kd.R_drew)); exact HO_7.out) hb); have n1_ := Aside0.mk (Kd.R_below (by (with_reducible repeat (first | apply Kd.R_alloc | apply Kd.R_drewN | apply Kd.R_drew)); exact HO_10.out) hb); have n2_ := Aside0.mk (Kd.R_below (by (with_reducible repeat (first | apply Kd.R_alloc | apply Kd.R_drewN | apply Kd.R_drew)); exact HO_13.out) hb); have n3_ := Aside0.mk (below_step (by repeat (first | (with_reducible first | exact HB.out | apply below_alloc | apply pw_below_drewN | apply below_drew1) | exact HB.out)) hb); clear HO_7; clear HO_10; clear HO_13; clear HB; have HO_7 := n0_; have HO_10 := n1_; have HO_13 := n2_; have HB := n3_; clear n0_ n1_ n2_ n3_; (try clear hb); (try clear hb2); (try clear hk); (try clear hi); have p38 : 0 ≤ (x31_2 : Int) := of_decide_eq_true (by first | (with_reducible assumption) | assumption); have q38 : (x31_2 : Int) < ((x10_2.length : Int) : Int) := of_decide_eq_true (by first | (with_reducible assumption) | assumption); obtain ⟨go38, co38, eo38, gb38, gl38, cl38, HG38⟩ := Kd.R_form HO_10.out (by omega); (first | cases eo38 | (injection eo38 with ea_ en_ ec_; (first | subst ea_ | (injection ea_ with ea_; subst ea_)); subst ec_; clear en_)); have GB38 := Aside0.mk gb38; have GG38 := Aside0.mk HG38; clear gb38 gl38 HG38; (first | simp only [add_plain] at hx130_0 | skip); obtain ⟨hx38_0, hf38_0⟩ := Kd.R_celln (⟨#[]⟩ : ByteArray) HO_10.out (x31_2 : Int) p38 q38; replace p38 := eq_true p38; replace q38 := eq_true q38; obtain ⟨hy40_, hz40_⟩ := Kd.R_celln (⟨#[]⟩ : ByteArray) HO_10.out (x31_2 : Int) (of_decide_eq_true (by first | (with_reducible assumption) | assumption)) (of_decide_eq_true (by first | (with_reducible assumption) | assumption)); have HP40 := Kd.R_putg HO_10.out (x31_2 : Int) t134) | ((with_reducible refine gate_store (t := 9) (p := 61) rfl ?_); refine store_event (t := 9) (p := 61) (v := ?vo_w41) (w1 := (w39.setCell ⟨go38, (x31_2 : Int).toNat, none⟩ (.string t134))) ?hg ?ho ?hn ?hr ?_; (case ho => rfl); (case hg => rfl); (case hn => rfl); (case hr => first | (go_simp; done) | (go_simp; rfl)); intro w41 hw; have hg : w39.grownBy w41 (some go38) := (by rw [hw]; exact HP40.2); have hp_ : Kd.R Kd.string 9 w41 w.heap.size (fun k_ => some k_ ≠ (.slice (some ad124) x7_2.length co8 : Value).ownBlock ∧ some k_ ≠ (.slice Ao20 x13_3.length co20 : Value).ownBlock) (.slice (some ⟨go38, 0, none⟩) x10_2.length co14) y135 := (by rw [hw, Ny135.out]; exact HP40.1); clear HP40; have n0_ := Aside0.mk (Kd.R_after (v := (.slice (some ⟨go38, 0, none⟩) x10_2.length co14)) (v1 := (.slice (some ⟨go38, 0, none⟩) x10_2.length co14)) (ok := (fun k_ => some k_ ≠ (.slice Ao20 x13_3.length co20 : Value).ownBlock)) (by (with_reducible repeat (first | apply Kd.R_alloc | apply Kd.R_drewN | apply Kd.R_drew)); exact Kd.R_mono HO_7.out (fun _ hk => ⟨hk.2, hk.1⟩)) hg (.inl rfl)); have n1_ := Aside0.mk (hp_); have n2_ := Aside0.mk (Kd.R_after (v := (.slice (some ⟨go38, 0, none⟩) x10_2.length co14)) (v1 := (.slice (some ⟨go38, 0, none⟩) x10_2.length co14)) (ok := (fun k_ => some k_ ≠ (.slice (some ad124) x7_2.length co8 : Value).ownBlock)) (by (with_reducible repeat (first | apply Kd.R_alloc | apply Kd.R_drewN | apply Kd.R_drew)); exact HO_13.out) hg (.inl rfl)); have n3_ := Aside0.mk ((by rw [hw]; exact below_set (HB.out) GB38.out : Below w.heap.size w w41)); clear HO_7; clear HO_10; clear HO_13; clear HB; have HO_7 := n0_; have HO_10 := n1_; have HO_13 := n2_; have HB := n3_; clear n0_ n1_ n2_ n3_; clear hg hw hp_))
                                (try simp only [← hl7_2, ← hl10_2, ← hl13_3])
                                go_roundg k3
                                case measure => have := HK1.out; have := HK2.out; have := HK3.out; omega
                                case rel => exact ⟨(x7_2), (y135), (wrap64 (x31_2 + 1)), (by first | rfl | (simp; done) | (simp [*]; done) | (simp [wrap64]; done) | (generalize ByteArray.toList _ = l_; cases l_ <;> first | rfl | (simp; done))), H', ⟨by have := HK1.out; have := HK2.out; have := HK3.out; omega⟩, ⟨by (try simp only [hl7_1]); (try simp only [hl7_2]); (try simp only [hl10_2]); (try simp only [hl13_3]); (with_reducible repeat (first | apply Kd.R_alloc | apply Kd.R_drewN | apply Kd.R_drew)); exact Kd.R_mono HO_7.out (fun _ hk => hk.2)⟩, ⟨by (try simp only [hl7_1]); (try simp only [hl7_2]); (try simp only [hl10_2]); (try simp only [hl13_3]); (with_reducible repeat (first | apply Kd.R_alloc | apply Kd.R_drewN | apply Kd.R_drew)); exact Kd.R_mono HO_10.out (fun _ hk => hk.1)⟩, ⟨by repeat (first | (with_reducible first | exact HB.out | apply below_alloc | apply pw_below_drewN | apply below_drew1) | exact HB.out)⟩⟩
                              · rw [if_neg c37] at H
                                exact absurd H (by simp)
                            · rw [if_neg c36] at H
                              exact absurd H (by simp)
                    · rw [if_neg c17] at H
                      exact absurd H (by simp)
                  · rw [if_neg c16] at H
                    exact absurd H (by simp)
                · rw [if_neg c15] at H
                  have c15b0 : decide (x31_2 < (t125.length : Int)) = false := decide_eq_false c15
                  have c15x := c15b0
                  (try simp only [hl10_2] at c15x)
                  (try simp only [hl13_3] at c15x)
                  (try simp only [hl7_1] at c15x)
                  (try simp only [hl7_2] at c15x)
                  clear c15
                  replace H := Option.bind_eq_some_iff.mp H
                  obtain ⟨t128, A420, H⟩ := H
                  replace H : (if 0 ≤ x22_1 then (if x22_1 < (x7_2.length : Int) then (excelize_adjustRangeSheetName.l0 k2 t119 a2 (x7_2.set (x22_1 : Int).toNat t128) (t120.length : Int) (wrap64 (x22_1 + 1))) else (none)) else (none)) = some r := H
                  have A42 := Aside0.mk A420
                  clear A420
                  by_cases c43 : 0 ≤ x22_1
                  · rw [if_pos c43] at H
                    have c43b0 : decide (0 ≤ x22_1) = true := decide_eq_true c43
                    clear c43
                    by_cases c44 : x22_1 < (x7_2.length : Int)
                    · rw [if_pos c44] at H
                      have c44b0 : decide (x22_1 < (x7_2.length : Int)) = true := decide_eq_true c44
                      clear c44
                      obtain ⟨y129, hy129⟩ : ∃ y_ : List ByteArray, y_ = (x7_2.set (x22_1 : Int).toNat t128) := ⟨_, rfl⟩
                      replace H : (excelize_adjustRangeSheetName.l0 k2 t119 a2 y129 (t120.length : Int) (wrap64 (x22_1 + 1))) = some r := by first | (rw [hy129]; with_reducible exact H) | (have H2_ := (Option.bind_some _ _).symm.trans H; rw [hy129]; with_reducible exact H2_) | (have H2_ := (Option.bind_some _ _).symm.trans H; with_reducible exact H2_) | with_reducible exact H | (rw [hy129]; exact H) | exact H
                      have Ny129 := Aside0.mk hy129
                      clear hy129
                      have H' := Aside0.mk H
                      clear H
                      go_wp2_with (first | ((with_reducible refine gate_callee (f := 76) rfl ?_); refine goesL_ (some 66) rfl rfl Tryd.func76 (by kernel_rfl) rfl #[.slice Ao14 x10_2.length co14, .string (⟨#[58]⟩ : ByteArray)] rfl (by (try simp only [List.map_toArray, List.map_cons, List.map_nil]); first | done | rfl | (simp only [List.length_drop, List.length_take]; rfl)) ?_; (with_reducible refine (Go.Proofs.YtfbenlenihlpbaaDoor.Given.strings_Join.calls _ _ x10_2 (⟨#[58]⟩ : ByteArray) t128 _ ?side1 ?side2 A42.out).mono ?_); (case side1 => repeat (first | exact (Kd.R_reads' HO_10.out).2.2 | (with_reducible refine Kd.C_alloc ?_ _) | (with_reducible refine Kd.C_drewN ?_ _) | (with_reducible refine Kd.C_drew ?_))); (case side2 => exact (Kd.R_reads' HO_10.out).2.1); rintro e w46 ⟨rfl, hb⟩; refine ⟨_, rfl, ?_⟩; have n0_ := Aside0.mk (Kd.R_below (by (with_reducible repeat (first | apply Kd.R_alloc | apply Kd.R_drewN | apply Kd.R_drew)); exact HO_7.out) hb); have n1_ := Aside0.mk (Kd.R_below (by (with_reducible repeat (first | apply Kd.R_alloc | apply Kd.R_drewN | apply Kd.R_drew)); exact HO_10.out) hb); have n2_ := Aside0.mk (below_step (by repeat (first | (with_reducible first | exact HB.out | apply below_alloc | apply pw_below_drewN | apply below_drew1) | exact HB.out)) hb); clear HO_7; clear HO_10; clear HB; have HO_7 := n0_; have HO_10 := n1_; have HB := n2_; clear n0_ n1_ n2_; (try clear hb); (try clear hb2); (try clear hk); (try clear hi); have p45 : 0 ≤ (x22_1 : Int) := of_decide_eq_true (by first | (with_reducible assumption) | assumption); have q45 : (x22_1 : Int) < ((x7_2.length : Int) : Int) := of_decide_eq_true (by first | (with_reducible assumption) | assumption); obtain ⟨go45, co45, eo45, gb45, gl45, cl45, HG45⟩ := Kd.R_form HO_7.out (by omega); (first | cases eo45 | (injection eo45 with ea_ en_ ec_; (first | subst ea_ | (injection ea_ with ea_; subst ea_)); subst ec_; clear en_)); have GB45 := Aside0.mk gb45; have GG45 := Aside0.mk HG45; clear gb45 gl45 HG45; (first | simp only [add_plain] at hx124_0 | skip); obtain ⟨hx45_0, hf45_0⟩ := Kd.R_celln (⟨#[]⟩ : ByteArray) HO_7.out (x22_1 : Int) p45 q45; replace p45 := eq_true p45; replace q45 := eq_true q45; obtain ⟨hy47_, hz47_⟩ := Kd.R_celln (⟨#[]⟩ : ByteArray) HO_7.out (x22_1 : Int) (of_decide_eq_true (by first | (with_reducible assumption) | assumption)) (of_decide_eq_true (by first | (with_reducible assumption) | assumption)); have HP47 := Kd.R_putg HO_7.out (x22_1 : Int) t128) | ((with_reducible refine gate_store (t := 9) (p := 67) rfl ?_); refine store_event (t := 9) (p := 67) (v := ?vo_w48) (w1 := (w46.setCell ⟨go45, (x22_1 : Int).toNat, none⟩ (.string t128))) ?hg ?ho ?hn ?hr ?_; (case ho => rfl); (case hg => rfl); (case hn => rfl); (case hr => first | (go_simp; done) | (go_simp; rfl)); intro w48 hw; have hg : w46.grownBy w48 (some go45) := (by rw [hw]; exact HP47.2); have hp_ : Kd.R Kd.string 9 w48 w.heap.size (fun k_ => some k_ ≠ (.slice Ao14 x10_2.length co14 : Value).ownBlock) (.slice (some ⟨go45, 0, none⟩) x7_2.length co8) y129 := (by rw [hw, Ny129.out]; exact HP47.1); clear HP47; have n0_ := Aside0.mk (hp_); have n1_ := Aside0.mk (Kd.R_after (v := (.slice (some ⟨go45, 0, none⟩) x7_2.length co8)) (v1 := (.slice (some ⟨go45, 0, none⟩) x7_2.length co8)) (ok := (fun _ => True)) (by (with_reducible repeat (first | apply Kd.R_alloc | apply Kd.R_drewN | apply Kd.R_drew)); exact Kd.R_mono HO_10.out (fun _ hk => ⟨trivial, hk⟩)) hg (.inl rfl)); have n2_ := Aside0.mk ((by rw [hw]; exact below_set (HB.out) GB45.out : Below w.heap.size w w48)); clear HO_7; clear HO_10; clear HB; have HO_7 := n0_; have HO_10 := n1_; have HB := n2_; clear n0_ n1_ n2_; clear hg hw hp_))
                      (try simp only [← hl7_1, ← hl7_2, ← hl10_2])
                      go_roundg k2
                      case measure => have := HK1.out; have := HK2.out; omega
                      case rel => exact ⟨(y129), (wrap64 (x22_1 + 1)), (by first | rfl | (simp; done) | (simp [*]; done) | (simp [wrap64]; done) | (generalize ByteArray.toList _ = l_; cases l_ <;> first | rfl | (simp; done))), H', ⟨by have := HK1.out; have := HK2.out; omega⟩, ⟨by (try simp only [hl7_1]); (try simp only [hl7_2]); (try simp only [hl10_2]); (with_reducible repeat (first | apply Kd.R_alloc | apply Kd.R_drewN | apply Kd.R_drew)); exact Kd.R_mono HO_7.out (fun _ hk => trivial)⟩, ⟨by repeat (first | (with_reducible first | exact HB.out | apply below_alloc | apply pw_below_drewN | apply below_drew1) | exact HB.out)⟩⟩
                    · rw [if_neg c44] at H
                      exact absurd H (by simp)
                  · rw [if_neg c43] at H
                    exact absurd H (by simp)
          · rw [if_neg c11] at H
            exact absurd H (by simp)
        · rw [if_neg c10] at H
          exact absurd H (by simp)
      · rw [if_neg c9] at H
        have c9b0 : decide (x22_1 < (t120.length : Int)) = false := decide_eq_false c9
        have c9x := c9b0
        (try simp only [hl10_2] at c9x)
        (try simp only [hl13_3] at c9x)
        (try simp only [hl7_1] at c9x)
        (try simp only [hl7_2] at c9x)
        clear c9
        replace H := Option.bind_eq_some_iff.mp H
        obtain ⟨t123, A490, H⟩ := H
        replace H : (some t123) = some r := H
        have A49 := Aside0.mk A490
        clear A490
        obtain rfl := Option.some.inj H
        go_wp2_with (first | ((with_reducible refine gate_callee (f := 76) rfl ?_); refine goesL_ (some 70) rfl rfl Tryd.func76 (by kernel_rfl) rfl #[.slice Ao8 x7_1.length co8, .string (⟨#[44]⟩ : ByteArray)] rfl (by (try simp only [List.map_toArray, List.map_cons, List.map_nil]); first | done | rfl | (simp only [List.length_drop, List.length_take]; rfl)) ?_; (with_reducible refine (Go.Proofs.YtfbenlenihlpbaaDoor.Given.strings_Join.calls _ _ x7_1 (⟨#[44]⟩ : ByteArray) t123 _ ?side1 ?side2 A49.out).mono ?_); (case side1 => repeat (first | exact (Kd.R_reads' HO_7.out).2.2 | (with_reducible refine Kd.C_alloc ?_ _) | (with_reducible refine Kd.C_drewN ?_ _) | (with_reducible refine Kd.C_drew ?_))); (case side2 => exact (Kd.R_reads' HO_7.out).2.1); rintro e w50 ⟨rfl, hb⟩; refine ⟨_, rfl, ?_⟩; have n0_ := Aside0.mk (Kd.R_below (by (with_reducible repeat (first | apply Kd.R_alloc | apply Kd.R_drewN | apply Kd.R_drew)); exact HO_7.out) hb); have n1_ := Aside0.mk (below_step (by repeat (first | (with_reducible first | exact HB.out | apply below_alloc | apply pw_below_drewN | apply below_drew1) | exact HB.out)) hb); clear HO_7; clear HB; have HO_7 := n0_; have HB := n1_; clear n0_ n1_; (try clear hb); (try clear hb2); (try clear hk); (try clear hi)))
        go_ret
        exact ⟨by first | rfl | (simp [errW_none, errW_some] <;> rfl) | (simp [*, errW_none, errW_some] <;> rfl), by repeat (first | (with_reducible first | exact HB.out | apply below_alloc | apply pw_below_drewN | apply below_drew1) | exact HB.out)⟩

/-! ### excelize_DoorRename: function 49 -/
def excelize_DoorRename.f (k : Nat) (a0 : ByteArray) (a1 : ByteArray) (a2 : ByteArray) : Option (ByteArray) := (excelize_adjustRangeSheetName.f k a0 a1 a2).bind fun t142 => (some t142)
theorem excelize_DoorRename.mono : ∀ a0 a1 a2 k, LeO (excelize_DoorRename.f k a0 a1 a2) (excelize_DoorRename.f (k + 1) a0 a1 a2) := by
  intro a0 a1 a2 k
  unfold excelize_DoorRename.f
  repeat' first
      | (with_reducible exact excelize_adjustRangeSheetName.mono _ _ _ _)
      | (with_reducible exact LeO.refl _)
      | (with_reducible exact LeO.none _)
      | (with_reducible refine LeO.ite ?_ ?_)
      | (with_reducible refine LeO.bind ?_ (fun _ => ?_))
      | exact excelize_adjustRangeSheetName.mono _ _ _ _
      | exact LeO.none _
      | refine LeO.ite ?_ ?_
      | refine LeO.bind ?_ (fun _ => ?_)
set_option maxHeartbeats 8000000 in
set_option maxRecDepth 100000 in
theorem excelize_DoorRename.calls (k : Nat) (a0 : ByteArray) (a1 : ByteArray) (a2 : ByteArray) (r : ByteArray) (w : World) (hU : Letters.Props w) (h : excelize_DoorRename.f k a0 a1 a2 = some r) :
    Calls Tryd.prog 49 #[.string a0, .string a1, .string a2] w fun e w' => e = .returned (.string r) ∧ Below w.heap.size w w' := by
  have HU := Aside0.mk hU
  clear hU
  have HB := Aside0.mk (Below.refl w.heap.size w)
  have H : ((excelize_adjustRangeSheetName.f k a0 a1 a2).bind fun t142 => (some t142)) = some r := h
  clear h
  replace H := Option.bind_eq_some_iff.mp H
  obtain ⟨t142, A40, H⟩ := H
  replace H : (some t142) = some r := H
  have A4 := Aside0.mk A40
  clear A40
  obtain rfl := Option.some.inj H
  go_enter Tryd.func49, Tryd.ntmps49
  go_wp2_with (first | ((with_reducible refine gate_callee (f := 65) rfl ?_); refine goesL_ (some 10) rfl rfl Tryd.func65 (by kernel_rfl) rfl #[.string a0, .string a1, .string a2] rfl (by (try simp only [List.map_toArray, List.map_cons, List.map_nil]); first | done | rfl | (simp only [List.length_drop, List.length_take]; rfl)) ?_; (with_reducible refine (excelize_adjustRangeSheetName.calls k a0 a1 a2 t142 _ (Letters.Props.below HU.out (by repeat (first | (with_reducible first | exact HB.out | apply below_alloc | apply pw_below_drewN | apply below_drew1) | exact HB.out))) A4.out).mono ?_); rintro e w5 ⟨rfl, hb⟩; refine ⟨_, rfl, ?_⟩; have n0_ := Aside0.mk (below_step (by repeat (first | (with_reducible first | exact HB.out | apply below_alloc | apply pw_below_drewN | apply below_drew1) | exact HB.out)) hb); clear HB; have HB := n0_; clear n0_; (try clear hb); (try clear hb2); (try clear hk); (try clear hi)))
  go_ret
  exact ⟨by first | rfl | (simp [errW_none, errW_some] <;> rfl) | (simp [*, errW_none, errW_some] <;> rfl), by repeat (first | (with_reducible first | exact HB.out | apply below_alloc | apply pw_below_drewN | apply below_drew1) | exact HB.out)⟩

/-! ### impl_Rename: function 35 -/
def impl_Rename.f (k : Nat) (a0 : ByteArray) (a1 : ByteArray) (a2 : ByteArray) : Option (ByteArray) := (excelize_DoorRename.f k a0 a1 a2).bind fun t143 => (some t143)
theorem impl_Rename.mono : ∀ a0 a1 a2 k, LeO (impl_Rename.f k a0 a1 a2) (impl_Rename.f (k + 1) a0 a1 a2) := by
  intro a0 a1 a2 k
  unfold impl_Rename.f
  repeat' first
      | (with_reducible exact excelize_DoorRename.mono _ _ _ _)
      | (with_reducible exact LeO.refl _)
      | (with_reducible exact LeO.none _)
      | (with_reducible refine LeO.ite ?_ ?_)
      | (with_reducible refine LeO.bind ?_ (fun _ => ?_))
      | exact excelize_DoorRename.mono _ _ _ _
      | exact LeO.none _
      | refine LeO.ite ?_ ?_
      | refine LeO.bind ?_ (fun _ => ?_)
set_option maxHeartbeats 8000000 in
set_option maxRecDepth 100000 in
theorem impl_Rename.calls (k : Nat) (a0 : ByteArray) (a1 : ByteArray) (a2 : ByteArray) (r : ByteArray) (w : World) (hU : Letters.Props w) (h : impl_Rename.f k a0 a1 a2 = some r) :
    Calls Tryd.prog 35 #[.string a0, .string a1, .string a2] w fun e w' => e = .returned (.string r) ∧ Below w.heap.size w w' := by
  have HU := Aside0.mk hU
  clear hU
  have HB := Aside0.mk (Below.refl w.heap.size w)
  have H : ((excelize_DoorRename.f k a0 a1 a2).bind fun t143 => (some t143)) = some r := h
  clear h
  replace H := Option.bind_eq_some_iff.mp H
  obtain ⟨t143, A40, H⟩ := H
  replace H : (some t143) = some r := H
  have A4 := Aside0.mk A40
  clear A40
  obtain rfl := Option.some.inj H
  go_enter Tryd.func35, Tryd.ntmps35
  go_wp2_with (first | ((with_reducible refine gate_callee (f := 49) rfl ?_); refine goesL_ (some 10) rfl rfl Tryd.func49 (by kernel_rfl) rfl #[.string a0, .string a1, .string a2] rfl (by (try simp only [List.map_toArray, List.map_cons, List.map_nil]); first | done | rfl | (simp only [List.length_drop, List.length_take]; rfl)) ?_; (with_reducible refine (excelize_DoorRename.calls k a0 a1 a2 t143 _ (Letters.Props.below HU.out (by repeat (first | (with_reducible first | exact HB.out | apply below_alloc | apply pw_below_drewN | apply below_drew1) | exact HB.out))) A4.out).mono ?_); rintro e w5 ⟨rfl, hb⟩; refine ⟨_, rfl, ?_⟩; have n0_ := Aside0.mk (below_step (by repeat (first | (with_reducible first | exact HB.out | apply below_alloc | apply pw_below_drewN | apply below_drew1) | exact HB.out)) hb); clear HB; have HB := n0_; clear n0_; (try clear hb); (try clear hb2); (try clear hk); (try clear hi)))
  go_ret
  exact ⟨by first | rfl | (simp [errW_none, errW_some] <;> rfl) | (simp [*, errW_none, errW_some] <;> rfl), by repeat (first | (with_reducible first | exact HB.out | apply below_alloc | apply pw_below_drewN | apply below_drew1) | exact HB.out)⟩

end Go.Proofs.YtfbenlenihlpbaaDoor.PRn
