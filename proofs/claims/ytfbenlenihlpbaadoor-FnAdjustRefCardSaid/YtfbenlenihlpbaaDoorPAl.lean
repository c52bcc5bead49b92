/- Contracts of functions that the text "Al" uses: the call ends in what the plain Lean function says, where that says something. Written by a program of this session. No conditions. -/
import Derived.Test.YtfbenlenihlpbaaDoorProg
import Derived.Below
import Derived.Deep.Draws
import Derived.Deep.AppendLies
import Derived.Maps.AppendAt
import Derived.OwnWalk
import Derived.Laws.BytesArg
import Derived.Laws.MakeOwn
import Derived.Laws.OwnMore
import Derived.Deep.OwnRows
import Derived.Tactics
import Derived.Lib.ConvBytes
import Derived.Laws.Slices
import Derived.WalkKit
import Derived.KernelRfl
import Derived.RowKit3
import Derived.Deep.LoopGhost
import Derived.Deep.QuietTactic
import Derived.BigQuiet
import Derived.WideLaws
import Derived.Deep.DeepCutAuto
import Derived.Deep.CutBlock
import Derived.Deep.RegionHeld3
import Derived.Laws.Rows
import Derived.Lib.AppendStr
import Derived.ArgAppend
import Derived.Laws.IdiomCopy
import Derived.OrdersHeld
import Derived.Laws.BitsLemmas
import Derived.RowKit
import Derived.Test.YtfbenlenihlpbaaDoorGiven
import Derived.Test.YtfbenlenihlpbaaDoorPFnColsx1
import Derived.Test.YtfbenlenihlpbaaDoorPColumnNamex1
import Derived.Test.YtfbenlenihlpbaaDoorPDigitsx1
import Derived.Test.YtfbenlenihlpbaaDoorPgridInx1
import Derived.Test.YtfbenlenihlpbaaDoorPgridNumberx1
import Derived.Test.YtfbenlenihlpbaaDoorPRox3
import Derived.Test.YtfbenlenihlpbaaDoorEqArr
import Derived.Test.YtfbenlenihlpbaaDoorAdj
import Derived.Test.YtfbenlenihlpbaaDoorWWords
import Derived.Test.YtfbenlenihlpbaaDoorWLast
import Derived.Test.YtfbenlenihlpbaaDoorWTab
import Derived.Test.YtfbenlenihlpbaaDoorWFour
import Derived.Test.YtfbenlenihlpbaaDoorWQPut
import Derived.Test.YtfbenlenihlpbaaDoorWApart
import Derived.Test.YtfbenlenihlpbaaDoorWArr
import Derived.Test.YtfbenlenihlpbaaDoorWZeros
import Derived.Test.YtfbenlenihlpbaaDoorWFoot
import Derived.Test.YtfbenlenihlpbaaDoorWKept
import Derived.Test.YtfbenlenihlpbaaDoorWShare
import Derived.Test.YtfbenlenihlpbaaDoorWN
import Derived.Test.YtfbenlenihlpbaaDoorWFootNe
import Derived.Test.YtfbenlenihlpbaaDoorWAt
import Derived.Test.YtfbenlenihlpbaaDoorWEqStruct
import Derived.Test.YtfbenlenihlpbaaDoorWRepsOne
import Derived.Test.YtfbenlenihlpbaaDoorWInv
import Derived.Test.YtfbenlenihlpbaaDoorWInvWords
import Derived.Test.YtfbenlenihlpbaaDoorWGuard
import Derived.Test.YtfbenlenihlpbaaDoorWNEv
import Derived.Test.YtfbenlenihlpbaaDoorWMore
section
namespace Go.Proofs.YtfbenlenihlpbaaDoor.PAl
open Go.RowKit Go.Proofs.YtfbenlenihlpbaaDoorW.PrintWords Go.Proofs.YtfbenlenihlpbaaDoorW.PrintLast Go.Proofs.YtfbenlenihlpbaaDoorW.PrintMore
attribute [local go_sem] max2_int min2_int max_two min_two max_three min_three max_four min_four   -- for this text's walks alone
set_option linter.unusedVariables false
set_option linter.unusedSimpArgs false



def errW : Option Int → Value
  | none => .nilIface
  | some c => .iface 0 (.int .i64 c)
theorem errW_none : errW none = .nilIface := rfl
theorem errW_some (c : Int) : errW (some c) = .iface 0 (.int .i64 c) := rfl

theorem info22 : (Tryd.prog.info? 22).map (fun i => (i.zero, i.size, i.bytes)) = some (some (.agg #[(.int .i64 0), (.int .i64 0), (.int .i64 0), (.int .i64 0)]), 4, 32) := by kernel_rfl
-- the values' own types
/-! #### struct type 22 -/
structure S22 where
  f0 : Int
  f1 : Int
  f2 : Int
  f3 : Int
def z22 : S22 := ⟨(0 : Int), (0 : Int), (0 : Int), (0 : Int)⟩
def k22 : Kd S22 := Kd.iso (Kd.pair (Kd.int .i64) (Kd.pair (Kd.int .i64) (Kd.pair (Kd.int .i64) (Kd.int .i64)))) (fun x : S22 => (x.f0, x.f1, x.f2, x.f3))
theorem k22_open {w : World} {x : S22} {cs : List Value} (h : k22.K w x cs) : cs = [.int .i64 x.f0, .int .i64 x.f1, .int .i64 x.f2, .int .i64 x.f3] := by
  obtain ⟨_, _, rfl, rfl, ⟨_, _, rfl, rfl, ⟨_, _, rfl, rfl, rfl⟩⟩⟩ := h
  exact rfl
theorem k22_openM {w : World} {base : Nat} {ok : Nat → Prop} {x : S22} {cs : List Value} (h : k22.M w base ok x cs) : cs = [.int .i64 x.f0, .int .i64 x.f1, .int .i64 x.f2, .int .i64 x.f3] := by
  obtain ⟨_, _, rfl, rfl, ⟨_, _, rfl, rfl, ⟨_, _, rfl, rfl, rfl⟩⟩⟩ := h
  exact rfl
theorem k22_mk (w : World) (x : S22)  : k22.K w x [.int .i64 x.f0, .int .i64 x.f1, .int .i64 x.f2, .int .i64 x.f3] := ⟨[.int .i64 x.f0], [.int .i64 x.f1, .int .i64 x.f2, .int .i64 x.f3], rfl, rfl, ⟨[.int .i64 x.f1], [.int .i64 x.f2, .int .i64 x.f3], rfl, rfl, ⟨[.int .i64 x.f2], [.int .i64 x.f3], rfl, rfl, rfl⟩⟩⟩
theorem k22_mkM (w : World) (base : Nat) (ok : Nat → Prop) (x : S22)  : k22.M w base ok x [.int .i64 x.f0, .int .i64 x.f1, .int .i64 x.f2, .int .i64 x.f3] := ⟨[.int .i64 x.f0], [.int .i64 x.f1, .int .i64 x.f2, .int .i64 x.f3], rfl, rfl, ⟨[.int .i64 x.f1], [.int .i64 x.f2, .int .i64 x.f3], rfl, rfl, ⟨[.int .i64 x.f2], [.int .i64 x.f3], rfl, rfl, rfl⟩⟩⟩
def rd_T22 (xs : List S22) (i : Int) : S22 := xs.getD i.toNat z22
theorem at_T22 {w : World} {A : Option Addr} {n : Nat} {xs : List S22} (h : Kd.C k22 w A n xs) (i : Int) (h0 : 0 ≤ i) (h1 : i < n) : ∃ ad , A = some ad ∧ w.cell? (ad.add (i.toNat * 4)) = some (.int .i64 (rd_T22 xs i).f0) ∧ w.cell? ⟨(ad.add (i.toNat * 4)).block, (ad.add (i.toNat * 4)).off + 1, none⟩ = some (.int .i64 (rd_T22 xs i).f1) ∧ w.cell? ⟨(ad.add (i.toNat * 4)).block, (ad.add (i.toNat * 4)).off + 2, none⟩ = some (.int .i64 (rd_T22 xs i).f2) ∧ w.cell? ⟨(ad.add (i.toNat * 4)).block, (ad.add (i.toNat * 4)).off + 3, none⟩ = some (.int .i64 (rd_T22 xs i).f3) := by
  obtain ⟨ad, c, e, _, hK, hc0⟩ := Kd.C_get h z22 i h0 h1
  have hc : ∀ j u, c[j]? = some u → w.cell? (ad.add (i.toNat * 4 + j)) = some u := hc0
  obtain rfl := k22_open hK
  exact ⟨ad, e, hc 0 _ rfl, by rw [← add_field _ _ 1 (by omega)]; exact hc 1 _ rfl, by rw [← add_field _ _ 2 (by omega)]; exact hc 2 _ rfl, by rw [← add_field _ _ 3 (by omega)]; exact hc 3 _ rfl⟩

end Go.Proofs.YtfbenlenihlpbaaDoor.PAl
end

section
namespace Go.Proofs.YtfbenlenihlpbaaDoor.PAl
open Go.RowKit Go.Proofs.YtfbenlenihlpbaaDoorW.PrintWords Go.Proofs.YtfbenlenihlpbaaDoorW.PrintLast Go.Proofs.YtfbenlenihlpbaaDoorW.PrintMore
attribute [local go_sem] max2_int min2_int max_two min_two max_three min_three max_four min_four   -- for this text's walks alone
set_option linter.unusedVariables false
set_option linter.unusedSimpArgs false

/-! ### spec_GridArea: function 15 -/
def spec_GridArea.j0 : Nat → Int → Int → Int → Int → Bool → Option (Int × Int × Int × Int)
  | 0, _, _, _, _, _ => none
  | k + 1, x3, x4, x5, x6, x38 => if x38 = true then (if x6 < 60 then (some (x3, x4, x5, wrap64 (x6 + 1))) else (some (x3, wrap64 (x4 - 1), x5, x6))) else (some (x3, x4, x5, x6))
def spec_GridArea.f (k : Nat) (a0_0 : Int) (a0_1 : Int) (a0_2 : Int) (a0_3 : Int) : Option (Int × Int × Int × Int) := (Go.Proofs.YtfbenlenihlpbaaDoor.PgridIn.spec_gridIn.f a0_0 30).bind fun t103 => ((Go.Proofs.YtfbenlenihlpbaaDoor.PgridIn.spec_gridIn.f a0_1 60).bind fun t104 => ((Go.Proofs.YtfbenlenihlpbaaDoor.PgridIn.spec_gridIn.f a0_2 30).bind fun t105 => ((Go.Proofs.YtfbenlenihlpbaaDoor.PgridIn.spec_gridIn.f a0_3 60).bind fun t106 => (if (mn t103 t105) = (mx t103 t105) then (spec_GridArea.j0 k (mn t103 t105) (mn t104 t106) (mx t103 t105) (mx t104 t106) ((mn t104 t106) == (mx t104 t106))) else (spec_GridArea.j0 k (mn t103 t105) (mn t104 t106) (mx t103 t105) (mx t104 t106) false)))))
theorem spec_GridArea.mono_l : ∀ k, (∀ y0 y1 y2 y3 y4, LeO (spec_GridArea.j0 k y0 y1 y2 y3 y4) (spec_GridArea.j0 (k + 1) y0 y1 y2 y3 y4))
  | 0 => fun _ _ _ _ _ r h => by simp [spec_GridArea.j0] at h
  | k + 1 => by
    have ih0 := spec_GridArea.mono_l k
    · intro y0 y1 y2 y3 y4
      unfold spec_GridArea.j0
      repeat' first
      | (with_reducible exact ih0 _ _ _ _ _)
      | (with_reducible exact LeO.refl _)
      | (with_reducible exact LeO.none _)
      | (with_reducible refine LeO.ite ?_ ?_)
      | (with_reducible refine LeO.bind ?_ (fun _ => ?_))
      | exact ih0 _ _ _ _ _
      | exact LeO.none _
      | refine LeO.ite ?_ ?_
      | refine LeO.bind ?_ (fun _ => ?_)
theorem spec_GridArea.mono : ∀ a0 a1 a2 a3 k, LeO (spec_GridArea.f k a0 a1 a2 a3) (spec_GridArea.f (k + 1) a0 a1 a2 a3) := by
  intro a0 a1 a2 a3 k
  have ih0 := spec_GridArea.mono_l k
  unfold spec_GridArea.f
  repeat' first
      | (with_reducible exact ih0 _ _ _ _ _)
      | (with_reducible exact LeO.refl _)
      | (with_reducible exact LeO.none _)
      | (with_reducible refine LeO.ite ?_ ?_)
      | (with_reducible refine LeO.bind ?_ (fun _ => ?_))
      | exact ih0 _ _ _ _ _
      | exact LeO.none _
      | refine LeO.ite ?_ ?_
      | refine LeO.bind ?_ (fun _ => ?_)
set_option maxHeartbeats 8000000 in
set_option maxRecDepth 100000 in
theorem spec_GridArea.calls (k : Nat) (a0_0 : Int) (a0_1 : Int) (a0_2 : Int) (a0_3 : Int) (r1 : Int) (r2 : Int) (r3 : Int) (r4 : Int) (w : World) (h : spec_GridArea.f k a0_0 a0_1 a0_2 a0_3 = some (r1, r2, r3, r4)) :
    Calls Tryd.prog 15 #[.agg #[.int .i64 a0_0, .int .i64 a0_1, .int .i64 a0_2, .int .i64 a0_3]] w fun e w' => e = .returned (.agg #[.int .i64 r1, .int .i64 r2, .int .i64 r3, .int .i64 r4]) ∧ Below w.heap.size w w' := by
  have hu22 := Tryd.underlying22
  have HB := Aside0.mk (Below.refl w.heap.size w)
  have H : ((Go.Proofs.YtfbenlenihlpbaaDoor.PgridIn.spec_gridIn.f a0_0 30).bind fun t103 => ((Go.Proofs.YtfbenlenihlpbaaDoor.PgridIn.spec_gridIn.f a0_1 60).bind fun t104 => ((Go.Proofs.YtfbenlenihlpbaaDoor.PgridIn.spec_gridIn.f a0_2 30).bind fun t105 => ((Go.Proofs.YtfbenlenihlpbaaDoor.PgridIn.spec_gridIn.f a0_3 60).bind fun t106 => (if (mn t103 t105) = (mx t103 t105) then (spec_GridArea.j0 k (mn t103 t105) (mn t104 t106) (mx t103 t105) (mx t104 t106) ((mn t104 t106) == (mx t104 t106))) else (spec_GridArea.j0 k (mn t103 t105) (mn t104 t106) (mx t103 t105) (mx t104 t106) false)))))) = some (r1, r2, r3, r4) := h
  clear h
  replace H := Option.bind_eq_some_iff.mp H
  obtain ⟨t103, A20, H⟩ := H
  replace H : ((Go.Proofs.YtfbenlenihlpbaaDoor.PgridIn.spec_gridIn.f a0_1 60).bind fun t104 => ((Go.Proofs.YtfbenlenihlpbaaDoor.PgridIn.spec_gridIn.f a0_2 30).bind fun t105 => ((Go.Proofs.YtfbenlenihlpbaaDoor.PgridIn.spec_gridIn.f a0_3 60).bind fun t106 => (if (mn t103 t105) = (mx t103 t105) then (spec_GridArea.j0 k (mn t103 t105) (mn t104 t106) (mx t103 t105) (mx t104 t106) ((mn t104 t106) == (mx t104 t106))) else (spec_GridArea.j0 k (mn t103 t105) (mn t104 t106) (mx t103 t105) (mx t104 t106) false))))) = some (r1, r2, r3, r4) := H
  have A2 := Aside0.mk A20
  clear A20
  replace H := Option.bind_eq_some_iff.mp H
  obtain ⟨t104, A30, H⟩ := H
  replace H : ((Go.Proofs.YtfbenlenihlpbaaDoor.PgridIn.spec_gridIn.f a0_2 30).bind fun t105 => ((Go.Proofs.YtfbenlenihlpbaaDoor.PgridIn.spec_gridIn.f a0_3 60).bind fun t106 => (if (mn t103 t105) = (mx t103 t105) then (spec_GridArea.j0 k (mn t103 t105) (mn t104 t106) (mx t103 t105) (mx t104 t106) ((mn t104 t106) == (mx t104 t106))) else (spec_GridArea.j0 k (mn t103 t105) (mn t104 t106) (mx t103 t105) (mx t104 t106) false)))) = some (r1, r2, r3, r4) := H
  have A3 := Aside0.mk A30
  clear A30
  replace H := Option.bind_eq_some_iff.mp H
  obtain ⟨t105, A40, H⟩ := H
  replace H : ((Go.Proofs.YtfbenlenihlpbaaDoor.PgridIn.spec_gridIn.f a0_3 60).bind fun t106 => (if (mn t103 t105) = (mx t103 t105) then (spec_GridArea.j0 k (mn t103 t105) (mn t104 t106) (mx t103 t105) (mx t104 t106) ((mn t104 t106) == (mx t104 t106))) else (spec_GridArea.j0 k (mn t103 t105) (mn t104 t106) (mx t103 t105) (mx t104 t106) false))) = some (r1, r2, r3, r4) := H
  have A4 := Aside0.mk A40
  clear A40
  replace H := Option.bind_eq_some_iff.mp H
  obtain ⟨t106, A50, H⟩ := H
  replace H : (if (mn t103 t105) = (mx t103 t105) then (spec_GridArea.j0 k (mn t103 t105) (mn t104 t106) (mx t103 t105) (mx t104 t106) ((mn t104 t106) == (mx t104 t106))) else (spec_GridArea.j0 k (mn t103 t105) (mn t104 t106) (mx t103 t105) (mx t104 t106) false)) = some (r1, r2, r3, r4) := H
  have A5 := Aside0.mk A50
  clear A50
  obtain ⟨ji6, hji6⟩ : ∃ j_ : Int, (mn t103 t105) = j_ := ⟨_, rfl⟩
  replace H : (if (ji6) = (mx t103 t105) then (spec_GridArea.j0 k ji6 (mn t104 t106) (mx t103 t105) (mx t104 t106) ((mn t104 t106) == (mx t104 t106))) else (spec_GridArea.j0 k ji6 (mn t104 t106) (mx t103 t105) (mx t104 t106) false)) = some (r1, r2, r3, r4) := by first | (rw [hji6] at H; exact H) | (simp only [hji6] at H ⊢; exact H)
  (try rw [hji6] at A2)
  (try rw [hji6] at A3)
  (try rw [hji6] at A4)
  (try rw [hji6] at A5)
  have hji6_ : (if t105 < t103 then t105 else t103) = ji6 := hji6
  obtain ⟨ji7, hji7⟩ : ∃ j_ : Int, (mx t103 t105) = j_ := ⟨_, rfl⟩
  replace H : (if (ji6) = (ji7) then (spec_GridArea.j0 k ji6 (mn t104 t106) ji7 (mx t104 t106) ((mn t104 t106) == (mx t104 t106))) else (spec_GridArea.j0 k ji6 (mn t104 t106) ji7 (mx t104 t106) false)) = some (r1, r2, r3, r4) := by first | (rw [hji7] at H; exact H) | (simp only [hji7] at H ⊢; exact H)
  (try rw [hji7] at A2)
  (try rw [hji7] at A3)
  (try rw [hji7] at A4)
  (try rw [hji7] at A5)
  have hji7_ : (if t103 < t105 then t105 else t103) = ji7 := hji7
  obtain ⟨ji8, hji8⟩ : ∃ j_ : Int, (mn t104 t106) = j_ := ⟨_, rfl⟩
  replace H : (if (ji6) = (ji7) then (spec_GridArea.j0 k ji6 ji8 ji7 (mx t104 t106) ((ji8) == (mx t104 t106))) else (spec_GridArea.j0 k ji6 ji8 ji7 (mx t104 t106) false)) = some (r1, r2, r3, r4) := by first | (rw [hji8] at H; exact H) | (simp only [hji8] at H ⊢; exact H)
  (try rw [hji8] at A2)
  (try rw [hji8] at A3)
  (try rw [hji8] at A4)
  (try rw [hji8] at A5)
  have hji8_ : (if t106 < t104 then t106 else t104) = ji8 := hji8
  obtain ⟨ji9, hji9⟩ : ∃ j_ : Int, (mx t104 t106) = j_ := ⟨_, rfl⟩
  replace H : (if (ji6) = (ji7) then (spec_GridArea.j0 k ji6 ji8 ji7 ji9 ((ji8) == (ji9))) else (spec_GridArea.j0 k ji6 ji8 ji7 ji9 false)) = some (r1, r2, r3, r4) := by first | (rw [hji9] at H; exact H) | (simp only [hji9] at H ⊢; exact H)
  (try rw [hji9] at A2)
  (try rw [hji9] at A3)
  (try rw [hji9] at A4)
  (try rw [hji9] at A5)
  have hji9_ : (if t104 < t106 then t106 else t104) = ji9 := hji9
  have HC10 := Aside0.mk H
  clear H
  go_enter Tryd.func15, Tryd.ntmps15
  go_upto_region 4 with (first | ((with_reducible refine gate_dst (N := 1) rfl ?_); refine box_event ?hg (N := 1) ?hd (cs := #[.int .i64 a0_0, .int .i64 a0_1, .int .i64 a0_2, .int .i64 a0_3]) (t := 22) ?hr ?_; (case hd => rfl); (case hg => rfl); (case hr => first | (go_simp; done) | (go_simp; rfl)); intro gb101 hg w11 hbox hb; have n0_ := Aside0.mk (below_step (by repeat (first | (with_reducible first | exact HB.out | apply below_alloc | apply pw_below_drewN | apply below_drew1) | exact HB.out)) hb); have n1_ := Aside0.mk (hbox); have n2_ := Aside0.mk ((by rw [hg]; exact (below_size (by repeat (first | (with_reducible first | exact HB.out | apply below_alloc | apply pw_below_drewN | apply below_drew1) | exact HB.out))) : w.heap.size ≤ gb101)); have n3_ := Aside0.mk ((by rw [hg]; exact (below_size (by repeat (first | (with_reducible first | exact HB.out | apply below_alloc | apply pw_below_drewN | apply below_drew1) | exact HB.out))) : w.heap.size ≤ gb101)); clear HB; have HB := n0_; have BK101 := n1_; have GW101 := n2_; have GE101 := n3_; clear n0_ n1_ n2_ n3_; clear hb hbox hg) | ((with_reducible refine gate_dst (N := 2) rfl ?_); refine box_event ?hg (N := 2) ?hd (cs := #[.int .i64 0, .int .i64 0, .int .i64 0, .int .i64 0]) (t := 22) ?hr ?_; (case hd => rfl); (case hg => rfl); (case hr => first | (go_simp; done) | (go_simp; rfl)); intro gb102 hg w12 hbox hb; have n0_ := Aside0.mk (blk_below (g := gb101) (o := .cells #[.int .i64 a0_0, .int .i64 a0_1, .int .i64 a0_2, .int .i64 a0_3] 22 (0, 0)) (by (with_reducible repeat (first | refine blk_drewN ?_ _ | refine blk_drew ?_ | refine blk_alloc ?_ _)); exact BK101.out) hb); have n1_ := Aside0.mk (below_step (by repeat (first | (with_reducible first | exact HB.out | apply below_alloc | apply pw_below_drewN | apply below_drew1 | refine below_set ?_ GE101.out) | exact HB.out)) hb); have n2_ := Aside0.mk (hbox); have n3_ := Aside0.mk ((by rw [hg]; exact (below_size (by repeat (first | (with_reducible first | exact HB.out | apply below_alloc | apply pw_below_drewN | apply below_drew1 | refine below_set ?_ GE101.out) | exact HB.out))) : w.heap.size ≤ gb102)); have n4_ := Aside0.mk ((by rw [hg]; exact (below_size (by repeat (first | (with_reducible first | exact HB.out | apply below_alloc | apply pw_below_drewN | apply below_drew1 | refine below_set ?_ GE101.out) | exact HB.out))) : w.heap.size ≤ gb102)); have n5_ := Aside0.mk ((by rw [hg]; exact Nat.ne_of_lt (blk_lt (g := gb101) (o := .cells #[.int .i64 a0_0, .int .i64 a0_1, .int .i64 a0_2, .int .i64 a0_3] 22 (0, 0)) (by (with_reducible repeat (first | refine blk_drewN ?_ _ | refine blk_drew ?_ | refine blk_alloc ?_ _)); exact BK101.out)) : gb101 ≠ gb102)); have n6_ := Aside0.mk ((by rw [hg]; exact Nat.ne_of_gt (blk_lt (g := gb101) (o := .cells #[.int .i64 a0_0, .int .i64 a0_1, .int .i64 a0_2, .int .i64 a0_3] 22 (0, 0)) (by (with_reducible repeat (first | refine blk_drewN ?_ _ | refine blk_drew ?_ | refine blk_alloc ?_ _)); exact BK101.out)) : gb102 ≠ gb101)); clear BK101; clear HB; have BK101 := n0_; have HB := n1_; have BK102 := n2_; have GW102 := n3_; have GE102 := n4_; have NB101_102 := n5_; have NB102_101 := n6_; clear n0_ n1_ n2_ n3_ n4_ n5_ n6_; clear hb hbox hg; have hnb13 := NB101_102.out; have hnc13 := NB102_101.out; have hcz14_0 : w12.cell? ⟨gb101, 0, none⟩ = some (.int .i64 a0_0) := (blk_cell BK101.out 0).trans rfl; have hcz14_1 : w12.cell? ⟨gb101, 1, none⟩ = some (.int .i64 a0_1) := (blk_cell BK101.out 1).trans rfl; have hcz14_2 : w12.cell? ⟨gb101, 2, none⟩ = some (.int .i64 a0_2) := (blk_cell BK101.out 2).trans rfl; have hcz14_3 : w12.cell? ⟨gb101, 3, none⟩ = some (.int .i64 a0_3) := (blk_cell BK101.out 3).trans rfl; have hfz14_0 := blk_frozen BK101.out 0; have hfz14_1 := blk_frozen BK101.out 1; have hfz14_2 := blk_frozen BK101.out 2; have hfz14_3 := blk_frozen BK101.out 3) | (go_at_call 38; (with_reducible refine (Go.Proofs.YtfbenlenihlpbaaDoor.PgridIn.spec_gridIn.calls a0_0 30 t103 _ A2.out).mono ?_); rintro e w' ⟨rfl, ⟨nd, rfl⟩⟩; (try first | exact ⟨rfl, _, World.drewN_drewN _ _ _⟩ | exact ⟨rfl, _, Eq.trans (World.drewN_drewN _ _ _) (congrArg (World.drewN _) (Nat.add_assoc _ _ _))⟩)) | (go_at_call 38; (with_reducible refine (Go.Proofs.YtfbenlenihlpbaaDoor.PgridIn.spec_gridIn.calls a0_1 60 t104 _ A3.out).mono ?_); rintro e w' ⟨rfl, ⟨nd, rfl⟩⟩; (try first | exact ⟨rfl, _, World.drewN_drewN _ _ _⟩ | exact ⟨rfl, _, Eq.trans (World.drewN_drewN _ _ _) (congrArg (World.drewN _) (Nat.add_assoc _ _ _))⟩)) | (go_at_call 38; (with_reducible refine (Go.Proofs.YtfbenlenihlpbaaDoor.PgridIn.spec_gridIn.calls a0_2 30 t105 _ A4.out).mono ?_); rintro e w' ⟨rfl, ⟨nd, rfl⟩⟩; (try first | exact ⟨rfl, _, World.drewN_drewN _ _ _⟩ | exact ⟨rfl, _, Eq.trans (World.drewN_drewN _ _ _) (congrArg (World.drewN _) (Nat.add_assoc _ _ _))⟩)) | (go_at_call 38; (with_reducible refine (Go.Proofs.YtfbenlenihlpbaaDoor.PgridIn.spec_gridIn.calls a0_3 60 t106 _ A5.out).mono ?_); rintro e w' ⟨rfl, ⟨nd, rfl⟩⟩; (try first | exact ⟨rfl, _, World.drewN_drewN _ _ _⟩ | exact ⟨rfl, _, Eq.trans (World.drewN_drewN _ _ _) (congrArg (World.drewN _) (Nat.add_assoc _ _ _))⟩)))
  repeat (go_quiet (first | ((with_reducible refine gate_dst (N := 1) rfl ?_); refine box_event ?hg (N := 1) ?hd (cs := #[.int .i64 a0_0, .int .i64 a0_1, .int .i64 a0_2, .int .i64 a0_3]) (t := 22) ?hr ?_; (case hd => rfl); (case hg => rfl); (case hr => first | (go_simp; done) | (go_simp; rfl)); intro gb101 hg w11 hbox hb; have n0_ := Aside0.mk (below_step (by repeat (first | (with_reducible first | exact HB.out | apply below_alloc | apply pw_below_drewN | apply below_drew1) | exact HB.out)) hb); have n1_ := Aside0.mk (hbox); have n2_ := Aside0.mk ((by rw [hg]; exact (below_size (by repeat (first | (with_reducible first | exact HB.out | apply below_alloc | apply pw_below_drewN | apply below_drew1) | exact HB.out))) : w.heap.size ≤ gb101)); have n3_ := Aside0.mk ((by rw [hg]; exact (below_size (by repeat (first | (with_reducible first | exact HB.out | apply below_alloc | apply pw_below_drewN | apply below_drew1) | exact HB.out))) : w.heap.size ≤ gb101)); clear HB; have HB := n0_; have BK101 := n1_; have GW101 := n2_; have GE101 := n3_; clear n0_ n1_ n2_ n3_; clear hb hbox hg) | ((with_reducible refine gate_dst (N := 2) rfl ?_); refine box_event ?hg (N := 2) ?hd (cs := #[.int .i64 0, .int .i64 0, .int .i64 0, .int .i64 0]) (t := 22) ?hr ?_; (case hd => rfl); (case hg => rfl); (case hr => first | (go_simp; done) | (go_simp; rfl)); intro gb102 hg w12 hbox hb; have n0_ := Aside0.mk (blk_below (g := gb101) (o := .cells #[.int .i64 a0_0, .int .i64 a0_1, .int .i64 a0_2, .int .i64 a0_3] 22 (0, 0)) (by (with_reducible repeat (first | refine blk_drewN ?_ _ | refine blk_drew ?_ | refine blk_alloc ?_ _)); exact BK101.out) hb); have n1_ := Aside0.mk (below_step (by repeat (first | (with_reducible first | exact HB.out | apply below_alloc | apply pw_below_drewN | apply below_drew1 | refine below_set ?_ GE101.out) | exact HB.out)) hb); have n2_ := Aside0.mk (hbox); have n3_ := Aside0.mk ((by rw [hg]; exact (below_size (by repeat (first | (with_reducible first | exact HB.out | apply below_alloc | apply pw_below_drewN | apply below_drew1 | refine below_set ?_ GE101.out) | exact HB.out))) : w.heap.size ≤ gb102)); have n4_ := Aside0.mk ((by rw [hg]; exact (below_size (by repeat (first | (with_reducible first | exact HB.out | apply below_alloc | apply pw_below_drewN | apply below_drew1 | refine below_set ?_ GE101.out) | exact HB.out))) : w.heap.size ≤ gb102)); have n5_ := Aside0.mk ((by rw [hg]; exact Nat.ne_of_lt (blk_lt (g := gb101) (o := .cells #[.int .i64 a0_0, .int .i64 a0_1, .int .i64 a0_2, .int .i64 a0_3] 22 (0, 0)) (by (with_reducible repeat (first | refine blk_drewN ?_ _ | refine blk_drew ?_ | refine blk_alloc ?_ _)); exact BK101.out)) : gb101 ≠ gb102)); have n6_ := Aside0.mk ((by rw [hg]; exact Nat.ne_of_gt (blk_lt (g := gb101) (o := .cells #[.int .i64 a0_0, .int .i64 a0_1, .int .i64 a0_2, .int .i64 a0_3] 22 (0, 0)) (by (with_reducible repeat (first | refine blk_drewN ?_ _ | refine blk_drew ?_ | refine blk_alloc ?_ _)); exact BK101.out)) : gb102 ≠ gb101)); clear BK101; clear HB; have BK101 := n0_; have HB := n1_; have BK102 := n2_; have GW102 := n3_; have GE102 := n4_; have NB101_102 := n5_; have NB102_101 := n6_; clear n0_ n1_ n2_ n3_ n4_ n5_ n6_; clear hb hbox hg; have hnb13 := NB101_102.out; have hnc13 := NB102_101.out; have hcz14_0 : w12.cell? ⟨gb101, 0, none⟩ = some (.int .i64 a0_0) := (blk_cell BK101.out 0).trans rfl; have hcz14_1 : w12.cell? ⟨gb101, 1, none⟩ = some (.int .i64 a0_1) := (blk_cell BK101.out 1).trans rfl; have hcz14_2 : w12.cell? ⟨gb101, 2, none⟩ = some (.int .i64 a0_2) := (blk_cell BK101.out 2).trans rfl; have hcz14_3 : w12.cell? ⟨gb101, 3, none⟩ = some (.int .i64 a0_3) := (blk_cell BK101.out 3).trans rfl; have hfz14_0 := blk_frozen BK101.out 0; have hfz14_1 := blk_frozen BK101.out 1; have hfz14_2 := blk_frozen BK101.out 2; have hfz14_3 := blk_frozen BK101.out 3) | (go_at_call 38; (with_reducible refine (Go.Proofs.YtfbenlenihlpbaaDoor.PgridIn.spec_gridIn.calls a0_0 30 t103 _ A2.out).mono ?_); rintro e w' ⟨rfl, ⟨nd, rfl⟩⟩; (try first | exact ⟨rfl, _, World.drewN_drewN _ _ _⟩ | exact ⟨rfl, _, Eq.trans (World.drewN_drewN _ _ _) (congrArg (World.drewN _) (Nat.add_assoc _ _ _))⟩)) | (go_at_call 38; (with_reducible refine (Go.Proofs.YtfbenlenihlpbaaDoor.PgridIn.spec_gridIn.calls a0_1 60 t104 _ A3.out).mono ?_); rintro e w' ⟨rfl, ⟨nd, rfl⟩⟩; (try first | exact ⟨rfl, _, World.drewN_drewN _ _ _⟩ | exact ⟨rfl, _, Eq.trans (World.drewN_drewN _ _ _) (congrArg (World.drewN _) (Nat.add_assoc _ _ _))⟩)) | (go_at_call 38; (with_reducible refine (Go.Proofs.YtfbenlenihlpbaaDoor.PgridIn.spec_gridIn.calls a0_2 30 t105 _ A4.out).mono ?_); rintro e w' ⟨rfl, ⟨nd, rfl⟩⟩; (try first | exact ⟨rfl, _, World.drewN_drewN _ _ _⟩ | exact ⟨rfl, _, Eq.trans (World.drewN_drewN _ _ _) (congrArg (World.drewN _) (Nat.add_assoc _ _ _))⟩)) | (go_at_call 38; (with_reducible refine (Go.Proofs.YtfbenlenihlpbaaDoor.PgridIn.spec_gridIn.calls a0_3 60 t106 _ A5.out).mono ?_); rintro e w' ⟨rfl, ⟨nd, rfl⟩⟩; (try first | exact ⟨rfl, _, World.drewN_drewN _ _ _⟩ | exact ⟨rfl, _, Eq.trans (World.drewN_drewN _ _ _) (congrArg (World.drewN _) (Nat.add_assoc _ _ _))⟩))); go_upto_region 4 with (first | ((with_reducible refine gate_dst (N := 1) rfl ?_); refine box_event ?hg (N := 1) ?hd (cs := #[.int .i64 a0_0, .int .i64 a0_1, .int .i64 a0_2, .int .i64 a0_3]) (t := 22) ?hr ?_; (case hd => rfl); (case hg => rfl); (case hr => first | (go_simp; done) | (go_simp; rfl)); intro gb101 hg w11 hbox hb; have n0_ := Aside0.mk (below_step (by repeat (first | (with_reducible first | exact HB.out | apply below_alloc | apply pw_below_drewN | apply below_drew1) | exact HB.out)) hb); have n1_ := Aside0.mk (hbox); have n2_ := Aside0.mk ((by rw [hg]; exact (below_size (by repeat (first | (with_reducible first | exact HB.out | apply below_alloc | apply pw_below_drewN | apply below_drew1) | exact HB.out))) : w.heap.size ≤ gb101)); have n3_ := Aside0.mk ((by rw [hg]; exact (below_size (by repeat (first | (with_reducible first | exact HB.out | apply below_alloc | apply pw_below_drewN | apply below_drew1) | exact HB.out))) : w.heap.size ≤ gb101)); clear HB; have HB := n0_; have BK101 := n1_; have GW101 := n2_; have GE101 := n3_; clear n0_ n1_ n2_ n3_; clear hb hbox hg) | ((with_reducible refine gate_dst (N := 2) rfl ?_); refine box_event ?hg (N := 2) ?hd (cs := #[.int .i64 0, .int .i64 0, .int .i64 0, .int .i64 0]) (t := 22) ?hr ?_; (case hd => rfl); (case hg => rfl); (case hr => first | (go_simp; done) | (go_simp; rfl)); intro gb102 hg w12 hbox hb; have n0_ := Aside0.mk (blk_below (g := gb101) (o := .cells #[.int .i64 a0_0, .int .i64 a0_1, .int .i64 a0_2, .int .i64 a0_3] 22 (0, 0)) (by (with_reducible repeat (first | refine blk_drewN ?_ _ | refine blk_drew ?_ | refine blk_alloc ?_ _)); exact BK101.out) hb); have n1_ := Aside0.mk (below_step (by repeat (first | (with_reducible first | exact HB.out | apply below_alloc | apply pw_below_drewN | apply below_drew1 | refine below_set ?_ GE101.out) | exact HB.out)) hb); have n2_ := Aside0.mk (hbox); have n3_ := Aside0.mk ((by rw [hg]; exact (below_size (by repeat (first | (with_reducible first | exact HB.out | apply below_alloc | apply pw_below_drewN | apply below_drew1 | refine below_set ?_ GE101.out) | exact HB.out))) : w.heap.size ≤ gb102)); have n4_ := Aside0.mk ((by rw [hg]; exact (below_size (by repeat (first | (with_reducible first | exact HB.out | apply below_alloc | apply pw_below_drewN | apply below_drew1 | refine below_set ?_ GE101.out) | exact HB.out))) : w.heap.size ≤ gb102)); have n5_ := Aside0.mk ((by rw [hg]; exact Nat.ne_of_lt (blk_lt (g := gb101) (o := .cells #[.int .i64 a0_0, .int .i64 a0_1, .int .i64 a0_2, .int .i64 a0_3] 22 (0, 0)) (by (with_reducible repeat (first | refine blk_drewN ?_ _ | refine blk_drew ?_ | refine blk_alloc ?_ _)); exact BK101.out)) : gb101 ≠ gb102)); have n6_ := Aside0.mk ((by rw [hg]; exact Nat.ne_of_gt (blk_lt (g := gb101) (o := .cells #[.int .i64 a0_0, .int .i64 a0_1, .int .i64 a0_2, .int .i64 a0_3] 22 (0, 0)) (by (with_reducible repeat (first | refine blk_drewN ?_ _ | refine blk_drew ?_ | refine blk_alloc ?_ _)); exact BK101.out)) : gb102 ≠ gb101)); clear BK101; clear HB; have BK101 := n0_; have HB := n1_; have BK102 := n2_; have GW102 := n3_; have GE102 := n4_; have NB101_102 := n5_; have NB102_101 := n6_; clear n0_ n1_ n2_ n3_ n4_ n5_ n6_; clear hb hbox hg; have hnb13 := NB101_102.out; have hnc13 := NB102_101.out; have hcz14_0 : w12.cell? ⟨gb101, 0, none⟩ = some (.int .i64 a0_0) := (blk_cell BK101.out 0).trans rfl; have hcz14_1 : w12.cell? ⟨gb101, 1, none⟩ = some (.int .i64 a0_1) := (blk_cell BK101.out 1).trans rfl; have hcz14_2 : w12.cell? ⟨gb101, 2, none⟩ = some (.int .i64 a0_2) := (blk_cell BK101.out 2).trans rfl; have hcz14_3 : w12.cell? ⟨gb101, 3, none⟩ = some (.int .i64 a0_3) := (blk_cell BK101.out 3).trans rfl; have hfz14_0 := blk_frozen BK101.out 0; have hfz14_1 := blk_frozen BK101.out 1; have hfz14_2 := blk_frozen BK101.out 2; have hfz14_3 := blk_frozen BK101.out 3) | (go_at_call 38; (with_reducible refine (Go.Proofs.YtfbenlenihlpbaaDoor.PgridIn.spec_gridIn.calls a0_0 30 t103 _ A2.out).mono ?_); rintro e w' ⟨rfl, ⟨nd, rfl⟩⟩; (try first | exact ⟨rfl, _, World.drewN_drewN _ _ _⟩ | exact ⟨rfl, _, Eq.trans (World.drewN_drewN _ _ _) (congrArg (World.drewN _) (Nat.add_assoc _ _ _))⟩)) | (go_at_call 38; (with_reducible refine (Go.Proofs.YtfbenlenihlpbaaDoor.PgridIn.spec_gridIn.calls a0_1 60 t104 _ A3.out).mono ?_); rintro e w' ⟨rfl, ⟨nd, rfl⟩⟩; (try first | exact ⟨rfl, _, World.drewN_drewN _ _ _⟩ | exact ⟨rfl, _, Eq.trans (World.drewN_drewN _ _ _) (congrArg (World.drewN _) (Nat.add_assoc _ _ _))⟩)) | (go_at_call 38; (with_reducible refine (Go.Proofs.YtfbenlenihlpbaaDoor.PgridIn.spec_gridIn.calls a0_2 30 t105 _ A4.out).mono ?_); rintro e w' ⟨rfl, ⟨nd, rfl⟩⟩; (try first | exact ⟨rfl, _, World.drewN_drewN _ _ _⟩ | exact ⟨rfl, _, Eq.trans (World.drewN_drewN _ _ _) (congrArg (World.drewN _) (Nat.add_assoc _ _ _))⟩)) | (go_at_call 38; (with_reducible refine (Go.Proofs.YtfbenlenihlpbaaDoor.PgridIn.spec_gridIn.calls a0_3 60 t106 _ A5.out).mono ?_); rintro e w' ⟨rfl, ⟨nd, rfl⟩⟩; (try first | exact ⟨rfl, _, World.drewN_drewN _ _ _⟩ | exact ⟨rfl, _, Eq.trans (World.drewN_drewN _ _ _) (congrArg (World.drewN _) (Nat.add_assoc _ _ _))⟩))))
  (try simp only [Act.put, List.setIfInBounds_toArray, List.set_cons_zero, List.set_cons_succ])
  go_cut [38] (fun v38 wc => ∃ (kq : Nat) (x38_9 : Bool), v38 = .bool x38_9 ∧ Aside0 (spec_GridArea.j0 kq ji6 ji8 ji7 ji9 x38_9 = some (r1, r2, r3, r4)) ∧ Aside0 (kq ≤ k) ∧ Aside0 (wc.heap[gb101]? = some (.cells #[.int .i64 a0_0, .int .i64 a0_1, .int .i64 a0_2, .int .i64 a0_3] 22 (0, 0))) ∧ Aside0 (wc.heap[gb102]? = some (.cells #[.int .i64 0, .int .i64 0, .int .i64 0, .int .i64 0] 22 (0, 0))) ∧ Aside0 (Below w.heap.size w wc))
  case first =>
    have H := HC10.out
    clear HC10
    by_cases c15 : (ji6) = (ji7)
    · rw [if_pos c15] at H
      have c15b0 : ((ji6) == (ji7)) = true := beq_iff_eq.mpr c15
      have c15b1 : ((ji6) != (ji7)) = false := bne_eq_false_iff_eq.mpr c15
      clear c15
      (first | rw [c15b0] | (simp only [i64_w, i32_w]; rw [c15b0]) | skip)
      have H' := Aside0.mk H
      clear H
      go_wp2
      repeat (go_quiet (fail); try go_wp2)
      go_meet
      case rel => exact ⟨_, (((ji8) == (ji9))), (by first | rfl | (simp; done) | (simp only [← hji8, ← hji9] <;> (first | rfl | simp)) | (simp [*]; done)), H', ⟨by first | omega | exact Nat.le_refl _⟩, ⟨by (with_reducible repeat (first | refine blk_drewN ?_ _ | refine blk_drew ?_ | refine blk_alloc ?_ _)); exact BK101.out⟩, ⟨by (with_reducible repeat (first | refine blk_drewN ?_ _ | refine blk_drew ?_ | refine blk_alloc ?_ _)); exact BK102.out⟩, ⟨by repeat (first | (with_reducible first | exact HB.out | apply below_alloc | apply pw_below_drewN | apply below_drew1 | refine below_set ?_ GE101.out | refine below_set ?_ GE102.out) | exact HB.out)⟩⟩
    · rw [if_neg c15] at H
      have c15b0 : ((ji6) == (ji7)) = false := beq_eq_false_iff_ne.mpr c15
      have c15b1 : ((ji6) != (ji7)) = true := bne_iff_ne.mpr c15
      (first | rw [c15b0] | (simp only [i64_w, i32_w]; rw [c15b0]) | skip)
      have H' := Aside0.mk H
      clear H
      go_wp2
      repeat (go_quiet (fail); try go_wp2)
      go_meet
      case rel => exact ⟨_, (false), (by first | rfl | (simp; done) | (simp [*]; done)), H', ⟨by first | omega | exact Nat.le_refl _⟩, ⟨by (with_reducible repeat (first | refine blk_drewN ?_ _ | refine blk_drew ?_ | refine blk_alloc ?_ _)); exact BK101.out⟩, ⟨by (with_reducible repeat (first | refine blk_drewN ?_ _ | refine blk_drew ?_ | refine blk_alloc ?_ _)); exact BK102.out⟩, ⟨by repeat (first | (with_reducible first | exact HB.out | apply below_alloc | apply pw_below_drewN | apply below_drew1 | refine below_set ?_ GE101.out | refine below_set ?_ GE102.out) | exact HB.out)⟩⟩
  case rest =>
    clear HC10
    try clear c1
    try clear p2
    try clear c13
    try clear c15
    try clear c15b0
    try clear c15b1
    try clear hcz14_0
    try clear hcz14_1
    try clear hcz14_2
    try clear hcz14_3
    try clear hfz14_0
    try clear hfz14_1
    try clear hfz14_2
    try clear hfz14_3
    obtain ⟨kq, x38_9, rfl, HA, HJ9, BK101, BK102, HB⟩ := hcut
    cases kq with
    | zero => exact absurd HA.out (by simp [spec_GridArea.j0])
    | succ kj9 =>
      have H := HA.out
      clear HA
      simp only [spec_GridArea.j0] at H
      by_cases c16 : x38_9 = true
      · subst c16
        have H1 : (if ji9 < 60 then (some (ji6, ji8, ji7, wrap64 (ji9 + 1))) else (some (ji6, wrap64 (ji8 - 1), ji7, ji9))) = some (r1, r2, r3, r4) := by rw [if_pos rfl] at H; exact H
        clear H
        have H := H1
        clear H1
        by_cases c17 : ji9 < 60
        · rw [if_pos c17] at H
          have c17b0 : decide (ji9 < 60) = true := decide_eq_true c17
          clear c17
          simp only [Option.some.injEq, Prod.mk.injEq] at H
          obtain ⟨rfl, rfl, rfl, rfl⟩ := H
          have hnb18 := NB102_101.out
          have hnc18 := NB101_102.out
          have hcz19_0 : wc.cell? ⟨gb102, 0, none⟩ = some (.int .i64 0) := (blk_cell BK102.out 0).trans rfl
          have hcz19_1 : wc.cell? ⟨gb102, 1, none⟩ = some (.int .i64 0) := (blk_cell BK102.out 1).trans rfl
          have hcz19_2 : wc.cell? ⟨gb102, 2, none⟩ = some (.int .i64 0) := (blk_cell BK102.out 2).trans rfl
          have hcz19_3 : wc.cell? ⟨gb102, 3, none⟩ = some (.int .i64 0) := (blk_cell BK102.out 3).trans rfl
          have hfz19_0 := blk_frozen BK102.out 0
          have hfz19_1 := blk_frozen BK102.out 1
          have hfz19_2 := blk_frozen BK102.out 2
          have hfz19_3 := blk_frozen BK102.out 3
          go_wp2
          repeat (go_quiet (fail); try go_wp2)
          refine bodyPost_ret (results_cell_row rfl _ _ gb102 22 #[.int .i64 ji6, .int .i64 ji8, .int .i64 ji7, .int .i64 (wrap64 (ji9 + 1))] (0, 0) _ rfl (by (with_reducible repeat (first | refine blk_drewN ?_ _ | refine blk_drew ?_ | refine blk_alloc ?_ _)); refine blk_put (cs := #[.int .i64 ji6, .int .i64 ji8, .int .i64 ji7, .int .i64 0]) ?_ 3 _ rfl; (with_reducible repeat (first | refine blk_drewN ?_ _ | refine blk_drew ?_ | refine blk_alloc ?_ _)); refine blk_put (cs := #[.int .i64 ji6, .int .i64 ji8, .int .i64 0, .int .i64 0]) ?_ 2 _ rfl; (with_reducible repeat (first | refine blk_drewN ?_ _ | refine blk_drew ?_ | refine blk_alloc ?_ _)); refine blk_put (cs := #[.int .i64 ji6, .int .i64 0, .int .i64 0, .int .i64 0]) ?_ 1 _ rfl; (with_reducible repeat (first | refine blk_drewN ?_ _ | refine blk_drew ?_ | refine blk_alloc ?_ _)); refine blk_put (cs := #[.int .i64 0, .int .i64 0, .int .i64 0, .int .i64 0]) ?_ 0 _ rfl; (with_reducible repeat (first | refine blk_drewN ?_ _ | refine blk_drew ?_ | refine blk_alloc ?_ _)); exact BK102.out) Tryd.underlying22 rfl (by kernel_rfl)) rfl ?_
          exact ⟨by first | rfl | (simp [errW_none, errW_some] <;> rfl) | (simp only [← hji6, ← hji7, ← hji8, ← hji9]; first | rfl | (simp [errW_none, errW_some] <;> rfl)) | (simp [*, errW_none, errW_some] <;> rfl), by repeat (first | (with_reducible first | exact HB.out | apply below_alloc | apply pw_below_drewN | apply below_drew1 | refine below_set ?_ GE101.out | refine below_set ?_ GE102.out) | exact HB.out)⟩
        · rw [if_neg c17] at H
          have c17b0 : decide (ji9 < 60) = false := decide_eq_false c17
          clear c17
          simp only [Option.some.injEq, Prod.mk.injEq] at H
          obtain ⟨rfl, rfl, rfl, rfl⟩ := H
          have hnb20 := NB102_101.out
          have hnc20 := NB101_102.out
          have hcz21_0 : wc.cell? ⟨gb102, 0, none⟩ = some (.int .i64 0) := (blk_cell BK102.out 0).trans rfl
          have hcz21_1 : wc.cell? ⟨gb102, 1, none⟩ = some (.int .i64 0) := (blk_cell BK102.out 1).trans rfl
          have hcz21_2 : wc.cell? ⟨gb102, 2, none⟩ = some (.int .i64 0) := (blk_cell BK102.out 2).trans rfl
          have hcz21_3 : wc.cell? ⟨gb102, 3, none⟩ = some (.int .i64 0) := (blk_cell BK102.out 3).trans rfl
          have hfz21_0 := blk_frozen BK102.out 0
          have hfz21_1 := blk_frozen BK102.out 1
          have hfz21_2 := blk_frozen BK102.out 2
          have hfz21_3 := blk_frozen BK102.out 3
          go_wp2
          repeat (go_quiet (fail); try go_wp2)
          refine bodyPost_ret (results_cell_row rfl _ _ gb102 22 #[.int .i64 ji6, .int .i64 (wrap64 (ji8 - 1)), .int .i64 ji7, .int .i64 ji9] (0, 0) _ rfl (by (with_reducible repeat (first | refine blk_drewN ?_ _ | refine blk_drew ?_ | refine blk_alloc ?_ _)); refine blk_put (cs := #[.int .i64 ji6, .int .i64 (wrap64 (ji8 - 1)), .int .i64 ji7, .int .i64 0]) ?_ 3 _ rfl; (with_reducible repeat (first | refine blk_drewN ?_ _ | refine blk_drew ?_ | refine blk_alloc ?_ _)); refine blk_put (cs := #[.int .i64 ji6, .int .i64 (wrap64 (ji8 - 1)), .int .i64 0, .int .i64 0]) ?_ 2 _ rfl; (with_reducible repeat (first | refine blk_drewN ?_ _ | refine blk_drew ?_ | refine blk_alloc ?_ _)); refine blk_put (cs := #[.int .i64 ji6, .int .i64 0, .int .i64 0, .int .i64 0]) ?_ 1 _ rfl; (with_reducible repeat (first | refine blk_drewN ?_ _ | refine blk_drew ?_ | refine blk_alloc ?_ _)); refine blk_put (cs := #[.int .i64 0, .int .i64 0, .int .i64 0, .int .i64 0]) ?_ 0 _ rfl; (with_reducible repeat (first | refine blk_drewN ?_ _ | refine blk_drew ?_ | refine blk_alloc ?_ _)); exact BK102.out) Tryd.underlying22 rfl (by kernel_rfl)) rfl ?_
          exact ⟨by first | rfl | (simp [errW_none, errW_some] <;> rfl) | (simp only [← hji6, ← hji7, ← hji8, ← hji9]; first | rfl | (simp [errW_none, errW_some] <;> rfl)) | (simp [*, errW_none, errW_some] <;> rfl), by repeat (first | (with_reducible first | exact HB.out | apply below_alloc | apply pw_below_drewN | apply below_drew1 | refine below_set ?_ GE101.out | refine below_set ?_ GE102.out) | exact HB.out)⟩
      · replace c16 := Bool.eq_false_iff.mpr c16
        subst c16
        have H1 : (some (ji6, ji8, ji7, ji9)) = some (r1, r2, r3, r4) := by rw [if_neg (show ¬ (false = true) by decide)] at H; exact H
        clear H
        have H := H1
        clear H1
        simp only [Option.some.injEq, Prod.mk.injEq] at H
        obtain ⟨rfl, rfl, rfl, rfl⟩ := H
        have hnb22 := NB102_101.out
        have hnc22 := NB101_102.out
        have hcz23_0 : wc.cell? ⟨gb102, 0, none⟩ = some (.int .i64 0) := (blk_cell BK102.out 0).trans rfl
        have hcz23_1 : wc.cell? ⟨gb102, 1, none⟩ = some (.int .i64 0) := (blk_cell BK102.out 1).trans rfl
        have hcz23_2 : wc.cell? ⟨gb102, 2, none⟩ = some (.int .i64 0) := (blk_cell BK102.out 2).trans rfl
        have hcz23_3 : wc.cell? ⟨gb102, 3, none⟩ = some (.int .i64 0) := (blk_cell BK102.out 3).trans rfl
        have hfz23_0 := blk_frozen BK102.out 0
        have hfz23_1 := blk_frozen BK102.out 1
        have hfz23_2 := blk_frozen BK102.out 2
        have hfz23_3 := blk_frozen BK102.out 3
        go_wp2
        repeat (go_quiet (fail); try go_wp2)
        refine bodyPost_ret (results_cell_row rfl _ _ gb102 22 #[.int .i64 ji6, .int .i64 ji8, .int .i64 ji7, .int .i64 ji9] (0, 0) _ rfl (by (with_reducible repeat (first | refine blk_drewN ?_ _ | refine blk_drew ?_ | refine blk_alloc ?_ _)); refine blk_put (cs := #[.int .i64 ji6, .int .i64 ji8, .int .i64 ji7, .int .i64 0]) ?_ 3 _ rfl; (with_reducible repeat (first | refine blk_drewN ?_ _ | refine blk_drew ?_ | refine blk_alloc ?_ _)); refine blk_put (cs := #[.int .i64 ji6, .int .i64 ji8, .int .i64 0, .int .i64 0]) ?_ 2 _ rfl; (with_reducible repeat (first | refine blk_drewN ?_ _ | refine blk_drew ?_ | refine blk_alloc ?_ _)); refine blk_put (cs := #[.int .i64 ji6, .int .i64 0, .int .i64 0, .int .i64 0]) ?_ 1 _ rfl; (with_reducible repeat (first | refine blk_drewN ?_ _ | refine blk_drew ?_ | refine blk_alloc ?_ _)); refine blk_put (cs := #[.int .i64 0, .int .i64 0, .int .i64 0, .int .i64 0]) ?_ 0 _ rfl; (with_reducible repeat (first | refine blk_drewN ?_ _ | refine blk_drew ?_ | refine blk_alloc ?_ _)); exact BK102.out) Tryd.underlying22 rfl (by kernel_rfl)) rfl ?_
        exact ⟨by first | rfl | (simp [errW_none, errW_some] <;> rfl) | (simp only [← hji6, ← hji7, ← hji8, ← hji9]; first | rfl | (simp [errW_none, errW_some] <;> rfl)) | (simp [*, errW_none, errW_some] <;> rfl), by repeat (first | (with_reducible first | exact HB.out | apply below_alloc | apply pw_below_drewN | apply below_drew1 | refine below_set ?_ GE101.out | refine below_set ?_ GE102.out) | exact HB.out)⟩

/-! ### spec_GridRead: function 24 -/
mutual
def spec_GridRead.l0 : Nat → ByteArray → List (S22) → Int → Int → Option ((List (S22)) × Bool)
  | 0, _, _, _, _ => none
  | k + 1, x0, x4, x5, x6 => if x6 ≤ (x0.size : Int) then (if x6 < (x0.size : Int) then (if 0 ≤ x6 then (spec_GridRead.j1 k x0 x4 x5 x6 ((bt x0 x6) != 32)) else (none)) else (spec_GridRead.j1 k x0 x4 x5 x6 false)) else (some (x4, true))
def spec_GridRead.j1 : Nat → ByteArray → List (S22) → Int → Int → Bool → Option ((List (S22)) × Bool)
  | 0, _, _, _, _, _ => none
  | k + 1, x0, x4, x5, x6, x24 => if x24 = true then (spec_GridRead.l0 k x0 x4 x5 (wrap64 (x6 + 1))) else (if x6 > x5 then (if 0 ≤ x5 then (if x5 ≤ x6 then (if x6 ≤ (x0.size : Int) then ((Go.Proofs.YtfbenlenihlpbaaDoor.PRo.spec_gridReadOne.f k (x0.extract (x5 : Int).toNat (x6 : Int).toNat)).bind fun bt107 => (if bt107.2.2.2.2 = true then (if x4.length < 4398046511104 then (spec_GridRead.l0 k x0 (x4 ++ [(⟨bt107.1, bt107.2.1, bt107.2.2.1, bt107.2.2.2.1⟩ : S22)]) (wrap64 (x6 + 1)) (wrap64 (x6 + 1))) else (none)) else (some (([] : List (S22)), false)))) else (none)) else (none)) else (none)) else (spec_GridRead.l0 k x0 x4 (wrap64 (x6 + 1)) (wrap64 (x6 + 1))))
end
def spec_GridRead.f (k : Nat) (a0 : ByteArray) : Option ((List (S22)) × Bool) := spec_GridRead.l0 k a0 ([] : List (S22)) 0 0
theorem spec_GridRead.mono_l : ∀ k, (∀ y0 y1 y2 y3, LeO (spec_GridRead.l0 k y0 y1 y2 y3) (spec_GridRead.l0 (k + 1) y0 y1 y2 y3)) ∧ (∀ y0 y1 y2 y3 y4, LeO (spec_GridRead.j1 k y0 y1 y2 y3 y4) (spec_GridRead.j1 (k + 1) y0 y1 y2 y3 y4))
  | 0 => ⟨fun _ _ _ _ r h => by simp [spec_GridRead.l0] at h, fun _ _ _ _ _ r h => by simp [spec_GridRead.j1] at h⟩
  | k + 1 => by
    obtain ⟨ih0, ih1⟩ := spec_GridRead.mono_l k
    refine ⟨?_, ?_⟩
    · intro y0 y1 y2 y3
      unfold spec_GridRead.l0
      repeat' first
      | (with_reducible exact ih0 _ _ _ _)
      | (with_reducible exact ih1 _ _ _ _ _)
      | (with_reducible exact Go.Proofs.YtfbenlenihlpbaaDoor.PRo.spec_gridReadOne.mono _ _)
      | (with_reducible exact LeO.refl _)
      | (with_reducible exact LeO.none _)
      | (with_reducible refine LeO.ite ?_ ?_)
      | (with_reducible refine LeO.bind ?_ (fun _ => ?_))
      | exact ih0 _ _ _ _
      | exact ih1 _ _ _ _ _
      | exact Go.Proofs.YtfbenlenihlpbaaDoor.PRo.spec_gridReadOne.mono _ _
      | exact LeO.none _
      | refine LeO.ite ?_ ?_
      | refine LeO.bind ?_ (fun _ => ?_)
    · intro y0 y1 y2 y3 y4
      unfold spec_GridRead.j1
      repeat' first
      | (with_reducible exact ih0 _ _ _ _)
      | (with_reducible exact ih1 _ _ _ _ _)
      | (with_reducible exact Go.Proofs.YtfbenlenihlpbaaDoor.PRo.spec_gridReadOne.mono _ _)
      | (with_reducible exact LeO.refl _)
      | (with_reducible exact LeO.none _)
      | (with_reducible refine LeO.ite ?_ ?_)
      | (with_reducible refine LeO.bind ?_ (fun _ => ?_))
      | exact ih0 _ _ _ _
      | exact ih1 _ _ _ _ _
      | exact Go.Proofs.YtfbenlenihlpbaaDoor.PRo.spec_gridReadOne.mono _ _
      | exact LeO.none _
      | refine LeO.ite ?_ ?_
      | refine LeO.bind ?_ (fun _ => ?_)
theorem spec_GridRead.mono : ∀ a0 k, LeO (spec_GridRead.f k a0) (spec_GridRead.f (k + 1) a0) := by
  intro a0 k
  obtain ⟨ih0, ih1⟩ := spec_GridRead.mono_l k
  unfold spec_GridRead.f
  repeat' first
      | (with_reducible exact ih0 _ _ _ _)
      | (with_reducible exact ih1 _ _ _ _ _)
      | (with_reducible exact Go.Proofs.YtfbenlenihlpbaaDoor.PRo.spec_gridReadOne.mono _ _)
      | (with_reducible exact LeO.refl _)
      | (with_reducible exact LeO.none _)
      | (with_reducible refine LeO.ite ?_ ?_)
      | (with_reducible refine LeO.bind ?_ (fun _ => ?_))
      | exact ih0 _ _ _ _
      | exact ih1 _ _ _ _ _
      | exact Go.Proofs.YtfbenlenihlpbaaDoor.PRo.spec_gridReadOne.mono _ _
      | exact LeO.none _
      | refine LeO.ite ?_ ?_
      | refine LeO.bind ?_ (fun _ => ?_)
set_option maxHeartbeats 8000000 in
set_option maxRecDepth 100000 in
theorem spec_GridRead.calls (k : Nat) (a0 : ByteArray) (r1 : List (S22)) (r2 : Bool) (w : World) (h : spec_GridRead.f k a0 = some (r1, r2)) :
    Calls Tryd.prog 24 #[.string a0] w fun e w' => ∃ v0_ : Value, e = .returned (.tuple #[v0_, .bool r2]) ∧ Kd.R k22 22 w' w.heap.size (fun _ => True) v0_ r1 ∧ Below w.heap.size w w' := by
  have hu22 := Tryd.underlying22
  have HB := Aside0.mk (Below.refl w.heap.size w)
  have H : (spec_GridRead.l0 k a0 ([] : List (S22)) 0 0) = some (r1, r2) := h
  clear h
  have H' := Aside0.mk H
  clear H
  go_enter Tryd.func24, Tryd.ntmps24
  go_wp2
  go_loopg [4, 5, 6] k (fun kq v4 v5 v6 w' => ∃ (x4_1 : List (S22)) (x5_1 : Int) (x6_1 : Int), v5 = .int .i64 x5_1 ∧ v6 = .int .i64 x6_1 ∧ Aside0 (spec_GridRead.l0 kq a0 x4_1 x5_1 x6_1 = some (r1, r2)) ∧ Aside0 (kq ≤ k) ∧ Aside0 (Kd.R k22 22 w' w.heap.size (fun _ => True) v4 x4_1) ∧ Aside0 (Below w.heap.size w w'))
  case atStart => exact ⟨(([] : List (S22))), (0), (0), (by first | rfl | (simp; done) | (simp [*]; done)), (by first | rfl | (simp; done) | (simp [*]; done)), H', ⟨Nat.le_refl _⟩, ⟨by first | exact Kd.R_nil _ _ _ _ _ | exact Kd.N_nil _ _ _ _ _ | exact Kd.V_nil _ _ _ _ _ | exact Kd.Q_nil _ _ _ _ _ | exact Kd.S_nil _ _ _ _ _⟩, ⟨by repeat (first | (with_reducible first | exact HB.out | apply below_alloc | apply pw_below_drewN | apply below_drew1) | exact HB.out)⟩⟩
  case round =>
    clear H'
    obtain ⟨x4_1, x5_1, x6_1, rfl, rfl, HA, HK1, HO_4, HB⟩ := hrel
    cases gk with
    | zero => exact absurd HA.out (by simp [spec_GridRead.l0])
    | succ k1 =>
      have H := HA.out
      clear HA
      simp only [spec_GridRead.l0] at H
      by_cases c2 : x6_1 ≤ (a0.size : Int)
      · rw [if_pos c2] at H
        have c2b0 : decide (x6_1 ≤ (a0.size : Int)) = true := decide_eq_true c2
        clear c2
        have HC3 := Aside0.mk H
        clear H
        go_upto_region 6 with (fail)
        go_cut [24] (fun v24 wc => ∃ (kq : Nat) (x24_2 : Bool), v24 = .bool x24_2 ∧ Aside0 (spec_GridRead.j1 kq a0 x4_1 x5_1 x6_1 x24_2 = some (r1, r2)) ∧ Aside0 (kq ≤ k1) ∧ Aside0 (Kd.R k22 22 wc w.heap.size (fun _ => True) u4 x4_1) ∧ Aside0 (Below w.heap.size w wc))
        case first =>
          have H := HC3.out
          clear HC3
          by_cases c4 : x6_1 < (a0.size : Int)
          · rw [if_pos c4] at H
            have c4b0 : decide (x6_1 < (a0.size : Int)) = true := decide_eq_true c4
            clear c4
            (first | rw [c4b0] | (simp only [i64_w, i32_w]; rw [c4b0]) | skip)
            by_cases c5 : 0 ≤ x6_1
            · rw [if_pos c5] at H
              have c5b0 : decide (0 ≤ x6_1) = true := decide_eq_true c5
              clear c5
              have H' := Aside0.mk H
              clear H
              have p6 : 0 ≤ (x6_1 : Int) := of_decide_eq_true (by first | (with_reducible assumption) | assumption)
              have q6 : x6_1 < (a0.size : Int) := of_decide_eq_true (by first | (with_reducible assumption) | assumption)
              have hx6 := bt_at a0 x6_1
              replace p6 := eq_true p6
              replace q6 := eq_true q6
              go_wp2
              go_meet
              case rel => exact ⟨_, (((bt a0 x6_1) != 32)), (by first | rfl | (simp; done) | (simp [*]; done)), H', ⟨by have := HK1.out; first | omega | exact Nat.le_refl _⟩, ⟨by (with_reducible repeat (first | apply Kd.R_alloc | apply Kd.R_drewN | apply Kd.R_drew)); exact HO_4.out⟩, ⟨by repeat (first | (with_reducible first | exact HB.out | apply below_alloc | apply pw_below_drewN | apply below_drew1) | exact HB.out)⟩⟩
            · rw [if_neg c5] at H
              exact absurd H (by simp)
          · rw [if_neg c4] at H
            have c4b0 : decide (x6_1 < (a0.size : Int)) = false := decide_eq_false c4
            clear c4
            (first | rw [c4b0] | (simp only [i64_w, i32_w]; rw [c4b0]) | skip)
            have H' := Aside0.mk H
            clear H
            go_wp2
            go_meet
            case rel => exact ⟨_, (false), (by first | rfl | (simp; done) | (simp [*]; done)), H', ⟨by have := HK1.out; first | omega | exact Nat.le_refl _⟩, ⟨by (with_reducible repeat (first | apply Kd.R_alloc | apply Kd.R_drewN | apply Kd.R_drew)); exact HO_4.out⟩, ⟨by repeat (first | (with_reducible first | exact HB.out | apply below_alloc | apply pw_below_drewN | apply below_drew1) | exact HB.out)⟩⟩
        case rest =>
          clear HC3
          try clear c2
          try clear c2b0
          try clear p2
          try clear c4
          try clear c4b0
          try clear c5
          try clear c5b0
          try clear p6
          try clear q6
          try clear hx6
          try clear p6
          try clear q6
          obtain ⟨kq, x24_2, rfl, HA, HJ2, HO_4, HB⟩ := hcut
          cases kq with
          | zero => exact absurd HA.out (by simp [spec_GridRead.j1])
          | succ kj2 =>
            have H := HA.out
            clear HA
            simp only [spec_GridRead.j1] at H
            by_cases c7 : x24_2 = true
            · subst c7
              have H1 : (spec_GridRead.l0 kj2 a0 x4_1 x5_1 (wrap64 (x6_1 + 1))) = some (r1, r2) := by rw [if_pos rfl] at H; exact H
              clear H
              have H := H1
              clear H1
              have H' := Aside0.mk H
              clear H
              go_wp2
              go_roundg kj2
              case measure => have := HK1.out; have := HJ2.out; omega
              case rel => exact ⟨(x4_1), (x5_1), (wrap64 (x6_1 + 1)), (by first | rfl | (simp; done) | (simp [*]; done)), (by first | rfl | (simp; done) | (simp [*]; done)), H', ⟨by have := HK1.out; have := HJ2.out; omega⟩, ⟨by (with_reducible repeat (first | apply Kd.R_alloc | apply Kd.R_drewN | apply Kd.R_drew)); exact HO_4.out⟩, ⟨by repeat (first | (with_reducible first | exact HB.out | apply below_alloc | apply pw_below_drewN | apply below_drew1) | exact HB.out)⟩⟩
            · replace c7 := Bool.eq_false_iff.mpr c7
              subst c7
              have H1 : (if x6_1 > x5_1 then (if 0 ≤ x5_1 then (if x5_1 ≤ x6_1 then (if x6_1 ≤ (a0.size : Int) then ((Go.Proofs.YtfbenlenihlpbaaDoor.PRo.spec_gridReadOne.f kj2 (a0.extract (x5_1 : Int).toNat (x6_1 : Int).toNat)).bind fun bt107 => (if bt107.2.2.2.2 = true then (if x4_1.length < 4398046511104 then (spec_GridRead.l0 kj2 a0 (x4_1 ++ [(⟨bt107.1, bt107.2.1, bt107.2.2.1, bt107.2.2.2.1⟩ : S22)]) (wrap64 (x6_1 + 1)) (wrap64 (x6_1 + 1))) else (none)) else (some (([] : List (S22)), false)))) else (none)) else (none)) else (none)) else (spec_GridRead.l0 kj2 a0 x4_1 (wrap64 (x6_1 + 1)) (wrap64 (x6_1 + 1)))) = some (r1, r2) := by rw [if_neg (show ¬ (false = true) by decide)] at H; exact H
              clear H
              have H := H1
              clear H1
              by_cases c8 : x6_1 > x5_1
              · rw [if_pos c8] at H
                have c8b0 : decide (x5_1 < x6_1) = true := decide_eq_true c8
                clear c8
                by_cases c9 : 0 ≤ x5_1
                · rw [if_pos c9] at H
                  have c9b0 := eq_true c9
                  have c9b1 : decide (0 ≤ x5_1) = true := decide_eq_true c9
                  clear c9
                  by_cases c10 : x5_1 ≤ x6_1
                  · rw [if_pos c10] at H
                    have c10b0 := eq_true c10
                    have c10b1 : decide (x5_1 ≤ x6_1) = true := decide_eq_true c10
                    clear c10
                    by_cases c11 : x6_1 ≤ (a0.size : Int)
                    · rw [if_pos c11] at H
                      have c11b0 := eq_true c11
                      have c11b1 : decide (x6_1 ≤ (a0.size : Int)) = true := decide_eq_true c11
                      clear c11
                      replace H := Option.bind_eq_some_iff.mp H
                      obtain ⟨⟨t107, t108, t109, t110, t111⟩, A120, H⟩ := H
                      replace H : (if t111 = true then (if x4_1.length < 4398046511104 then (spec_GridRead.l0 kj2 a0 (x4_1 ++ [(⟨t107, t108, t109, t110⟩ : S22)]) (wrap64 (x6_1 + 1)) (wrap64 (x6_1 + 1))) else (none)) else (some (([] : List (S22)), false))) = some (r1, r2) := H
                      have A12 := Aside0.mk A120
                      clear A120
                      by_cases c13 : t111 = true
                      · subst c13
                        have H1 : (if x4_1.length < 4398046511104 then (spec_GridRead.l0 kj2 a0 (x4_1 ++ [(⟨t107, t108, t109, t110⟩ : S22)]) (wrap64 (x6_1 + 1)) (wrap64 (x6_1 + 1))) else (none)) = some (r1, r2) := by rw [if_pos rfl] at H; exact H
                        clear H
                        have H := H1
                        clear H1
                        by_cases c14 : x4_1.length < 4398046511104
                        · rw [if_pos c14] at H
                          have LMc14 := Aside0.mk c14
                          clear c14
                          obtain ⟨y113, hy113⟩ : ∃ y_ : List (S22), y_ = (x4_1 ++ [(⟨t107, t108, t109, t110⟩ : S22)]) := ⟨_, rfl⟩
                          replace H : (spec_GridRead.l0 kj2 a0 y113 (wrap64 (x6_1 + 1)) (wrap64 (x6_1 + 1))) = some (r1, r2) := by first | (rw [hy113]; with_reducible exact H) | (have H2_ := (Option.bind_some _ _).symm.trans H; rw [hy113]; with_reducible exact H2_) | (have H2_ := (Option.bind_some _ _).symm.trans H; with_reducible exact H2_) | with_reducible exact H | (rw [hy113]; exact H) | exact H
                          have Ny113 := Aside0.mk hy113
                          clear hy113
                          have H' := Aside0.mk H
                          clear H
                          go_wp2_with (first | ((with_reducible refine gate_callee (f := 43) rfl ?_); refine goesL_ (some 33) rfl rfl Tryd.func43 (by kernel_rfl) rfl #[.string (a0.extract (x5_1 : Int).toNat (x6_1 : Int).toNat)] rfl (by (try simp only [List.map_toArray, List.map_cons, List.map_nil]); first | done | rfl | (simp only [List.length_drop, List.length_take]; rfl)) ?_; (with_reducible refine (Go.Proofs.YtfbenlenihlpbaaDoor.PRo.spec_gridReadOne.calls kj2 (a0.extract (x5_1 : Int).toNat (x6_1 : Int).toNat) t107 t108 t109 t110 true _ A12.out).mono ?_); rintro e w15 ⟨rfl, hb⟩; refine ⟨_, rfl, ?_⟩; have n0_ := Aside0.mk (Kd.R_below (by (with_reducible repeat (first | apply Kd.R_alloc | apply Kd.R_drewN | apply Kd.R_drew)); exact HO_4.out) hb); have n1_ := Aside0.mk (below_step (by repeat (first | (with_reducible first | exact HB.out | apply below_alloc | apply pw_below_drewN | apply below_drew1) | exact HB.out)) hb); clear HO_4; clear HB; have HO_4 := n0_; have HB := n1_; clear n0_ n1_; (try clear hb); (try clear hb2); (try clear hk); (try clear hi)) | ((with_reducible refine gate_dst (N := 7) rfl ?_); refine box_event ?hg (N := 7) ?hd (cs := #[.int .i64 0, .int .i64 0, .int .i64 0, .int .i64 0]) (t := 22) ?hr ?_; (case hd => rfl); (case hg => rfl); (case hr => first | (go_simp; done) | (go_simp; rfl)); intro gb112 hg w16 hbox hb; have n0_ := Aside0.mk (Kd.R_below (Kd.R_elderB (by (with_reducible repeat (first | apply Kd.R_alloc | apply Kd.R_drewN | apply Kd.R_drew)); exact HO_4.out) gb112 (Nat.le_of_eq hg.symm)) hb); have n1_ := Aside0.mk (below_step (by repeat (first | (with_reducible first | exact HB.out | apply below_alloc | apply pw_below_drewN | apply below_drew1) | exact HB.out)) hb); have n2_ := Aside0.mk (hbox); have n3_ := Aside0.mk ((by rw [hg]; exact (below_size (by repeat (first | (with_reducible first | exact HB.out | apply below_alloc | apply pw_below_drewN | apply below_drew1) | exact HB.out))) : w.heap.size ≤ gb112)); have n4_ := Aside0.mk ((by rw [hg]; exact (below_size (by repeat (first | (with_reducible first | exact HB.out | apply below_alloc | apply pw_below_drewN | apply below_drew1) | exact HB.out))) : w.heap.size ≤ gb112)); clear HO_4; clear HB; have HO_4 := n0_; have HB := n1_; have BK112 := n2_; have GW112 := n3_; have GE112 := n4_; clear n0_ n1_ n2_ n3_ n4_; clear hb hbox hg; have hcz17_0 : w16.cell? ⟨gb112, 0, none⟩ = some (.int .i64 0) := (blk_cell BK112.out 0).trans rfl; have hcz17_1 : w16.cell? ⟨gb112, 1, none⟩ = some (.int .i64 0) := (blk_cell BK112.out 1).trans rfl; have hcz17_2 : w16.cell? ⟨gb112, 2, none⟩ = some (.int .i64 0) := (blk_cell BK112.out 2).trans rfl; have hcz17_3 : w16.cell? ⟨gb112, 3, none⟩ = some (.int .i64 0) := (blk_cell BK112.out 3).trans rfl; have hfz17_0 := blk_frozen BK112.out 0; have hfz17_1 := blk_frozen BK112.out 1; have hfz17_2 := blk_frozen BK112.out 2; have hfz17_3 := blk_frozen BK112.out 3) | ((with_reducible refine gate_builtin (b := .append) (xs := #[.tmp 38, .tmp 40]) rfl ?_); at_builtin; refine Kd.R_append k22 (w0 := w) w.heap.size rfl (.tmp 38) (.tmp 40) 41 22 (.agg #[(.int .i64 0), (.int .i64 0), (.int .i64 0), (.int .i64 0)]) 32 rfl Tryd.underlying41 info22 rfl (by decide) (by omega) u4 x4_1 (⟨t107, t108, t109, t110⟩ : S22) [.int .i64 t107, .int .i64 t108, .int .i64 t109, .int .i64 t110] (fun k_ => k_ ≠ gb112) (fun _ => False) rfl (by first | (go_simp; done) | (go_simp; rfl)) ?aP (fun _ hk => hk.elim) ?aF ?aO ?aB ?aS ?aL ?_; (case aP => exact k22_mkM _ _ _ (⟨t107, t108, t109, t110⟩ : S22)); (case aB => exact (by repeat (first | (with_reducible first | exact HB.out | apply below_alloc | apply pw_below_drewN | apply below_drew1 | refine below_set ?_ GE112.out) | exact HB.out))); (case aF => exact (fun k_ hk => Kd.freshB (g := gb112) (o := .cells #[.int .i64 t107, .int .i64 t108, .int .i64 t109, .int .i64 t110] 22 (0, 0)) (by (with_reducible repeat (first | refine blk_drewN ?_ _ | refine blk_drew ?_ | refine blk_alloc ?_ _)); refine blk_put (cs := #[.int .i64 t107, .int .i64 t108, .int .i64 t109, .int .i64 0]) ?_ 3 _ rfl; (with_reducible repeat (first | refine blk_drewN ?_ _ | refine blk_drew ?_ | refine blk_alloc ?_ _)); refine blk_put (cs := #[.int .i64 t107, .int .i64 t108, .int .i64 0, .int .i64 0]) ?_ 2 _ rfl; (with_reducible repeat (first | refine blk_drewN ?_ _ | refine blk_drew ?_ | refine blk_alloc ?_ _)); refine blk_put (cs := #[.int .i64 t107, .int .i64 0, .int .i64 0, .int .i64 0]) ?_ 1 _ rfl; (with_reducible repeat (first | refine blk_drewN ?_ _ | refine blk_drew ?_ | refine blk_alloc ?_ _)); refine blk_put (cs := #[.int .i64 0, .int .i64 0, .int .i64 0, .int .i64 0]) ?_ 0 _ rfl; (with_reducible repeat (first | refine blk_drewN ?_ _ | refine blk_drew ?_ | refine blk_alloc ?_ _)); exact BK112.out) k_ hk)); (case aO => exact (by (with_reducible repeat (first | apply Kd.R_alloc | apply Kd.R_drewN | apply Kd.R_drew)); exact Kd.R_mono (Kd.R_far (p := ⟨gb112, 3, none⟩) (Kd.R_far (p := ⟨gb112, 2, none⟩) (Kd.R_far (p := ⟨gb112, 1, none⟩) (Kd.R_far (p := ⟨gb112, 0, none⟩) (Kd.R_mono HO_4.out (fun k_ hk => (⟨hk, hk.2⟩ : _ ∧ k_ ≠ gb112))) (fun _ hk => hk.2) (.int .i64 t107)) (fun _ hk => hk.2) (.int .i64 t108)) (fun _ hk => hk.2) (.int .i64 t109)) (fun _ hk => hk.2) (.int .i64 t110)) (fun _ hk => hk.1.2))); (case aS => exact (below_size (by repeat (first | (with_reducible first | exact HB.out | apply below_alloc | apply pw_below_drewN | apply below_drew1 | refine below_set ?_ GE112.out) | exact HB.out)))); (case aL => have := LMc14.out; omega); intro v114 w18 ho hb hg hat; rw [← Ny113.out] at ho; have n0_ := Aside0.mk (blk_grown (g := gb112) (o := .cells #[.int .i64 t107, .int .i64 t108, .int .i64 t109, .int .i64 t110] 22 (0, 0)) (by (with_reducible repeat (first | refine blk_drewN ?_ _ | refine blk_drew ?_ | refine blk_alloc ?_ _)); refine blk_put (cs := #[.int .i64 t107, .int .i64 t108, .int .i64 t109, .int .i64 0]) ?_ 3 _ rfl; (with_reducible repeat (first | refine blk_drewN ?_ _ | refine blk_drew ?_ | refine blk_alloc ?_ _)); refine blk_put (cs := #[.int .i64 t107, .int .i64 t108, .int .i64 0, .int .i64 0]) ?_ 2 _ rfl; (with_reducible repeat (first | refine blk_drewN ?_ _ | refine blk_drew ?_ | refine blk_alloc ?_ _)); refine blk_put (cs := #[.int .i64 t107, .int .i64 0, .int .i64 0, .int .i64 0]) ?_ 1 _ rfl; (with_reducible repeat (first | refine blk_drewN ?_ _ | refine blk_drew ?_ | refine blk_alloc ?_ _)); refine blk_put (cs := #[.int .i64 0, .int .i64 0, .int .i64 0, .int .i64 0]) ?_ 0 _ rfl; (with_reducible repeat (first | refine blk_drewN ?_ _ | refine blk_drew ?_ | refine blk_alloc ?_ _)); exact BK112.out) hg (Kd.R_away HO_4.out (fun _ hk => hk.2))); have n1_ := Aside0.mk (hb); have n2_ := Aside0.mk (ho); clear BK112; clear HB; clear HO_4; have BK112 := n0_; have HB := n1_; have HO115 := n2_; clear n0_ n1_ n2_; clear ho hb hg hat))
                          go_roundg kj2
                          case measure => have := HK1.out; have := HJ2.out; omega
                          case rel => exact ⟨(y113), (wrap64 (x6_1 + 1)), (wrap64 (x6_1 + 1)), (by first | rfl | (simp; done) | (simp [*]; done)), (by first | rfl | (simp; done) | (simp [*]; done)), H', ⟨by have := HK1.out; have := HJ2.out; omega⟩, ⟨by (with_reducible repeat (first | apply Kd.R_alloc | apply Kd.R_drewN | apply Kd.R_drew)); exact Kd.R_mono HO115.out (fun _ hk => trivial)⟩, ⟨by repeat (first | (with_reducible first | exact HB.out | apply below_alloc | apply pw_below_drewN | apply below_drew1 | refine below_set ?_ GE112.out) | exact HB.out)⟩⟩
                        · rw [if_neg c14] at H
                          exact absurd H (by simp)
                      · replace c13 := Bool.eq_false_iff.mpr c13
                        subst c13
                        have H1 : (some (([] : List (S22)), false)) = some (r1, r2) := by rw [if_neg (show ¬ (false = true) by decide)] at H; exact H
                        clear H
                        have H := H1
                        clear H1
                        simp only [Option.some.injEq, Prod.mk.injEq] at H
                        obtain ⟨rfl, rfl⟩ := H
                        go_wp2_with (first | ((with_reducible refine gate_callee (f := 43) rfl ?_); refine goesL_ (some 33) rfl rfl Tryd.func43 (by kernel_rfl) rfl #[.string (a0.extract (x5_1 : Int).toNat (x6_1 : Int).toNat)] rfl (by (try simp only [List.map_toArray, List.map_cons, List.map_nil]); first | done | rfl | (simp only [List.length_drop, List.length_take]; rfl)) ?_; (with_reducible refine (Go.Proofs.YtfbenlenihlpbaaDoor.PRo.spec_gridReadOne.calls kj2 (a0.extract (x5_1 : Int).toNat (x6_1 : Int).toNat) t107 t108 t109 t110 false _ A12.out).mono ?_); rintro e w19 ⟨rfl, hb⟩; refine ⟨_, rfl, ?_⟩; have n0_ := Aside0.mk (Kd.R_below (by (with_reducible repeat (first | apply Kd.R_alloc | apply Kd.R_drewN | apply Kd.R_drew)); exact HO_4.out) hb); have n1_ := Aside0.mk (below_step (by repeat (first | (with_reducible first | exact HB.out | apply below_alloc | apply pw_below_drewN | apply below_drew1) | exact HB.out)) hb); clear HO_4; clear HB; have HO_4 := n0_; have HB := n1_; clear n0_ n1_; (try clear hb); (try clear hb2); (try clear hk); (try clear hi)) | ((with_reducible refine gate_dst (N := 7) rfl ?_); refine box_event ?hg (N := 7) ?hd (cs := #[.int .i64 0, .int .i64 0, .int .i64 0, .int .i64 0]) (t := 22) ?hr ?_; (case hd => rfl); (case hg => rfl); (case hr => first | (go_simp; done) | (go_simp; rfl)); intro gb112 hg w20 hbox hb; have n0_ := Aside0.mk (Kd.R_below (Kd.R_elderB (by (with_reducible repeat (first | apply Kd.R_alloc | apply Kd.R_drewN | apply Kd.R_drew)); exact HO_4.out) gb112 (Nat.le_of_eq hg.symm)) hb); have n1_ := Aside0.mk (below_step (by repeat (first | (with_reducible first | exact HB.out | apply below_alloc | apply pw_below_drewN | apply below_drew1) | exact HB.out)) hb); have n2_ := Aside0.mk (hbox); have n3_ := Aside0.mk ((by rw [hg]; exact (below_size (by repeat (first | (with_reducible first | exact HB.out | apply below_alloc | apply pw_below_drewN | apply below_drew1) | exact HB.out))) : w.heap.size ≤ gb112)); have n4_ := Aside0.mk ((by rw [hg]; exact (below_size (by repeat (first | (with_reducible first | exact HB.out | apply below_alloc | apply pw_below_drewN | apply below_drew1) | exact HB.out))) : w.heap.size ≤ gb112)); clear HO_4; clear HB; have HO_4 := n0_; have HB := n1_; have BK112 := n2_; have GW112 := n3_; have GE112 := n4_; clear n0_ n1_ n2_ n3_ n4_; clear hb hbox hg; have hcz21_0 : w20.cell? ⟨gb112, 0, none⟩ = some (.int .i64 0) := (blk_cell BK112.out 0).trans rfl; have hcz21_1 : w20.cell? ⟨gb112, 1, none⟩ = some (.int .i64 0) := (blk_cell BK112.out 1).trans rfl; have hcz21_2 : w20.cell? ⟨gb112, 2, none⟩ = some (.int .i64 0) := (blk_cell BK112.out 2).trans rfl; have hcz21_3 : w20.cell? ⟨gb112, 3, none⟩ = some (.int .i64 0) := (blk_cell BK112.out 3).trans rfl; have hfz21_0 := blk_frozen BK112.out 0; have hfz21_1 := blk_frozen BK112.out 1; have hfz21_2 := blk_frozen BK112.out 2; have hfz21_3 := blk_frozen BK112.out 3))
                        go_ret2
                        exact ⟨_, by first | rfl | (simp [errW_none, errW_some] <;> rfl) | (simp [*, errW_none, errW_some] <;> rfl), by first | exact Kd.R_nil _ _ _ _ _ | exact Kd.N_nil _ _ _ _ _ | exact Kd.V_nil _ _ _ _ _ | exact Kd.Q_nil _ _ _ _ _ | exact Kd.S_nil _ _ _ _ _, by repeat (first | (with_reducible first | exact HB.out | apply below_alloc | apply pw_below_drewN | apply below_drew1 | refine below_set ?_ GE112.out) | exact HB.out)⟩
                    · rw [if_neg c11] at H
                      exact absurd H (by simp)
                  · rw [if_neg c10] at H
                    exact absurd H (by simp)
                · rw [if_neg c9] at H
                  exact absurd H (by simp)
              · rw [if_neg c8] at H
                have c8b0 : decide (x5_1 < x6_1) = false := decide_eq_false c8
                clear c8
                have H' := Aside0.mk H
                clear H
                go_wp2
                go_roundg kj2
                case measure => have := HK1.out; have := HJ2.out; omega
                case rel => exact ⟨(x4_1), (wrap64 (x6_1 + 1)), (wrap64 (x6_1 + 1)), (by first | rfl | (simp; done) | (simp [*]; done)), (by first | rfl | (simp; done) | (simp [*]; done)), H', ⟨by have := HK1.out; have := HJ2.out; omega⟩, ⟨by (with_reducible repeat (first | apply Kd.R_alloc | apply Kd.R_drewN | apply Kd.R_drew)); exact HO_4.out⟩, ⟨by repeat (first | (with_reducible first | exact HB.out | apply below_alloc | apply pw_below_drewN | apply below_drew1) | exact HB.out)⟩⟩
      · rw [if_neg c2] at H
        have c2b0 : decide (x6_1 ≤ (a0.size : Int)) = false := decide_eq_false c2
        clear c2
        simp only [Option.some.injEq, Prod.mk.injEq] at H
        obtain ⟨rfl, rfl⟩ := H
        go_wp2
        go_ret2
        exact ⟨_, by first | rfl | (simp [errW_none, errW_some] <;> rfl) | (simp [*, errW_none, errW_some] <;> rfl), by (with_reducible repeat (first | apply Kd.R_alloc | apply Kd.R_drewN | apply Kd.R_drew)); exact HO_4.out, by repeat (first | (with_reducible first | exact HB.out | apply below_alloc | apply pw_below_drewN | apply below_drew1) | exact HB.out)⟩

/-! ### spec_GridMove_Index: function 56 -/
def spec_GridMove_Index.f (a0_0 : Bool) (a0_1 : Int) (a0_2 : Int) (a1 : Int) : Option (Int) := if a1 < a0_1 then (some a1) else (some (mx 1 (wrap64 (a1 + a0_2))))
set_option maxHeartbeats 8000000 in
set_option maxRecDepth 100000 in
theorem spec_GridMove_Index.calls (a0_0 : Bool) (a0_1 : Int) (a0_2 : Int) (a1 : Int) (r : Int) (w : World) (h : spec_GridMove_Index.f a0_0 a0_1 a0_2 a1 = some r) :
    Calls Tryd.prog 56 #[.agg #[.bool a0_0, .int .i64 a0_1, .int .i64 a0_2], .int .i64 a1] w fun e w' => e = .returned (.int .i64 r) ∧ Below w.heap.size w w' := by
  have hu46 := Tryd.underlying46
  have HB := Aside0.mk (Below.refl w.heap.size w)
  have H : (if a1 < a0_1 then (some a1) else (some (mx 1 (wrap64 (a1 + a0_2))))) = some r := h
  clear h
  by_cases c3 : a1 < a0_1
  · rw [if_pos c3] at H
    have c3b0 : decide (a1 < a0_1) = true := decide_eq_true c3
    clear c3
    obtain rfl := Option.some.inj H
    go_enter Tryd.func56, Tryd.ntmps56
    go_wp2_with (first | ((with_reducible refine gate_dst (N := 2) rfl ?_); refine box_event ?hg (N := 2) ?hd (cs := #[.bool a0_0, .int .i64 a0_1, .int .i64 a0_2]) (t := 46) ?hr ?_; (case hd => rfl); (case hg => rfl); (case hr => first | (go_simp; done) | (go_simp; rfl)); intro gb116 hg w4 hbox hb; have n0_ := Aside0.mk (below_step (by repeat (first | (with_reducible first | exact HB.out | apply below_alloc | apply pw_below_drewN | apply below_drew1) | exact HB.out)) hb); have n1_ := Aside0.mk (hbox); have n2_ := Aside0.mk ((by rw [hg]; exact (below_size (by repeat (first | (with_reducible first | exact HB.out | apply below_alloc | apply pw_below_drewN | apply below_drew1) | exact HB.out))) : w.heap.size ≤ gb116)); have n3_ := Aside0.mk ((by rw [hg]; exact (below_size (by repeat (first | (with_reducible first | exact HB.out | apply below_alloc | apply pw_below_drewN | apply below_drew1) | exact HB.out))) : w.heap.size ≤ gb116)); clear HB; have HB := n0_; have BK116 := n1_; have GW116 := n2_; have GE116 := n3_; clear n0_ n1_ n2_ n3_; clear hb hbox hg; have hcz5_0 : w4.cell? ⟨gb116, 0, none⟩ = some (.bool a0_0) := (blk_cell BK116.out 0).trans rfl; have hcz5_1 : w4.cell? ⟨gb116, 1, none⟩ = some (.int .i64 a0_1) := (blk_cell BK116.out 1).trans rfl; have hcz5_2 : w4.cell? ⟨gb116, 2, none⟩ = some (.int .i64 a0_2) := (blk_cell BK116.out 2).trans rfl; have hfz5_0 := blk_frozen BK116.out 0; have hfz5_1 := blk_frozen BK116.out 1; have hfz5_2 := blk_frozen BK116.out 2))
    go_ret
    exact ⟨by first | rfl | (simp [errW_none, errW_some] <;> rfl) | (simp [*, errW_none, errW_some] <;> rfl), by repeat (first | (with_reducible first | exact HB.out | apply below_alloc | apply pw_below_drewN | apply below_drew1 | refine below_set ?_ GE116.out) | exact HB.out)⟩
  · rw [if_neg c3] at H
    have c3b0 : decide (a1 < a0_1) = false := decide_eq_false c3
    clear c3
    obtain ⟨ji6, hji6⟩ : ∃ j_ : Int, (mx 1 (wrap64 (a1 + a0_2))) = j_ := ⟨_, rfl⟩
    replace H : (some ji6) = some r := by first | (rw [hji6] at H; exact H) | (simp only [hji6] at H ⊢; exact H)
    (try (have hji6l : 1 ≤ ji6 := by (rw [← hji6]; unfold mx; (repeat' split) <;> omega)))
    (try (have hji6m : 0 ≤ ji6 := by omega))
    have hji6_ : (if 1 < (wrap64 (a1 + a0_2)) then (wrap64 (a1 + a0_2)) else 1) = ji6 := hji6
    obtain rfl := Option.some.inj H
    go_enter Tryd.func56, Tryd.ntmps56
    go_wp2_with (first | ((with_reducible refine gate_dst (N := 2) rfl ?_); refine box_event ?hg (N := 2) ?hd (cs := #[.bool a0_0, .int .i64 a0_1, .int .i64 a0_2]) (t := 46) ?hr ?_; (case hd => rfl); (case hg => rfl); (case hr => first | (go_simp; done) | (go_simp; rfl)); intro gb116 hg w7 hbox hb; have n0_ := Aside0.mk (below_step (by repeat (first | (with_reducible first | exact HB.out | apply below_alloc | apply pw_below_drewN | apply below_drew1) | exact HB.out)) hb); have n1_ := Aside0.mk (hbox); have n2_ := Aside0.mk ((by rw [hg]; exact (below_size (by repeat (first | (with_reducible first | exact HB.out | apply below_alloc | apply pw_below_drewN | apply below_drew1) | exact HB.out))) : w.heap.size ≤ gb116)); have n3_ := Aside0.mk ((by rw [hg]; exact (below_size (by repeat (first | (with_reducible first | exact HB.out | apply below_alloc | apply pw_below_drewN | apply below_drew1) | exact HB.out))) : w.heap.size ≤ gb116)); clear HB; have HB := n0_; have BK116 := n1_; have GW116 := n2_; have GE116 := n3_; clear n0_ n1_ n2_ n3_; clear hb hbox hg; have hcz8_0 : w7.cell? ⟨gb116, 0, none⟩ = some (.bool a0_0) := (blk_cell BK116.out 0).trans rfl; have hcz8_1 : w7.cell? ⟨gb116, 1, none⟩ = some (.int .i64 a0_1) := (blk_cell BK116.out 1).trans rfl; have hcz8_2 : w7.cell? ⟨gb116, 2, none⟩ = some (.int .i64 a0_2) := (blk_cell BK116.out 2).trans rfl; have hfz8_0 := blk_frozen BK116.out 0; have hfz8_1 := blk_frozen BK116.out 1; have hfz8_2 := blk_frozen BK116.out 2))
    go_ret
    exact ⟨by first | rfl | (simp [errW_none, errW_some] <;> rfl) | (simp only [← hji6]; first | rfl | (simp [errW_none, errW_some] <;> rfl)) | (simp [*, errW_none, errW_some] <;> rfl), by repeat (first | (with_reducible first | exact HB.out | apply below_alloc | apply pw_below_drewN | apply below_drew1 | refine below_set ?_ GE116.out) | exact HB.out)⟩

/-! ### spec_GridMove_Place: function 44 -/
def spec_GridMove_Place.f (a0_0 : Bool) (a0_1 : Int) (a0_2 : Int) (a1 : Int) (a2 : Int) : Option (Int × Int) := if a0_0 = true then ((spec_GridMove_Index.f a0_0 a0_1 a0_2 a2).bind fun t118 => (some (a1, t118))) else ((spec_GridMove_Index.f a0_0 a0_1 a0_2 a1).bind fun t119 => (some (t119, a2)))
set_option maxHeartbeats 8000000 in
set_option maxRecDepth 100000 in
theorem spec_GridMove_Place.calls (a0_0 : Bool) (a0_1 : Int) (a0_2 : Int) (a1 : Int) (a2 : Int) (r1 : Int) (r2 : Int) (w : World) (h : spec_GridMove_Place.f a0_0 a0_1 a0_2 a1 a2 = some (r1, r2)) :
    Calls Tryd.prog 44 #[.agg #[.bool a0_0, .int .i64 a0_1, .int .i64 a0_2], .int .i64 a1, .int .i64 a2] w fun e w' => e = .returned (.tuple #[.int .i64 r1, .int .i64 r2]) ∧ Below w.heap.size w w' := by
  have hu46 := Tryd.underlying46
  have HB := Aside0.mk (Below.refl w.heap.size w)
  have H : (if a0_0 = true then ((spec_GridMove_Index.f a0_0 a0_1 a0_2 a2).bind fun t118 => (some (a1, t118))) else ((spec_GridMove_Index.f a0_0 a0_1 a0_2 a1).bind fun t119 => (some (t119, a2)))) = some (r1, r2) := h
  clear h
  by_cases c4 : a0_0 = true
  · subst c4
    have H1 : ((spec_GridMove_Index.f true a0_1 a0_2 a2).bind fun t118 => (some (a1, t118))) = some (r1, r2) := by rw [if_pos rfl] at H; exact H
    clear H
    have H := H1
    clear H1
    replace H := Option.bind_eq_some_iff.mp H
    obtain ⟨t118, A50, H⟩ := H
    replace H : (some (a1, t118)) = some (r1, r2) := H
    have A5 := Aside0.mk A50
    clear A50
    simp only [Option.some.injEq, Prod.mk.injEq] at H
    obtain ⟨rfl, rfl⟩ := H
    go_enter Tryd.func44, Tryd.ntmps44
    go_wp2_with (first | ((with_reducible refine gate_dst (N := 3) rfl ?_); refine box_event ?hg (N := 3) ?hd (cs := #[.bool true, .int .i64 a0_1, .int .i64 a0_2]) (t := 46) ?hr ?_; (case hd => rfl); (case hg => rfl); (case hr => first | (go_simp; done) | (go_simp; rfl)); intro gb117 hg w6 hbox hb; have n0_ := Aside0.mk (below_step (by repeat (first | (with_reducible first | exact HB.out | apply below_alloc | apply pw_below_drewN | apply below_drew1) | exact HB.out)) hb); have n1_ := Aside0.mk (hbox); have n2_ := Aside0.mk ((by rw [hg]; exact (below_size (by repeat (first | (with_reducible first | exact HB.out | apply below_alloc | apply pw_below_drewN | apply below_drew1) | exact HB.out))) : w.heap.size ≤ gb117)); have n3_ := Aside0.mk ((by rw [hg]; exact (below_size (by repeat (first | (with_reducible first | exact HB.out | apply below_alloc | apply pw_below_drewN | apply below_drew1) | exact HB.out))) : w.heap.size ≤ gb117)); clear HB; have HB := n0_; have BK117 := n1_; have GW117 := n2_; have GE117 := n3_; clear n0_ n1_ n2_ n3_; clear hb hbox hg; have hcz7_0 : w6.cell? ⟨gb117, 0, none⟩ = some (.bool true) := (blk_cell BK117.out 0).trans rfl; have hcz7_1 : w6.cell? ⟨gb117, 1, none⟩ = some (.int .i64 a0_1) := (blk_cell BK117.out 1).trans rfl; have hcz7_2 : w6.cell? ⟨gb117, 2, none⟩ = some (.int .i64 a0_2) := (blk_cell BK117.out 2).trans rfl; have hfz7_0 := blk_frozen BK117.out 0; have hfz7_1 := blk_frozen BK117.out 1; have hfz7_2 := blk_frozen BK117.out 2) | ((with_reducible refine gate_callee (f := 56) rfl ?_); refine goesL_ (some 13) rfl rfl Tryd.func56 (by kernel_rfl) rfl #[.agg #[.bool true, .int .i64 a0_1, .int .i64 a0_2], .int .i64 a2] rfl (by (try simp only [List.map_toArray, List.map_cons, List.map_nil]); first | done | rfl | (simp only [List.length_drop, List.length_take]; rfl)) ?_; (with_reducible refine (spec_GridMove_Index.calls true a0_1 a0_2 a2 t118 _ A5.out).mono ?_); rintro e w8 ⟨rfl, hb⟩; refine ⟨_, rfl, ?_⟩; have n0_ := Aside0.mk (blk_below (g := gb117) (o := .cells #[.bool true, .int .i64 a0_1, .int .i64 a0_2] 46 (0, 0)) (by (with_reducible repeat (first | refine blk_drewN ?_ _ | refine blk_drew ?_ | refine blk_alloc ?_ _)); exact BK117.out) hb); have n1_ := Aside0.mk (below_step (by repeat (first | (with_reducible first | exact HB.out | apply below_alloc | apply pw_below_drewN | apply below_drew1 | refine below_set ?_ GE117.out) | exact HB.out)) hb); clear BK117; clear HB; have BK117 := n0_; have HB := n1_; clear n0_ n1_; (try clear hb); (try clear hb2); (try clear hk); (try clear hi)))
    go_ret2
    exact ⟨by first | rfl | (simp [errW_none, errW_some] <;> rfl) | (simp [*, errW_none, errW_some] <;> rfl), by repeat (first | (with_reducible first | exact HB.out | apply below_alloc | apply pw_below_drewN | apply below_drew1 | refine below_set ?_ GE117.out) | exact HB.out)⟩
  · replace c4 := Bool.eq_false_iff.mpr c4
    subst c4
    have H1 : ((spec_GridMove_Index.f false a0_1 a0_2 a1).bind fun t119 => (some (t119, a2))) = some (r1, r2) := by rw [if_neg (show ¬ (false = true) by decide)] at H; exact H
    clear H
    have H := H1
    clear H1
    replace H := Option.bind_eq_some_iff.mp H
    obtain ⟨t119, A90, H⟩ := H
    replace H : (some (t119, a2)) = some (r1, r2) := H
    have A9 := Aside0.mk A90
    clear A90
    simp only [Option.some.injEq, Prod.mk.injEq] at H
    obtain ⟨rfl, rfl⟩ := H
    go_enter Tryd.func44, Tryd.ntmps44
    go_wp2_with (first | ((with_reducible refine gate_dst (N := 3) rfl ?_); refine box_event ?hg (N := 3) ?hd (cs := #[.bool false, .int .i64 a0_1, .int .i64 a0_2]) (t := 46) ?hr ?_; (case hd => rfl); (case hg => rfl); (case hr => first | (go_simp; done) | (go_simp; rfl)); intro gb117 hg w10 hbox hb; have n0_ := Aside0.mk (below_step (by repeat (first | (with_reducible first | exact HB.out | apply below_alloc | apply pw_below_drewN | apply below_drew1) | exact HB.out)) hb); have n1_ := Aside0.mk (hbox); have n2_ := Aside0.mk ((by rw [hg]; exact (below_size (by repeat (first | (with_reducible first | exact HB.out | apply below_alloc | apply pw_below_drewN | apply below_drew1) | exact HB.out))) : w.heap.size ≤ gb117)); have n3_ := Aside0.mk ((by rw [hg]; exact (below_size (by repeat (first | (with_reducible first | exact HB.out | apply below_alloc | apply pw_below_drewN | apply below_drew1) | exact HB.out))) : w.heap.size ≤ gb117)); clear HB; have HB := n0_; have BK117 := n1_; have GW117 := n2_; have GE117 := n3_; clear n0_ n1_ n2_ n3_; clear hb hbox hg; have hcz11_0 : w10.cell? ⟨gb117, 0, none⟩ = some (.bool false) := (blk_cell BK117.out 0).trans rfl; have hcz11_1 : w10.cell? ⟨gb117, 1, none⟩ = some (.int .i64 a0_1) := (blk_cell BK117.out 1).trans rfl; have hcz11_2 : w10.cell? ⟨gb117, 2, none⟩ = some (.int .i64 a0_2) := (blk_cell BK117.out 2).trans rfl; have hfz11_0 := blk_frozen BK117.out 0; have hfz11_1 := blk_frozen BK117.out 1; have hfz11_2 := blk_frozen BK117.out 2) | ((with_reducible refine gate_callee (f := 56) rfl ?_); refine goesL_ (some 16) rfl rfl Tryd.func56 (by kernel_rfl) rfl #[.agg #[.bool false, .int .i64 a0_1, .int .i64 a0_2], .int .i64 a1] rfl (by (try simp only [List.map_toArray, List.map_cons, List.map_nil]); first | done | rfl | (simp only [List.length_drop, List.length_take]; rfl)) ?_; (with_reducible refine (spec_GridMove_Index.calls false a0_1 a0_2 a1 t119 _ A9.out).mono ?_); rintro e w12 ⟨rfl, hb⟩; refine ⟨_, rfl, ?_⟩; have n0_ := Aside0.mk (blk_below (g := gb117) (o := .cells #[.bool false, .int .i64 a0_1, .int .i64 a0_2] 46 (0, 0)) (by (with_reducible repeat (first | refine blk_drewN ?_ _ | refine blk_drew ?_ | refine blk_alloc ?_ _)); exact BK117.out) hb); have n1_ := Aside0.mk (below_step (by repeat (first | (with_reducible first | exact HB.out | apply below_alloc | apply pw_below_drewN | apply below_drew1 | refine below_set ?_ GE117.out) | exact HB.out)) hb); clear BK117; clear HB; have BK117 := n0_; have HB := n1_; clear n0_ n1_; (try clear hb); (try clear hb2); (try clear hk); (try clear hi)))
    go_ret2
    exact ⟨by first | rfl | (simp [errW_none, errW_some] <;> rfl) | (simp [*, errW_none, errW_some] <;> rfl), by repeat (first | (with_reducible first | exact HB.out | apply below_alloc | apply pw_below_drewN | apply below_drew1 | refine below_set ?_ GE117.out) | exact HB.out)⟩

/-! ### spec_GridMove_Area: function 25 -/
def spec_GridMove_Area.f (a0_0 : Bool) (a0_1 : Int) (a0_2 : Int) (a1_0 : Int) (a1_1 : Int) (a1_2 : Int) (a1_3 : Int) : Option (Int × Int × Int × Int) := (spec_GridMove_Place.f a0_0 a0_1 a0_2 a1_0 a1_1).bind fun bt123 => ((spec_GridMove_Place.f a0_0 a0_1 a0_2 a1_2 a1_3).bind fun bt125 => (some (bt123.1, bt123.2, bt125.1, bt125.2)))
set_option maxHeartbeats 8000000 in
set_option maxRecDepth 100000 in
theorem spec_GridMove_Area.calls (a0_0 : Bool) (a0_1 : Int) (a0_2 : Int) (a1_0 : Int) (a1_1 : Int) (a1_2 : Int) (a1_3 : Int) (r1 : Int) (r2 : Int) (r3 : Int) (r4 : Int) (w : World) (h : spec_GridMove_Area.f a0_0 a0_1 a0_2 a1_0 a1_1 a1_2 a1_3 = some (r1, r2, r3, r4)) :
    Calls Tryd.prog 25 #[.agg #[.bool a0_0, .int .i64 a0_1, .int .i64 a0_2], .agg #[.int .i64 a1_0, .int .i64 a1_1, .int .i64 a1_2, .int .i64 a1_3]] w fun e w' => e = .returned (.agg #[.int .i64 r1, .int .i64 r2, .int .i64 r3, .int .i64 r4]) ∧ Below w.heap.size w w' := by
  have hu46 := Tryd.underlying46
  have hu22 := Tryd.underlying22
  have HB := Aside0.mk (Below.refl w.heap.size w)
  have H : ((spec_GridMove_Place.f a0_0 a0_1 a0_2 a1_0 a1_1).bind fun bt123 => ((spec_GridMove_Place.f a0_0 a0_1 a0_2 a1_2 a1_3).bind fun bt125 => (some (bt123.1, bt123.2, bt125.1, bt125.2)))) = some (r1, r2, r3, r4) := h
  clear h
  replace H := Option.bind_eq_some_iff.mp H
  obtain ⟨⟨t123, t124⟩, A30, H⟩ := H
  replace H : ((spec_GridMove_Place.f a0_0 a0_1 a0_2 a1_2 a1_3).bind fun bt125 => (some (t123, t124, bt125.1, bt125.2))) = some (r1, r2, r3, r4) := H
  have A3 := Aside0.mk A30
  clear A30
  replace H := Option.bind_eq_some_iff.mp H
  obtain ⟨⟨t125, t126⟩, A40, H⟩ := H
  replace H : (some (t123, t124, t125, t126)) = some (r1, r2, r3, r4) := H
  have A4 := Aside0.mk A40
  clear A40
  simp only [Option.some.injEq, Prod.mk.injEq] at H
  obtain ⟨rfl, rfl, rfl, rfl⟩ := H
  go_enter Tryd.func25, Tryd.ntmps25
  go_wp2_with (first | ((with_reducible refine gate_dst (N := 2) rfl ?_); refine box_event ?hg (N := 2) ?hd (cs := #[.bool a0_0, .int .i64 a0_1, .int .i64 a0_2]) (t := 46) ?hr ?_; (case hd => rfl); (case hg => rfl); (case hr => first | (go_simp; done) | (go_simp; rfl)); intro gb120 hg w5 hbox hb; have n0_ := Aside0.mk (below_step (by repeat (first | (with_reducible first | exact HB.out | apply below_alloc | apply pw_below_drewN | apply below_drew1) | exact HB.out)) hb); have n1_ := Aside0.mk (hbox); have n2_ := Aside0.mk ((by rw [hg]; exact (below_size (by repeat (first | (with_reducible first | exact HB.out | apply below_alloc | apply pw_below_drewN | apply below_drew1) | exact HB.out))) : w.heap.size ≤ gb120)); have n3_ := Aside0.mk ((by rw [hg]; exact (below_size (by repeat (first | (with_reducible first | exact HB.out | apply below_alloc | apply pw_below_drewN | apply below_drew1) | exact HB.out))) : w.heap.size ≤ gb120)); clear HB; have HB := n0_; have BK120 := n1_; have GW120 := n2_; have GE120 := n3_; clear n0_ n1_ n2_ n3_; clear hb hbox hg) | ((with_reducible refine gate_dst (N := 3) rfl ?_); refine box_event ?hg (N := 3) ?hd (cs := #[.int .i64 a1_0, .int .i64 a1_1, .int .i64 a1_2, .int .i64 a1_3]) (t := 22) ?hr ?_; (case hd => rfl); (case hg => rfl); (case hr => first | (go_simp; done) | (go_simp; rfl)); intro gb121 hg w6 hbox hb; have n0_ := Aside0.mk (blk_below (g := gb120) (o := .cells #[.bool a0_0, .int .i64 a0_1, .int .i64 a0_2] 46 (0, 0)) (by (with_reducible repeat (first | refine blk_drewN ?_ _ | refine blk_drew ?_ | refine blk_alloc ?_ _)); exact BK120.out) hb); have n1_ := Aside0.mk (below_step (by repeat (first | (with_reducible first | exact HB.out | apply below_alloc | apply pw_below_drewN | apply below_drew1 | refine below_set ?_ GE120.out) | exact HB.out)) hb); have n2_ := Aside0.mk (hbox); have n3_ := Aside0.mk ((by rw [hg]; exact (below_size (by repeat (first | (with_reducible first | exact HB.out | apply below_alloc | apply pw_below_drewN | apply below_drew1 | refine below_set ?_ GE120.out) | exact HB.out))) : w.heap.size ≤ gb121)); have n4_ := Aside0.mk ((by rw [hg]; exact (below_size (by repeat (first | (with_reducible first | exact HB.out | apply below_alloc | apply pw_below_drewN | apply below_drew1 | refine below_set ?_ GE120.out) | exact HB.out))) : w.heap.size ≤ gb121)); have n5_ := Aside0.mk ((by rw [hg]; exact Nat.ne_of_lt (blk_lt (g := gb120) (o := .cells #[.bool a0_0, .int .i64 a0_1, .int .i64 a0_2] 46 (0, 0)) (by (with_reducible repeat (first | refine blk_drewN ?_ _ | refine blk_drew ?_ | refine blk_alloc ?_ _)); exact BK120.out)) : gb120 ≠ gb121)); have n6_ := Aside0.mk ((by rw [hg]; exact Nat.ne_of_gt (blk_lt (g := gb120) (o := .cells #[.bool a0_0, .int .i64 a0_1, .int .i64 a0_2] 46 (0, 0)) (by (with_reducible repeat (first | refine blk_drewN ?_ _ | refine blk_drew ?_ | refine blk_alloc ?_ _)); exact BK120.out)) : gb121 ≠ gb120)); clear BK120; clear HB; have BK120 := n0_; have HB := n1_; have BK121 := n2_; have GW121 := n3_; have GE121 := n4_; have NB120_121 := n5_; have NB121_120 := n6_; clear n0_ n1_ n2_ n3_ n4_ n5_ n6_; clear hb hbox hg) | ((with_reducible refine gate_dst (N := 4) rfl ?_); refine box_event ?hg (N := 4) ?hd (cs := #[.int .i64 0, .int .i64 0, .int .i64 0, .int .i64 0]) (t := 22) ?hr ?_; (case hd => rfl); (case hg => rfl); (case hr => first | (go_simp; done) | (go_simp; rfl)); intro gb122 hg w7 hbox hb; have n0_ := Aside0.mk (blk_below (g := gb120) (o := .cells #[.bool a0_0, .int .i64 a0_1, .int .i64 a0_2] 46 (0, 0)) (by (with_reducible repeat (first | refine blk_drewN ?_ _ | refine blk_drew ?_ | refine blk_alloc ?_ _)); exact BK120.out) hb); have n1_ := Aside0.mk (blk_below (g := gb121) (o := .cells #[.int .i64 a1_0, .int .i64 a1_1, .int .i64 a1_2, .int .i64 a1_3] 22 (0, 0)) (by (with_reducible repeat (first | refine blk_drewN ?_ _ | refine blk_drew ?_ | refine blk_alloc ?_ _)); exact BK121.out) hb); have n2_ := Aside0.mk (below_step (by repeat (first | (with_reducible first | exact HB.out | apply below_alloc | apply pw_below_drewN | apply below_drew1 | refine below_set ?_ GE120.out | refine below_set ?_ GE121.out) | exact HB.out)) hb); have n3_ := Aside0.mk (hbox); have n4_ := Aside0.mk ((by rw [hg]; exact (below_size (by repeat (first | (with_reducible first | exact HB.out | apply below_alloc | apply pw_below_drewN | apply below_drew1 | refine below_set ?_ GE120.out | refine below_set ?_ GE121.out) | exact HB.out))) : w.heap.size ≤ gb122)); have n5_ := Aside0.mk ((by rw [hg]; exact (below_size (by repeat (first | (with_reducible first | exact HB.out | apply below_alloc | apply pw_below_drewN | apply below_drew1 | refine below_set ?_ GE120.out | refine below_set ?_ GE121.out) | exact HB.out))) : w.heap.size ≤ gb122)); have n6_ := Aside0.mk ((by rw [hg]; exact Nat.ne_of_lt (blk_lt (g := gb120) (o := .cells #[.bool a0_0, .int .i64 a0_1, .int .i64 a0_2] 46 (0, 0)) (by (with_reducible repeat (first | refine blk_drewN ?_ _ | refine blk_drew ?_ | refine blk_alloc ?_ _)); exact BK120.out)) : gb120 ≠ gb122)); have n7_ := Aside0.mk ((by rw [hg]; exact Nat.ne_of_gt (blk_lt (g := gb120) (o := .cells #[.bool a0_0, .int .i64 a0_1, .int .i64 a0_2] 46 (0, 0)) (by (with_reducible repeat (first | refine blk_drewN ?_ _ | refine blk_drew ?_ | refine blk_alloc ?_ _)); exact BK120.out)) : gb122 ≠ gb120)); have n8_ := Aside0.mk ((by rw [hg]; exact Nat.ne_of_lt (blk_lt (g := gb121) (o := .cells #[.int .i64 a1_0, .int .i64 a1_1, .int .i64 a1_2, .int .i64 a1_3] 22 (0, 0)) (by (with_reducible repeat (first | refine blk_drewN ?_ _ | refine blk_drew ?_ | refine blk_alloc ?_ _)); exact BK121.out)) : gb121 ≠ gb122)); have n9_ := Aside0.mk ((by rw [hg]; exact Nat.ne_of_gt (blk_lt (g := gb121) (o := .cells #[.int .i64 a1_0, .int .i64 a1_1, .int .i64 a1_2, .int .i64 a1_3] 22 (0, 0)) (by (with_reducible repeat (first | refine blk_drewN ?_ _ | refine blk_drew ?_ | refine blk_alloc ?_ _)); exact BK121.out)) : gb122 ≠ gb121)); clear BK120; clear BK121; clear HB; have BK120 := n0_; have BK121 := n1_; have HB := n2_; have BK122 := n3_; have GW122 := n4_; have GE122 := n5_; have NB120_122 := n6_; have NB122_120 := n7_; have NB121_122 := n8_; have NB122_121 := n9_; clear n0_ n1_ n2_ n3_ n4_ n5_ n6_ n7_ n8_ n9_; clear hb hbox hg; have hnb8 := NB120_121.out; have hnc8 := NB121_120.out; have hnb9 := NB120_122.out; have hnc9 := NB122_120.out; have hcz10_0 : w7.cell? ⟨gb120, 0, none⟩ = some (.bool a0_0) := (blk_cell BK120.out 0).trans rfl; have hcz10_1 : w7.cell? ⟨gb120, 1, none⟩ = some (.int .i64 a0_1) := (blk_cell BK120.out 1).trans rfl; have hcz10_2 : w7.cell? ⟨gb120, 2, none⟩ = some (.int .i64 a0_2) := (blk_cell BK120.out 2).trans rfl; have hfz10_0 := blk_frozen BK120.out 0; have hfz10_1 := blk_frozen BK120.out 1; have hfz10_2 := blk_frozen BK120.out 2; have hnb11 := NB121_122.out; have hnc11 := NB122_121.out; have hcz12_0 : w7.cell? ⟨gb121, 0, none⟩ = some (.int .i64 a1_0) := (blk_cell BK121.out 0).trans rfl; have hcz12_1 : w7.cell? ⟨gb121, 1, none⟩ = some (.int .i64 a1_1) := (blk_cell BK121.out 1).trans rfl; have hcz12_2 : w7.cell? ⟨gb121, 2, none⟩ = some (.int .i64 a1_2) := (blk_cell BK121.out 2).trans rfl; have hcz12_3 : w7.cell? ⟨gb121, 3, none⟩ = some (.int .i64 a1_3) := (blk_cell BK121.out 3).trans rfl; have hfz12_0 := blk_frozen BK121.out 0; have hfz12_1 := blk_frozen BK121.out 1; have hfz12_2 := blk_frozen BK121.out 2; have hfz12_3 := blk_frozen BK121.out 3) | ((with_reducible refine gate_callee (f := 44) rfl ?_); refine goesL_ (some 11) rfl rfl Tryd.func44 (by kernel_rfl) rfl #[.agg #[.bool a0_0, .int .i64 a0_1, .int .i64 a0_2], .int .i64 a1_0, .int .i64 a1_1] rfl (by (try simp only [List.map_toArray, List.map_cons, List.map_nil]); first | done | rfl | (simp only [List.length_drop, List.length_take]; rfl)) ?_; (with_reducible refine (spec_GridMove_Place.calls a0_0 a0_1 a0_2 a1_0 a1_1 t123 t124 _ A3.out).mono ?_); rintro e w13 ⟨rfl, hb⟩; refine ⟨_, rfl, ?_⟩; have n0_ := Aside0.mk (blk_below (g := gb120) (o := .cells #[.bool a0_0, .int .i64 a0_1, .int .i64 a0_2] 46 (0, 0)) (by (with_reducible repeat (first | refine blk_drewN ?_ _ | refine blk_drew ?_ | refine blk_alloc ?_ _)); exact BK120.out) hb); have n1_ := Aside0.mk (blk_below (g := gb121) (o := .cells #[.int .i64 a1_0, .int .i64 a1_1, .int .i64 a1_2, .int .i64 a1_3] 22 (0, 0)) (by (with_reducible repeat (first | refine blk_drewN ?_ _ | refine blk_drew ?_ | refine blk_alloc ?_ _)); exact BK121.out) hb); have n2_ := Aside0.mk (blk_below (g := gb122) (o := .cells #[.int .i64 0, .int .i64 0, .int .i64 0, .int .i64 0] 22 (0, 0)) (by (with_reducible repeat (first | refine blk_drewN ?_ _ | refine blk_drew ?_ | refine blk_alloc ?_ _)); exact BK122.out) hb); have n3_ := Aside0.mk (below_step (by repeat (first | (with_reducible first | exact HB.out | apply below_alloc | apply pw_below_drewN | apply below_drew1 | refine below_set ?_ GE120.out | refine below_set ?_ GE121.out | refine below_set ?_ GE122.out) | exact HB.out)) hb); clear BK120; clear BK121; clear BK122; clear HB; have BK120 := n0_; have BK121 := n1_; have BK122 := n2_; have HB := n3_; clear n0_ n1_ n2_ n3_; (try clear hb); (try clear hb2); (try clear hk); (try clear hi); have hcz14_0 : w13.cell? ⟨gb121, 0, none⟩ = some (.int .i64 a1_0) := (blk_cell BK121.out 0).trans rfl; have hcz14_1 : w13.cell? ⟨gb121, 1, none⟩ = some (.int .i64 a1_1) := (blk_cell BK121.out 1).trans rfl; have hcz14_2 : w13.cell? ⟨gb121, 2, none⟩ = some (.int .i64 a1_2) := (blk_cell BK121.out 2).trans rfl; have hcz14_3 : w13.cell? ⟨gb121, 3, none⟩ = some (.int .i64 a1_3) := (blk_cell BK121.out 3).trans rfl; have hfz14_0 := blk_frozen BK121.out 0; have hfz14_1 := blk_frozen BK121.out 1; have hfz14_2 := blk_frozen BK121.out 2; have hfz14_3 := blk_frozen BK121.out 3; have hcz15_0 : w13.cell? ⟨gb120, 0, none⟩ = some (.bool a0_0) := (blk_cell BK120.out 0).trans rfl; have hcz15_1 : w13.cell? ⟨gb120, 1, none⟩ = some (.int .i64 a0_1) := (blk_cell BK120.out 1).trans rfl; have hcz15_2 : w13.cell? ⟨gb120, 2, none⟩ = some (.int .i64 a0_2) := (blk_cell BK120.out 2).trans rfl; have hfz15_0 := blk_frozen BK120.out 0; have hfz15_1 := blk_frozen BK120.out 1; have hfz15_2 := blk_frozen BK120.out 2) | ((with_reducible refine gate_callee (f := 44) rfl ?_); refine goesL_ (some 22) rfl rfl Tryd.func44 (by kernel_rfl) rfl #[.agg #[.bool a0_0, .int .i64 a0_1, .int .i64 a0_2], .int .i64 a1_2, .int .i64 a1_3] rfl (by (try simp only [List.map_toArray, List.map_cons, List.map_nil]); first | done | rfl | (simp only [List.length_drop, List.length_take]; rfl)) ?_; (with_reducible refine (spec_GridMove_Place.calls a0_0 a0_1 a0_2 a1_2 a1_3 t125 t126 _ A4.out).mono ?_); rintro e w16 ⟨rfl, hb⟩; refine ⟨_, rfl, ?_⟩; have n0_ := Aside0.mk (blk_below (g := gb120) (o := .cells #[.bool a0_0, .int .i64 a0_1, .int .i64 a0_2] 46 (0, 0)) (by (with_reducible repeat (first | refine blk_drewN ?_ _ | refine blk_drew ?_ | refine blk_alloc ?_ _)); refine blk_far ?_ NB120_121.out _; (with_reducible repeat (first | refine blk_drewN ?_ _ | refine blk_drew ?_ | refine blk_alloc ?_ _)); refine blk_far ?_ NB120_121.out _; (with_reducible repeat (first | refine blk_drewN ?_ _ | refine blk_drew ?_ | refine blk_alloc ?_ _)); exact BK120.out) hb); have n1_ := Aside0.mk (blk_below (g := gb121) (o := .cells #[.int .i64 t123, .int .i64 t124, .int .i64 a1_2, .int .i64 a1_3] 22 (0, 0)) (by (with_reducible repeat (first | refine blk_drewN ?_ _ | refine blk_drew ?_ | refine blk_alloc ?_ _)); refine blk_put (cs := #[.int .i64 t123, .int .i64 a1_1, .int .i64 a1_2, .int .i64 a1_3]) ?_ 1 _ rfl; (with_reducible repeat (first | refine blk_drewN ?_ _ | refine blk_drew ?_ | refine blk_alloc ?_ _)); refine blk_put (cs := #[.int .i64 a1_0, .int .i64 a1_1, .int .i64 a1_2, .int .i64 a1_3]) ?_ 0 _ rfl; (with_reducible repeat (first | refine blk_drewN ?_ _ | refine blk_drew ?_ | refine blk_alloc ?_ _)); exact BK121.out) hb); have n2_ := Aside0.mk (blk_below (g := gb122) (o := .cells #[.int .i64 0, .int .i64 0, .int .i64 0, .int .i64 0] 22 (0, 0)) (by (with_reducible repeat (first | refine blk_drewN ?_ _ | refine blk_drew ?_ | refine blk_alloc ?_ _)); refine blk_far ?_ NB122_121.out _; (with_reducible repeat (first | refine blk_drewN ?_ _ | refine blk_drew ?_ | refine blk_alloc ?_ _)); refine blk_far ?_ NB122_121.out _; (with_reducible repeat (first | refine blk_drewN ?_ _ | refine blk_drew ?_ | refine blk_alloc ?_ _)); exact BK122.out) hb); have n3_ := Aside0.mk (below_step (by repeat (first | (with_reducible first | exact HB.out | apply below_alloc | apply pw_below_drewN | apply below_drew1 | refine below_set ?_ GE120.out | refine below_set ?_ GE121.out | refine below_set ?_ GE122.out) | exact HB.out)) hb); clear BK120; clear BK121; clear BK122; clear HB; have BK120 := n0_; have BK121 := n1_; have BK122 := n2_; have HB := n3_; clear n0_ n1_ n2_ n3_; (try clear hb); (try clear hb2); (try clear hk); (try clear hi); have hcz17_0 : w16.cell? ⟨gb121, 0, none⟩ = some (.int .i64 t123) := (blk_cell BK121.out 0).trans rfl; have hcz17_1 : w16.cell? ⟨gb121, 1, none⟩ = some (.int .i64 t124) := (blk_cell BK121.out 1).trans rfl; have hcz17_2 : w16.cell? ⟨gb121, 2, none⟩ = some (.int .i64 a1_2) := (blk_cell BK121.out 2).trans rfl; have hcz17_3 : w16.cell? ⟨gb121, 3, none⟩ = some (.int .i64 a1_3) := (blk_cell BK121.out 3).trans rfl; have hfz17_0 := blk_frozen BK121.out 0; have hfz17_1 := blk_frozen BK121.out 1; have hfz17_2 := blk_frozen BK121.out 2; have hfz17_3 := blk_frozen BK121.out 3; have hcz18_0 : w16.cell? ⟨gb122, 0, none⟩ = some (.int .i64 0) := (blk_cell BK122.out 0).trans rfl; have hcz18_1 : w16.cell? ⟨gb122, 1, none⟩ = some (.int .i64 0) := (blk_cell BK122.out 1).trans rfl; have hcz18_2 : w16.cell? ⟨gb122, 2, none⟩ = some (.int .i64 0) := (blk_cell BK122.out 2).trans rfl; have hcz18_3 : w16.cell? ⟨gb122, 3, none⟩ = some (.int .i64 0) := (blk_cell BK122.out 3).trans rfl; have hfz18_0 := blk_frozen BK122.out 0; have hfz18_1 := blk_frozen BK122.out 1; have hfz18_2 := blk_frozen BK122.out 2; have hfz18_3 := blk_frozen BK122.out 3))
  refine bodyPost_ret (results_cell_row rfl _ _ gb122 22 #[.int .i64 t123, .int .i64 t124, .int .i64 t125, .int .i64 t126] (0, 0) _ rfl (by (with_reducible repeat (first | refine blk_drewN ?_ _ | refine blk_drew ?_ | refine blk_alloc ?_ _)); refine blk_put (cs := #[.int .i64 t123, .int .i64 t124, .int .i64 t125, .int .i64 0]) ?_ 3 _ rfl; (with_reducible repeat (first | refine blk_drewN ?_ _ | refine blk_drew ?_ | refine blk_alloc ?_ _)); refine blk_put (cs := #[.int .i64 t123, .int .i64 t124, .int .i64 0, .int .i64 0]) ?_ 2 _ rfl; (with_reducible repeat (first | refine blk_drewN ?_ _ | refine blk_drew ?_ | refine blk_alloc ?_ _)); refine blk_put (cs := #[.int .i64 t123, .int .i64 0, .int .i64 0, .int .i64 0]) ?_ 1 _ rfl; (with_reducible repeat (first | refine blk_drewN ?_ _ | refine blk_drew ?_ | refine blk_alloc ?_ _)); refine blk_put (cs := #[.int .i64 0, .int .i64 0, .int .i64 0, .int .i64 0]) ?_ 0 _ rfl; (with_reducible repeat (first | refine blk_drewN ?_ _ | refine blk_drew ?_ | refine blk_alloc ?_ _)); refine blk_far ?_ NB122_121.out _; (with_reducible repeat (first | refine blk_drewN ?_ _ | refine blk_drew ?_ | refine blk_alloc ?_ _)); refine blk_far ?_ NB122_121.out _; (with_reducible repeat (first | refine blk_drewN ?_ _ | refine blk_drew ?_ | refine blk_alloc ?_ _)); exact BK122.out) Tryd.underlying22 rfl (by kernel_rfl)) rfl ?_
  exact ⟨by first | rfl | (simp [errW_none, errW_some] <;> rfl) | (simp [*, errW_none, errW_some] <;> rfl), by repeat (first | (with_reducible first | exact HB.out | apply below_alloc | apply pw_below_drewN | apply below_drew1 | refine below_set ?_ GE120.out | refine below_set ?_ GE121.out | refine below_set ?_ GE122.out) | exact HB.out)⟩

/-! ### spec_CellName: function 11 -/
def spec_CellName.j0 : Nat → Int → Bool → ByteArray → Bool → Option (ByteArray × Bool)
  | 0, _, _, _, _ => none
  | k + 1, x1, x2, x8, x24 => if x24 = true then (some ((⟨#[]⟩ : ByteArray), false)) else (if x2 = true then (none) else ((Go.Proofs.YtfbenlenihlpbaaDoor.PDigits.spec_Digits.f k x1 10).bind fun t129 => (if x8.size + t129.size ≤ 9223372036854775807 then (some (x8 ++ t129, true)) else (none))))
def spec_CellName.f (k : Nat) (a0 : Int) (a1 : Int) (a2 : Bool) : Option (ByteArray × Bool) := (Go.Proofs.YtfbenlenihlpbaaDoor.PColumnName.spec_ColumnName.f k a0).bind fun bt127 => (if bt127.2 = true then (if a1 < 1 then (spec_CellName.j0 k a1 a2 bt127.1 true) else (spec_CellName.j0 k a1 a2 bt127.1 (decide (a1 > 1048576)))) else (spec_CellName.j0 k a1 a2 bt127.1 true))
theorem spec_CellName.mono_l : ∀ k, (∀ y0 y1 y2 y3, LeO (spec_CellName.j0 k y0 y1 y2 y3) (spec_CellName.j0 (k + 1) y0 y1 y2 y3))
  | 0 => fun _ _ _ _ r h => by simp [spec_CellName.j0] at h
  | k + 1 => by
    have ih0 := spec_CellName.mono_l k
    · intro y0 y1 y2 y3
      unfold spec_CellName.j0
      repeat' first
      | (with_reducible exact ih0 _ _ _ _)
      | (with_reducible exact Go.Proofs.YtfbenlenihlpbaaDoor.PColumnName.spec_ColumnName.mono _ _)
      | (with_reducible exact Go.Proofs.YtfbenlenihlpbaaDoor.PDigits.spec_Digits.mono _ _ _)
      | (with_reducible exact LeO.refl _)
      | (with_reducible exact LeO.none _)
      | (with_reducible refine LeO.ite ?_ ?_)
      | (with_reducible refine LeO.bind ?_ (fun _ => ?_))
      | exact ih0 _ _ _ _
      | exact Go.Proofs.YtfbenlenihlpbaaDoor.PColumnName.spec_ColumnName.mono _ _
      | exact Go.Proofs.YtfbenlenihlpbaaDoor.PDigits.spec_Digits.mono _ _ _
      | exact LeO.none _
      | refine LeO.ite ?_ ?_
      | refine LeO.bind ?_ (fun _ => ?_)
theorem spec_CellName.mono : ∀ a0 a1 a2 k, LeO (spec_CellName.f k a0 a1 a2) (spec_CellName.f (k + 1) a0 a1 a2) := by
  intro a0 a1 a2 k
  have ih0 := spec_CellName.mono_l k
  unfold spec_CellName.f
  repeat' first
      | (with_reducible exact ih0 _ _ _ _)
      | (with_reducible exact Go.Proofs.YtfbenlenihlpbaaDoor.PColumnName.spec_ColumnName.mono _ _)
      | (with_reducible exact Go.Proofs.YtfbenlenihlpbaaDoor.PDigits.spec_Digits.mono _ _ _)
      | (with_reducible exact LeO.refl _)
      | (with_reducible exact LeO.none _)
      | (with_reducible refine LeO.ite ?_ ?_)
      | (with_reducible refine LeO.bind ?_ (fun _ => ?_))
      | exact ih0 _ _ _ _
      | exact Go.Proofs.YtfbenlenihlpbaaDoor.PColumnName.spec_ColumnName.mono _ _
      | exact Go.Proofs.YtfbenlenihlpbaaDoor.PDigits.spec_Digits.mono _ _ _
      | exact LeO.none _
      | refine LeO.ite ?_ ?_
      | refine LeO.bind ?_ (fun _ => ?_)
set_option maxHeartbeats 8000000 in
set_option maxRecDepth 100000 in
theorem spec_CellName.calls (k : Nat) (a0 : Int) (a1 : Int) (a2 : Bool) (r1 : ByteArray) (r2 : Bool) (w : World) (h : spec_CellName.f k a0 a1 a2 = some (r1, r2)) :
    Calls Tryd.prog 11 #[.int .i64 a0, .int .i64 a1, .bool a2] w fun e w' => e = .returned (.tuple #[.string r1, .bool r2]) ∧ Below w.heap.size w w' := by
  have HB := Aside0.mk (Below.refl w.heap.size w)
  have H : ((Go.Proofs.YtfbenlenihlpbaaDoor.PColumnName.spec_ColumnName.f k a0).bind fun bt127 => (if bt127.2 = true then (if a1 < 1 then (spec_CellName.j0 k a1 a2 bt127.1 true) else (spec_CellName.j0 k a1 a2 bt127.1 (decide (a1 > 1048576)))) else (spec_CellName.j0 k a1 a2 bt127.1 true))) = some (r1, r2) := h
  clear h
  replace H := Option.bind_eq_some_iff.mp H
  obtain ⟨⟨t127, t128⟩, A40, H⟩ := H
  replace H : (if t128 = true then (if a1 < 1 then (spec_CellName.j0 k a1 a2 t127 true) else (spec_CellName.j0 k a1 a2 t127 (decide (a1 > 1048576)))) else (spec_CellName.j0 k a1 a2 t127 true)) = some (r1, r2) := H
  have A4 := Aside0.mk A40
  clear A40
  have HC5 := Aside0.mk H
  clear H
  go_enter Tryd.func11, Tryd.ntmps11
  go_upto_region 2 with (first | ((with_reducible refine gate_callee (f := 20) rfl ?_); refine goesL_ (some 12) rfl rfl Tryd.func20 (by kernel_rfl) rfl #[.int .i64 a0] rfl (by (try simp only [List.map_toArray, List.map_cons, List.map_nil]); first | done | rfl | (simp only [List.length_drop, List.length_take]; rfl)) ?_; (with_reducible refine (Go.Proofs.YtfbenlenihlpbaaDoor.PColumnName.spec_ColumnName.calls k a0 t127 t128 _ A4.out).mono ?_); rintro e w6 ⟨rfl, hb⟩; refine ⟨_, rfl, ?_⟩; have n0_ := Aside0.mk (below_step (by repeat (first | (with_reducible first | exact HB.out | apply below_alloc | apply pw_below_drewN | apply below_drew1) | exact HB.out)) hb); clear HB; have HB := n0_; clear n0_; (try clear hb); (try clear hb2); (try clear hk); (try clear hi)))
  (try simp only [Act.put, List.setIfInBounds_toArray, List.set_cons_zero, List.set_cons_succ])
  go_cut [24] (fun v24 wc => ∃ (kq : Nat) (x24_4 : Bool), v24 = .bool x24_4 ∧ Aside0 (spec_CellName.j0 kq a1 a2 t127 x24_4 = some (r1, r2)) ∧ Aside0 (kq ≤ k) ∧ Aside0 (Below w.heap.size w wc))
  case first =>
    have H := HC5.out
    clear HC5
    by_cases c7 : t128 = true
    · subst c7
      have H1 : (if a1 < 1 then (spec_CellName.j0 k a1 a2 t127 true) else (spec_CellName.j0 k a1 a2 t127 (decide (a1 > 1048576)))) = some (r1, r2) := by rw [if_pos rfl] at H; exact H
      clear H
      have H := H1
      clear H1
      by_cases c8 : a1 < 1
      · rw [if_pos c8] at H
        have c8b0 : decide (a1 < 1) = true := decide_eq_true c8
        clear c8
        (first | rw [c8b0] | (simp only [i64_w, i32_w]; rw [c8b0]) | skip)
        have H' := Aside0.mk H
        clear H
        go_wp2
        go_meet
        case rel => exact ⟨_, (true), (by first | rfl | (simp; done) | (simp [*]; done)), H', ⟨by first | omega | exact Nat.le_refl _⟩, ⟨by repeat (first | (with_reducible first | exact HB.out | apply below_alloc | apply pw_below_drewN | apply below_drew1) | exact HB.out)⟩⟩
      · rw [if_neg c8] at H
        have c8b0 : decide (a1 < 1) = false := decide_eq_false c8
        clear c8
        (first | rw [c8b0] | (simp only [i64_w, i32_w]; rw [c8b0]) | skip)
        have H' := Aside0.mk H
        clear H
        go_wp2
        go_meet
        case rel => exact ⟨_, (decide (a1 > 1048576)), (by first | rfl | (simp; done) | (simp [*]; done)), H', ⟨by first | omega | exact Nat.le_refl _⟩, ⟨by repeat (first | (with_reducible first | exact HB.out | apply below_alloc | apply pw_below_drewN | apply below_drew1) | exact HB.out)⟩⟩
    · replace c7 := Bool.eq_false_iff.mpr c7
      subst c7
      have H1 : (spec_CellName.j0 k a1 a2 t127 true) = some (r1, r2) := by rw [if_neg (show ¬ (false = true) by decide)] at H; exact H
      clear H
      have H := H1
      clear H1
      have H' := Aside0.mk H
      clear H
      go_wp2
      go_meet
      case rel => exact ⟨_, (true), (by first | rfl | (simp; done) | (simp [*]; done)), H', ⟨by first | omega | exact Nat.le_refl _⟩, ⟨by repeat (first | (with_reducible first | exact HB.out | apply below_alloc | apply pw_below_drewN | apply below_drew1) | exact HB.out)⟩⟩
  case rest =>
    clear HC5
    try clear c1
    try clear c2
    try clear p2
    try clear c7
    try clear c8
    try clear c8b0
    obtain ⟨kq, x24_4, rfl, HA, HJ4, HB⟩ := hcut
    cases kq with
    | zero => exact absurd HA.out (by simp [spec_CellName.j0])
    | succ kj4 =>
      have H := HA.out
      clear HA
      simp only [spec_CellName.j0] at H
      by_cases c9 : x24_4 = true
      · subst c9
        have H1 : (some ((⟨#[]⟩ : ByteArray), false)) = some (r1, r2) := by rw [if_pos rfl] at H; exact H
        clear H
        have H := H1
        clear H1
        simp only [Option.some.injEq, Prod.mk.injEq] at H
        obtain ⟨rfl, rfl⟩ := H
        go_wp2
        go_ret2
        exact ⟨by first | rfl | (simp [errW_none, errW_some] <;> rfl) | (simp [*, errW_none, errW_some] <;> rfl), by repeat (first | (with_reducible first | exact HB.out | apply below_alloc | apply pw_below_drewN | apply below_drew1) | exact HB.out)⟩
      · replace c9 := Bool.eq_false_iff.mpr c9
        subst c9
        have H1 : (if a2 = true then (none) else ((Go.Proofs.YtfbenlenihlpbaaDoor.PDigits.spec_Digits.f kj4 a1 10).bind fun t129 => (if t127.size + t129.size ≤ 9223372036854775807 then (some (t127 ++ t129, true)) else (none)))) = some (r1, r2) := by rw [if_neg (show ¬ (false = true) by decide)] at H; exact H
        clear H
        have H := H1
        clear H1
        by_cases c10 : a2 = true
        · subst c10
          have H1 : (none) = some (r1, r2) := by rw [if_pos rfl] at H; exact H
          clear H
          have H := H1
          clear H1
          exact absurd H (by simp)
        · replace c10 := Bool.eq_false_iff.mpr c10
          subst c10
          have H1 : ((Go.Proofs.YtfbenlenihlpbaaDoor.PDigits.spec_Digits.f kj4 a1 10).bind fun t129 => (if t127.size + t129.size ≤ 9223372036854775807 then (some (t127 ++ t129, true)) else (none))) = some (r1, r2) := by rw [if_neg (show ¬ (false = true) by decide)] at H; exact H
          clear H
          have H := H1
          clear H1
          replace H := Option.bind_eq_some_iff.mp H
          obtain ⟨t129, A110, H⟩ := H
          replace H : (if t127.size + t129.size ≤ 9223372036854775807 then (some (t127 ++ t129, true)) else (none)) = some (r1, r2) := H
          have A11 := Aside0.mk A110
          clear A110
          by_cases c12 : t127.size + t129.size ≤ 9223372036854775807
          · rw [if_pos c12] at H
            have c12b0 := eq_true c12
            have c12b1 : decide (t127.size + t129.size ≤ 9223372036854775807) = true := decide_eq_true c12
            try have c12b2 : (9223372036854775807 < t127.size + t129.size) = False := eq_false (Nat.not_lt.2 c12)
            have c12z := c12
            (try simp only [ByteArray.size_append, show ∀ x_ : UInt8, (⟨#[x_]⟩ : ByteArray).size = 1 from fun _ => rfl] at c12z)
            simp only [Option.some.injEq, Prod.mk.injEq] at H
            obtain ⟨rfl, rfl⟩ := H
            go_wp2_with (first | ((with_reducible refine gate_callee (f := 36) rfl ?_); refine goesL_ (some 34) rfl rfl Tryd.func36 (by kernel_rfl) rfl #[.int .i64 a1, .int .i64 10] rfl (by (try simp only [List.map_toArray, List.map_cons, List.map_nil]); first | done | rfl | (simp only [List.length_drop, List.length_take]; rfl)) ?_; (with_reducible refine (Go.Proofs.YtfbenlenihlpbaaDoor.PDigits.spec_Digits.calls kj4 a1 10 t129 _ A11.out).mono ?_); rintro e w' ⟨rfl, ⟨nd, rfl⟩⟩; refine ⟨_, rfl, ?_⟩))
            go_ret2
            exact ⟨by first | rfl | (simp [errW_none, errW_some] <;> rfl) | (simp [*, errW_none, errW_some] <;> rfl), by repeat (first | (with_reducible first | exact HB.out | apply below_alloc | apply pw_below_drewN | apply below_drew1) | exact HB.out)⟩
          · rw [if_neg c12] at H
            exact absurd H (by simp)

/-! ### spec_GridAreaText: function 34 -/
def spec_GridAreaText.f (k : Nat) (a0_0 : Int) (a0_1 : Int) (a0_2 : Int) (a0_3 : Int) : Option (ByteArray) := (spec_CellName.f k a0_0 a0_1 false).bind fun bt131 => ((spec_CellName.f k a0_2 a0_3 false).bind fun bt133 => (if bt131.1.size + 1 ≤ 9223372036854775807 then (if (bt131.1 ++ (⟨#[58]⟩ : ByteArray)).size + bt133.1.size ≤ 9223372036854775807 then (some ((bt131.1 ++ (⟨#[58]⟩ : ByteArray)) ++ bt133.1)) else (none)) else (none)))
theorem spec_GridAreaText.mono : ∀ a0 a1 a2 a3 k, LeO (spec_GridAreaText.f k a0 a1 a2 a3) (spec_GridAreaText.f (k + 1) a0 a1 a2 a3) := by
  intro a0 a1 a2 a3 k
  unfold spec_GridAreaText.f
  repeat' first
      | (with_reducible exact spec_CellName.mono _ _ _ _)
      | (with_reducible exact LeO.refl _)
      | (with_reducible exact LeO.none _)
      | (with_reducible refine LeO.ite ?_ ?_)
      | (with_reducible refine LeO.bind ?_ (fun _ => ?_))
      | exact spec_CellName.mono _ _ _ _
      | exact LeO.none _
      | refine LeO.ite ?_ ?_
      | refine LeO.bind ?_ (fun _ => ?_)
set_option maxHeartbeats 8000000 in
set_option maxRecDepth 100000 in
theorem spec_GridAreaText.calls (k : Nat) (a0_0 : Int) (a0_1 : Int) (a0_2 : Int) (a0_3 : Int) (r : ByteArray) (w : World) (h : spec_GridAreaText.f k a0_0 a0_1 a0_2 a0_3 = some r) :
    Calls Tryd.prog 34 #[.agg #[.int .i64 a0_0, .int .i64 a0_1, .int .i64 a0_2, .int .i64 a0_3]] w fun e w' => e = .returned (.string r) ∧ Below w.heap.size w w' := by
  have hu22 := Tryd.underlying22
  have HB := Aside0.mk (Below.refl w.heap.size w)
  have H : ((spec_CellName.f k a0_0 a0_1 false).bind fun bt131 => ((spec_CellName.f k a0_2 a0_3 false).bind fun bt133 => (if bt131.1.size + 1 ≤ 9223372036854775807 then (if (bt131.1 ++ (⟨#[58]⟩ : ByteArray)).size + bt133.1.size ≤ 9223372036854775807 then (some ((bt131.1 ++ (⟨#[58]⟩ : ByteArray)) ++ bt133.1)) else (none)) else (none)))) = some r := h
  clear h
  replace H := Option.bind_eq_some_iff.mp H
  obtain ⟨⟨t131, t132⟩, A20, H⟩ := H
  replace H : ((spec_CellName.f k a0_2 a0_3 false).bind fun bt133 => (if t131.size + 1 ≤ 9223372036854775807 then (if (t131 ++ (⟨#[58]⟩ : ByteArray)).size + bt133.1.size ≤ 9223372036854775807 then (some ((t131 ++ (⟨#[58]⟩ : ByteArray)) ++ bt133.1)) else (none)) else (none))) = some r := H
  have A2 := Aside0.mk A20
  clear A20
  replace H := Option.bind_eq_some_iff.mp H
  obtain ⟨⟨t133, t134⟩, A30, H⟩ := H
  replace H : (if t131.size + 1 ≤ 9223372036854775807 then (if (t131 ++ (⟨#[58]⟩ : ByteArray)).size + t133.size ≤ 9223372036854775807 then (some ((t131 ++ (⟨#[58]⟩ : ByteArray)) ++ t133)) else (none)) else (none)) = some r := H
  have A3 := Aside0.mk A30
  clear A30
  by_cases c4 : t131.size + 1 ≤ 9223372036854775807
  · rw [if_pos c4] at H
    have c4b0 := eq_true c4
    have c4b1 : decide (t131.size + 1 ≤ 9223372036854775807) = true := decide_eq_true c4
    try have c4b2 : (9223372036854775807 < t131.size + 1) = False := eq_false (Nat.not_lt.2 c4)
    have c4z := c4
    (try simp only [ByteArray.size_append, show ∀ x_ : UInt8, (⟨#[x_]⟩ : ByteArray).size = 1 from fun _ => rfl] at c4z)
    by_cases c5 : (t131 ++ (⟨#[58]⟩ : ByteArray)).size + t133.size ≤ 9223372036854775807
    · rw [if_pos c5] at H
      have c5b0 := eq_true c5
      have c5b1 : decide ((t131 ++ (⟨#[58]⟩ : ByteArray)).size + t133.size ≤ 9223372036854775807) = true := decide_eq_true c5
      try have c5b2 : (9223372036854775807 < (t131 ++ (⟨#[58]⟩ : ByteArray)).size + t133.size) = False := eq_false (Nat.not_lt.2 c5)
      have c5z := c5
      (try simp only [ByteArray.size_append, show ∀ x_ : UInt8, (⟨#[x_]⟩ : ByteArray).size = 1 from fun _ => rfl] at c5z)
      obtain rfl := Option.some.inj H
      go_enter Tryd.func34, Tryd.ntmps34
      go_wp2_with (first | ((with_reducible refine gate_dst (N := 1) rfl ?_); refine box_event ?hg (N := 1) ?hd (cs := #[.int .i64 a0_0, .int .i64 a0_1, .int .i64 a0_2, .int .i64 a0_3]) (t := 22) ?hr ?_; (case hd => rfl); (case hg => rfl); (case hr => first | (go_simp; done) | (go_simp; rfl)); intro gb130 hg w6 hbox hb; have n0_ := Aside0.mk (below_step (by repeat (first | (with_reducible first | exact HB.out | apply below_alloc | apply pw_below_drewN | apply below_drew1) | exact HB.out)) hb); have n1_ := Aside0.mk (hbox); have n2_ := Aside0.mk ((by rw [hg]; exact (below_size (by repeat (first | (with_reducible first | exact HB.out | apply below_alloc | apply pw_below_drewN | apply below_drew1) | exact HB.out))) : w.heap.size ≤ gb130)); have n3_ := Aside0.mk ((by rw [hg]; exact (below_size (by repeat (first | (with_reducible first | exact HB.out | apply below_alloc | apply pw_below_drewN | apply below_drew1) | exact HB.out))) : w.heap.size ≤ gb130)); clear HB; have HB := n0_; have BK130 := n1_; have GW130 := n2_; have GE130 := n3_; clear n0_ n1_ n2_ n3_; clear hb hbox hg; have hcz7_0 : w6.cell? ⟨gb130, 0, none⟩ = some (.int .i64 a0_0) := (blk_cell BK130.out 0).trans rfl; have hcz7_1 : w6.cell? ⟨gb130, 1, none⟩ = some (.int .i64 a0_1) := (blk_cell BK130.out 1).trans rfl; have hcz7_2 : w6.cell? ⟨gb130, 2, none⟩ = some (.int .i64 a0_2) := (blk_cell BK130.out 2).trans rfl; have hcz7_3 : w6.cell? ⟨gb130, 3, none⟩ = some (.int .i64 a0_3) := (blk_cell BK130.out 3).trans rfl; have hfz7_0 := blk_frozen BK130.out 0; have hfz7_1 := blk_frozen BK130.out 1; have hfz7_2 := blk_frozen BK130.out 2; have hfz7_3 := blk_frozen BK130.out 3) | ((with_reducible refine gate_callee (f := 11) rfl ?_); refine goesL_ (some 12) rfl rfl Tryd.func11 (by kernel_rfl) rfl #[.int .i64 a0_0, .int .i64 a0_1, .bool false] rfl (by (try simp only [List.map_toArray, List.map_cons, List.map_nil]); first | done | rfl | (simp only [List.length_drop, List.length_take]; rfl)) ?_; (with_reducible refine (spec_CellName.calls k a0_0 a0_1 false t131 t132 _ A2.out).mono ?_); rintro e w8 ⟨rfl, hb⟩; refine ⟨_, rfl, ?_⟩; have n0_ := Aside0.mk (blk_below (g := gb130) (o := .cells #[.int .i64 a0_0, .int .i64 a0_1, .int .i64 a0_2, .int .i64 a0_3] 22 (0, 0)) (by (with_reducible repeat (first | refine blk_drewN ?_ _ | refine blk_drew ?_ | refine blk_alloc ?_ _)); exact BK130.out) hb); have n1_ := Aside0.mk (below_step (by repeat (first | (with_reducible first | exact HB.out | apply below_alloc | apply pw_below_drewN | apply below_drew1 | refine below_set ?_ GE130.out) | exact HB.out)) hb); clear BK130; clear HB; have BK130 := n0_; have HB := n1_; clear n0_ n1_; (try clear hb); (try clear hb2); (try clear hk); (try clear hi); have hcz9_0 : w8.cell? ⟨gb130, 0, none⟩ = some (.int .i64 a0_0) := (blk_cell BK130.out 0).trans rfl; have hcz9_1 : w8.cell? ⟨gb130, 1, none⟩ = some (.int .i64 a0_1) := (blk_cell BK130.out 1).trans rfl; have hcz9_2 : w8.cell? ⟨gb130, 2, none⟩ = some (.int .i64 a0_2) := (blk_cell BK130.out 2).trans rfl; have hcz9_3 : w8.cell? ⟨gb130, 3, none⟩ = some (.int .i64 a0_3) := (blk_cell BK130.out 3).trans rfl; have hfz9_0 := blk_frozen BK130.out 0; have hfz9_1 := blk_frozen BK130.out 1; have hfz9_2 := blk_frozen BK130.out 2; have hfz9_3 := blk_frozen BK130.out 3) | ((with_reducible refine gate_callee (f := 11) rfl ?_); refine goesL_ (some 20) rfl rfl Tryd.func11 (by kernel_rfl) rfl #[.int .i64 a0_2, .int .i64 a0_3, .bool false] rfl (by (try simp only [List.map_toArray, List.map_cons, List.map_nil]); first | done | rfl | (simp only [List.length_drop, List.length_take]; rfl)) ?_; (with_reducible refine (spec_CellName.calls k a0_2 a0_3 false t133 t134 _ A3.out).mono ?_); rintro e w10 ⟨rfl, hb⟩; refine ⟨_, rfl, ?_⟩; have n0_ := Aside0.mk (blk_below (g := gb130) (o := .cells #[.int .i64 a0_0, .int .i64 a0_1, .int .i64 a0_2, .int .i64 a0_3] 22 (0, 0)) (by (with_reducible repeat (first | refine blk_drewN ?_ _ | refine blk_drew ?_ | refine blk_alloc ?_ _)); exact BK130.out) hb); have n1_ := Aside0.mk (below_step (by repeat (first | (with_reducible first | exact HB.out | apply below_alloc | apply pw_below_drewN | apply below_drew1 | refine below_set ?_ GE130.out) | exact HB.out)) hb); clear BK130; clear HB; have BK130 := n0_; have HB := n1_; clear n0_ n1_; (try clear hb); (try clear hb2); (try clear hk); (try clear hi)))
      go_ret
      exact ⟨by first | rfl | (simp [errW_none, errW_some] <;> rfl) | (simp [*, errW_none, errW_some] <;> rfl), by repeat (first | (with_reducible first | exact HB.out | apply below_alloc | apply pw_below_drewN | apply below_drew1 | refine below_set ?_ GE130.out) | exact HB.out)⟩
    · rw [if_neg c5] at H
      exact absurd H (by simp)
  · rw [if_neg c4] at H
    exact absurd H (by simp)

end Go.Proofs.YtfbenlenihlpbaaDoor.PAl
end

section
namespace Go.Proofs.YtfbenlenihlpbaaDoor.PAl
open Go.RowKit Go.Proofs.YtfbenlenihlpbaaDoorW.PrintWords Go.Proofs.YtfbenlenihlpbaaDoorW.PrintLast Go.Proofs.YtfbenlenihlpbaaDoorW.PrintMore
attribute [local go_sem] max2_int min2_int max_two min_two max_three min_three max_four min_four   -- for this text's walks alone
set_option linter.unusedVariables false
set_option linter.unusedSimpArgs false

attribute [local go_sem high] Go.Proofs.YtfbenlenihlpbaaDoor.EqArr.eqA22
/-! ### spec_GridAreasText: function 27 -/
def spec_GridAreasText.l0 : Nat → List (S22) → ByteArray → Int → Option (ByteArray)
  | 0, _, _, _ => none
  | k + 1, x0, x3, x4 => if x4 < (x0.length : Int) then (if x4 > 0 then (if x3.size + 1 ≤ 9223372036854775807 then (if 0 ≤ x4 then ((spec_GridAreaText.f k ((rd_T22 x0 x4).f0) ((rd_T22 x0 x4).f1) ((rd_T22 x0 x4).f2) ((rd_T22 x0 x4).f3)).bind fun t136 => (if (x3 ++ (⟨#[32]⟩ : ByteArray)).size + t136.size ≤ 9223372036854775807 then (spec_GridAreasText.l0 k x0 ((x3 ++ (⟨#[32]⟩ : ByteArray)) ++ t136) (wrap64 (x4 + 1))) else (none))) else (none)) else (none)) else (if 0 ≤ x4 then ((spec_GridAreaText.f k ((rd_T22 x0 x4).f0) ((rd_T22 x0 x4).f1) ((rd_T22 x0 x4).f2) ((rd_T22 x0 x4).f3)).bind fun t138 => (if x3.size + t138.size ≤ 9223372036854775807 then (spec_GridAreasText.l0 k x0 (x3 ++ t138) (wrap64 (x4 + 1))) else (none))) else (none))) else (some x3)
def spec_GridAreasText.f (k : Nat) (l0 : List (S22)) : Option (ByteArray) := spec_GridAreasText.l0 k l0 (⟨#[]⟩ : ByteArray) 0
theorem spec_GridAreasText.mono_l : ∀ k, (∀ y0 y1 y2, LeO (spec_GridAreasText.l0 k y0 y1 y2) (spec_GridAreasText.l0 (k + 1) y0 y1 y2))
  | 0 => fun _ _ _ r h => by simp [spec_GridAreasText.l0] at h
  | k + 1 => by
    have ih0 := spec_GridAreasText.mono_l k
    · intro y0 y1 y2
      unfold spec_GridAreasText.l0
      repeat' first
      | (with_reducible exact ih0 _ _ _)
      | (with_reducible exact spec_GridAreaText.mono _ _ _ _ _)
      | (with_reducible exact LeO.refl _)
      | (with_reducible exact LeO.none _)
      | (with_reducible refine LeO.ite ?_ ?_)
      | (with_reducible refine LeO.bind ?_ (fun _ => ?_))
      | exact ih0 _ _ _
      | exact spec_GridAreaText.mono _ _ _ _ _
      | exact LeO.none _
      | refine LeO.ite ?_ ?_
      | refine LeO.bind ?_ (fun _ => ?_)
theorem spec_GridAreasText.mono : ∀ a0 k, LeO (spec_GridAreasText.f k a0) (spec_GridAreasText.f (k + 1) a0) := by
  intro a0 k
  have ih0 := spec_GridAreasText.mono_l k
  unfold spec_GridAreasText.f
  repeat' first
      | (with_reducible exact ih0 _ _ _)
      | (with_reducible exact spec_GridAreaText.mono _ _ _ _ _)
      | (with_reducible exact LeO.refl _)
      | (with_reducible exact LeO.none _)
      | (with_reducible refine LeO.ite ?_ ?_)
      | (with_reducible refine LeO.bind ?_ (fun _ => ?_))
      | exact ih0 _ _ _
      | exact spec_GridAreaText.mono _ _ _ _ _
      | exact LeO.none _
      | refine LeO.ite ?_ ?_
      | refine LeO.bind ?_ (fun _ => ?_)
set_option maxHeartbeats 8000000 in
set_option maxRecDepth 100000 in
theorem spec_GridAreasText.calls (k : Nat) (A0 : Option Addr) (c0 : Nat) (l0 : List (S22)) (r : ByteArray) (w : World) (hr0 : Kd.C k22 w A0 l0.length l0) (hc0 : l0.length ≤ c0) (h : spec_GridAreasText.f k l0 = some r) :
    Calls Tryd.prog 27 #[.slice A0 l0.length c0] w fun e w' => e = .returned (.string r) ∧ Below w.heap.size w w' := by
  have hu22 := Tryd.underlying22
  have HR0 := Aside0.mk hr0
  have HC0 := Aside0.mk hc0
  clear hr0 hc0
  have HB := Aside0.mk (Below.refl w.heap.size w)
  have H : (spec_GridAreasText.l0 k l0 (⟨#[]⟩ : ByteArray) 0) = some r := h
  clear h
  have H' := Aside0.mk H
  clear H
  go_enter Tryd.func27, Tryd.ntmps27
  go_wp2
  go_loopg [3, 4] k (fun kq v3 v4 w' => ∃ (x3_1 : ByteArray) (x4_1 : Int), v3 = .string x3_1 ∧ v4 = .int .i64 x4_1 ∧ Aside0 (spec_GridAreasText.l0 kq l0 x3_1 x4_1 = some r) ∧ Aside0 (kq ≤ k) ∧ Aside0 (Below w.heap.size w w'))
  case atStart => exact ⟨((⟨#[]⟩ : ByteArray)), (0), (by first | rfl | (simp; done) | (simp [*]; done)), (by first | rfl | (simp; done) | (simp [*]; done)), H', ⟨Nat.le_refl _⟩, ⟨by repeat (first | (with_reducible first | exact HB.out | apply below_alloc | apply pw_below_drewN | apply below_drew1) | exact HB.out)⟩⟩
  case round =>
    clear H'
    obtain ⟨x3_1, x4_1, rfl, rfl, HA, HK1, HB⟩ := hrel
    cases gk with
    | zero => exact absurd HA.out (by simp [spec_GridAreasText.l0])
    | succ k1 =>
      have H := HA.out
      clear HA
      simp only [spec_GridAreasText.l0] at H
      by_cases c2 : x4_1 < (l0.length : Int)
      · rw [if_pos c2] at H
        have c2b0 : decide (x4_1 < (l0.length : Int)) = true := decide_eq_true c2
        clear c2
        by_cases c3 : x4_1 > 0
        · rw [if_pos c3] at H
          have c3b0 : decide (0 < x4_1) = true := decide_eq_true c3
          clear c3
          by_cases c4 : x3_1.size + 1 ≤ 9223372036854775807
          · rw [if_pos c4] at H
            have c4b0 := eq_true c4
            have c4b1 : decide (x3_1.size + 1 ≤ 9223372036854775807) = true := decide_eq_true c4
            try have c4b2 : (9223372036854775807 < x3_1.size + 1) = False := eq_false (Nat.not_lt.2 c4)
            have c4z := c4
            (try simp only [ByteArray.size_append, show ∀ x_ : UInt8, (⟨#[x_]⟩ : ByteArray).size = 1 from fun _ => rfl] at c4z)
            by_cases c5 : 0 ≤ x4_1
            · rw [if_pos c5] at H
              have c5b0 : decide (0 ≤ x4_1) = true := decide_eq_true c5
              clear c5
              replace H := Option.bind_eq_some_iff.mp H
              obtain ⟨t136, A60, H⟩ := H
              replace H : (if (x3_1 ++ (⟨#[32]⟩ : ByteArray)).size + t136.size ≤ 9223372036854775807 then (spec_GridAreasText.l0 k1 l0 ((x3_1 ++ (⟨#[32]⟩ : ByteArray)) ++ t136) (wrap64 (x4_1 + 1))) else (none)) = some r := H
              have A6 := Aside0.mk A60
              clear A60
              by_cases c7 : (x3_1 ++ (⟨#[32]⟩ : ByteArray)).size + t136.size ≤ 9223372036854775807
              · rw [if_pos c7] at H
                have c7b0 := eq_true c7
                have c7b1 : decide ((x3_1 ++ (⟨#[32]⟩ : ByteArray)).size + t136.size ≤ 9223372036854775807) = true := decide_eq_true c7
                try have c7b2 : (9223372036854775807 < (x3_1 ++ (⟨#[32]⟩ : ByteArray)).size + t136.size) = False := eq_false (Nat.not_lt.2 c7)
                have c7z := c7
                (try simp only [ByteArray.size_append, show ∀ x_ : UInt8, (⟨#[x_]⟩ : ByteArray).size = 1 from fun _ => rfl] at c7z)
                have H' := Aside0.mk H
                clear H
                have p135 : 0 ≤ (x4_1 : Int) := of_decide_eq_true (by first | (with_reducible assumption) | assumption)
                have q135 : x4_1 < (l0.length : Int) := of_decide_eq_true (by first | (with_reducible assumption) | assumption)
                obtain ⟨ad135, e135, hx135_0, hx135_1, hx135_2, hx135_3⟩ := at_T22 HR0.out x4_1 p135 q135
                cases e135
                replace hx135_0 := (HB.out.cell (World.block_lt_of_cell? w _ hx135_0)).trans hx135_0
                replace hx135_1 := (HB.out.cell (World.block_lt_of_cell? w _ hx135_1)).trans hx135_1
                replace hx135_2 := (HB.out.cell (World.block_lt_of_cell? w _ hx135_2)).trans hx135_2
                replace hx135_3 := (HB.out.cell (World.block_lt_of_cell? w _ hx135_3)).trans hx135_3
                replace p135 := eq_true p135
                replace q135 := eq_true q135
                go_wp2_with (first | ((with_reducible refine gate_callee (f := 34) rfl ?_); refine goesL_ (some 20) rfl rfl Tryd.func34 (by kernel_rfl) rfl #[.agg #[.int .i64 ((rd_T22 l0 x4_1).f0), .int .i64 ((rd_T22 l0 x4_1).f1), .int .i64 ((rd_T22 l0 x4_1).f2), .int .i64 ((rd_T22 l0 x4_1).f3)]] rfl (by (try simp only [List.map_toArray, List.map_cons, List.map_nil]); first | done | rfl | (simp only [List.length_drop, List.length_take]; rfl)) ?_; (with_reducible refine (spec_GridAreaText.calls k1 ((rd_T22 l0 x4_1).f0) ((rd_T22 l0 x4_1).f1) ((rd_T22 l0 x4_1).f2) ((rd_T22 l0 x4_1).f3) t136 _ A6.out).mono ?_); rintro e w8 ⟨rfl, hb⟩; refine ⟨_, rfl, ?_⟩; have n0_ := Aside0.mk (below_step (by repeat (first | (with_reducible first | exact HB.out | apply below_alloc | apply pw_below_drewN | apply below_drew1) | exact HB.out)) hb); clear HB; have HB := n0_; clear n0_; (try clear hb); (try clear hb2); (try clear hk); (try clear hi)))
                go_roundg k1
                case measure => have := HK1.out; omega
                case rel => exact ⟨((x3_1 ++ (⟨#[32]⟩ : ByteArray)) ++ t136), (wrap64 (x4_1 + 1)), (by first | rfl | (simp; done) | (simp [*]; done)), (by first | rfl | (simp; done) | (simp [*]; done)), H', ⟨by have := HK1.out; omega⟩, ⟨by repeat (first | (with_reducible first | exact HB.out | apply below_alloc | apply pw_below_drewN | apply below_drew1) | exact HB.out)⟩⟩
              · rw [if_neg c7] at H
                exact absurd H (by simp)
            · rw [if_neg c5] at H
              exact absurd H (by simp)
          · rw [if_neg c4] at H
            exact absurd H (by simp)
        · rw [if_neg c3] at H
          have c3b0 : decide (0 < x4_1) = false := decide_eq_false c3
          clear c3
          by_cases c9 : 0 ≤ x4_1
          · rw [if_pos c9] at H
            have c9b0 : decide (0 ≤ x4_1) = true := decide_eq_true c9
            clear c9
            replace H := Option.bind_eq_some_iff.mp H
            obtain ⟨t138, A100, H⟩ := H
            replace H : (if x3_1.size + t138.size ≤ 9223372036854775807 then (spec_GridAreasText.l0 k1 l0 (x3_1 ++ t138) (wrap64 (x4_1 + 1))) else (none)) = some r := H
            have A10 := Aside0.mk A100
            clear A100
            by_cases c11 : x3_1.size + t138.size ≤ 9223372036854775807
            · rw [if_pos c11] at H
              have c11b0 := eq_true c11
              have c11b1 : decide (x3_1.size + t138.size ≤ 9223372036854775807) = true := decide_eq_true c11
              try have c11b2 : (9223372036854775807 < x3_1.size + t138.size) = False := eq_false (Nat.not_lt.2 c11)
              have c11z := c11
              (try simp only [ByteArray.size_append, show ∀ x_ : UInt8, (⟨#[x_]⟩ : ByteArray).size = 1 from fun _ => rfl] at c11z)
              have H' := Aside0.mk H
              clear H
              have p137 : 0 ≤ (x4_1 : Int) := of_decide_eq_true (by first | (with_reducible assumption) | assumption)
              have q137 : x4_1 < (l0.length : Int) := of_decide_eq_true (by first | (with_reducible assumption) | assumption)
              obtain ⟨ad137, e137, hx137_0, hx137_1, hx137_2, hx137_3⟩ := at_T22 HR0.out x4_1 p137 q137
              cases e137
              replace hx137_0 := (HB.out.cell (World.block_lt_of_cell? w _ hx137_0)).trans hx137_0
              replace hx137_1 := (HB.out.cell (World.block_lt_of_cell? w _ hx137_1)).trans hx137_1
              replace hx137_2 := (HB.out.cell (World.block_lt_of_cell? w _ hx137_2)).trans hx137_2
              replace hx137_3 := (HB.out.cell (World.block_lt_of_cell? w _ hx137_3)).trans hx137_3
              replace p137 := eq_true p137
              replace q137 := eq_true q137
              go_wp2_with (first | ((with_reducible refine gate_callee (f := 34) rfl ?_); refine goesL_ (some 20) rfl rfl Tryd.func34 (by kernel_rfl) rfl #[.agg #[.int .i64 ((rd_T22 l0 x4_1).f0), .int .i64 ((rd_T22 l0 x4_1).f1), .int .i64 ((rd_T22 l0 x4_1).f2), .int .i64 ((rd_T22 l0 x4_1).f3)]] rfl (by (try simp only [List.map_toArray, List.map_cons, List.map_nil]); first | done | rfl | (simp only [List.length_drop, List.length_take]; rfl)) ?_; (with_reducible refine (spec_GridAreaText.calls k1 ((rd_T22 l0 x4_1).f0) ((rd_T22 l0 x4_1).f1) ((rd_T22 l0 x4_1).f2) ((rd_T22 l0 x4_1).f3) t138 _ A10.out).mono ?_); rintro e w12 ⟨rfl, hb⟩; refine ⟨_, rfl, ?_⟩; have n0_ := Aside0.mk (below_step (by repeat (first | (with_reducible first | exact HB.out | apply below_alloc | apply pw_below_drewN | apply below_drew1) | exact HB.out)) hb); clear HB; have HB := n0_; clear n0_; (try clear hb); (try clear hb2); (try clear hk); (try clear hi)))
              go_roundg k1
              case measure => have := HK1.out; omega
              case rel => exact ⟨(x3_1 ++ t138), (wrap64 (x4_1 + 1)), (by first | rfl | (simp; done) | (simp [*]; done)), (by first | rfl | (simp; done) | (simp [*]; done)), H', ⟨by have := HK1.out; omega⟩, ⟨by repeat (first | (with_reducible first | exact HB.out | apply below_alloc | apply pw_below_drewN | apply below_drew1) | exact HB.out)⟩⟩
            · rw [if_neg c11] at H
              exact absurd H (by simp)
          · rw [if_neg c9] at H
            exact absurd H (by simp)
      · rw [if_neg c2] at H
        have c2b0 : decide (x4_1 < (l0.length : Int)) = false := decide_eq_false c2
        clear c2
        obtain rfl := Option.some.inj H
        go_wp2
        go_ret
        exact ⟨by first | rfl | (simp [errW_none, errW_some] <;> rfl) | (simp [*, errW_none, errW_some] <;> rfl), by repeat (first | (with_reducible first | exact HB.out | apply below_alloc | apply pw_below_drewN | apply below_drew1) | exact HB.out)⟩

/-! ### spec_GridSame: function 28 -/
mutual
def spec_GridSame.l0 : Nat → List (S22) → List (S22) → Int → Option (Bool)
  | 0, _, _, _ => none
  | k + 1, x0, x1, x5 => if x5 < (x0.length : Int) then (spec_GridSame.l1 k x0 x1 x5 0 0 0) else (some true)
def spec_GridSame.l1 : Nat → List (S22) → List (S22) → Int → Int → Int → Int → Option (Bool)
  | 0, _, _, _, _, _, _ => none
  | k + 1, x0, x1, x5, x6, x7, x8 => if x8 < (x0.length : Int) then (if 0 ≤ x8 then (if 0 ≤ x5 then (if x5 < (x0.length : Int) then (if (((rd_T22 x0 x8).f0) == ((rd_T22 x0 x5).f0) && (((rd_T22 x0 x8).f1) == ((rd_T22 x0 x5).f1) && (((rd_T22 x0 x8).f2) == ((rd_T22 x0 x5).f2) && (((rd_T22 x0 x8).f3) == ((rd_T22 x0 x5).f3))))) = true then (if x8 < (x1.length : Int) then (if (((rd_T22 x1 x8).f0) == ((rd_T22 x0 x5).f0) && (((rd_T22 x1 x8).f1) == ((rd_T22 x0 x5).f1) && (((rd_T22 x1 x8).f2) == ((rd_T22 x0 x5).f2) && (((rd_T22 x1 x8).f3) == ((rd_T22 x0 x5).f3))))) = true then (spec_GridSame.l1 k x0 x1 x5 (wrap64 (x6 + 1)) (wrap64 (x7 + 1)) (wrap64 (x8 + 1))) else (spec_GridSame.l1 k x0 x1 x5 (wrap64 (x6 + 1)) x7 (wrap64 (x8 + 1)))) else (none)) else (if x8 < (x1.length : Int) then (if (((rd_T22 x1 x8).f0) == ((rd_T22 x0 x5).f0) && (((rd_T22 x1 x8).f1) == ((rd_T22 x0 x5).f1) && (((rd_T22 x1 x8).f2) == ((rd_T22 x0 x5).f2) && (((rd_T22 x1 x8).f3) == ((rd_T22 x0 x5).f3))))) = true then (spec_GridSame.l1 k x0 x1 x5 x6 (wrap64 (x7 + 1)) (wrap64 (x8 + 1))) else (spec_GridSame.l1 k x0 x1 x5 x6 x7 (wrap64 (x8 + 1)))) else (none))) else (none)) else (none)) else (none)) else (if x6 = x7 then (spec_GridSame.l0 k x0 x1 (wrap64 (x5 + 1))) else (some false))
end
def spec_GridSame.f (k : Nat) (l0 : List (S22)) (l1 : List (S22)) : Option (Bool) := if (l0.length : Int) = (l1.length : Int) then (spec_GridSame.l0 k l0 l1 0) else (some false)
theorem spec_GridSame.mono_l : ∀ k, (∀ y0 y1 y2, LeO (spec_GridSame.l0 k y0 y1 y2) (spec_GridSame.l0 (k + 1) y0 y1 y2)) ∧ (∀ y0 y1 y2 y3 y4 y5, LeO (spec_GridSame.l1 k y0 y1 y2 y3 y4 y5) (spec_GridSame.l1 (k + 1) y0 y1 y2 y3 y4 y5))
  | 0 => ⟨fun _ _ _ r h => by simp [spec_GridSame.l0] at h, fun _ _ _ _ _ _ r h => by simp [spec_GridSame.l1] at h⟩
  | k + 1 => by
    obtain ⟨ih0, ih1⟩ := spec_GridSame.mono_l k
    refine ⟨?_, ?_⟩
    · intro y0 y1 y2
      unfold spec_GridSame.l0
      repeat' first
      | (with_reducible exact ih0 _ _ _)
      | (with_reducible exact ih1 _ _ _ _ _ _)
      | (with_reducible exact LeO.refl _)
      | (with_reducible exact LeO.none _)
      | (with_reducible refine LeO.ite ?_ ?_)
      | (with_reducible refine LeO.bind ?_ (fun _ => ?_))
      | exact ih0 _ _ _
      | exact ih1 _ _ _ _ _ _
      | exact LeO.none _
      | refine LeO.ite ?_ ?_
      | refine LeO.bind ?_ (fun _ => ?_)
    · intro y0 y1 y2 y3 y4 y5
      unfold spec_GridSame.l1
      repeat' first
      | (with_reducible exact ih0 _ _ _)
      | (with_reducible exact ih1 _ _ _ _ _ _)
      | (with_reducible exact LeO.refl _)
      | (with_reducible exact LeO.none _)
      | (with_reducible refine LeO.ite ?_ ?_)
      | (with_reducible refine LeO.bind ?_ (fun _ => ?_))
      | exact ih0 _ _ _
      | exact ih1 _ _ _ _ _ _
      | exact LeO.none _
      | refine LeO.ite ?_ ?_
      | refine LeO.bind ?_ (fun _ => ?_)
theorem spec_GridSame.mono : ∀ a0 a1 k, LeO (spec_GridSame.f k a0 a1) (spec_GridSame.f (k + 1) a0 a1) := by
  intro a0 a1 k
  obtain ⟨ih0, ih1⟩ := spec_GridSame.mono_l k
  unfold spec_GridSame.f
  repeat' first
      | (with_reducible exact ih0 _ _ _)
      | (with_reducible exact ih1 _ _ _ _ _ _)
      | (with_reducible exact LeO.refl _)
      | (with_reducible exact LeO.none _)
      | (with_reducible refine LeO.ite ?_ ?_)
      | (with_reducible refine LeO.bind ?_ (fun _ => ?_))
      | exact ih0 _ _ _
      | exact ih1 _ _ _ _ _ _
      | exact LeO.none _
      | refine LeO.ite ?_ ?_
      | refine LeO.bind ?_ (fun _ => ?_)
set_option maxHeartbeats 8000000 in
set_option maxRecDepth 100000 in
theorem spec_GridSame.calls (k : Nat) (A0 : Option Addr) (c0 : Nat) (l0 : List (S22)) (A1 : Option Addr) (c1 : Nat) (l1 : List (S22)) (r : Bool) (w : World) (hr0 : Kd.C k22 w A0 l0.length l0) (hc0 : l0.length ≤ c0) (hr1 : Kd.C k22 w A1 l1.length l1) (hc1 : l1.length ≤ c1) (h : spec_GridSame.f k l0 l1 = some r) :
    Calls Tryd.prog 28 #[.slice A0 l0.length c0, .slice A1 l1.length c1] w fun e w' => e = .returned (.bool r) ∧ Drawn0 w w' := by
  have hu22 := Tryd.underlying22
  have HR0 := Aside0.mk hr0
  have HC0 := Aside0.mk hc0
  clear hr0 hc0
  have HR1 := Aside0.mk hr1
  have HC1 := Aside0.mk hc1
  clear hr1 hc1
  have H : (if (l0.length : Int) = (l1.length : Int) then (spec_GridSame.l0 k l0 l1 0) else (some false)) = some r := h
  clear h
  by_cases c3 : (l0.length : Int) = (l1.length : Int)
  · rw [if_pos c3] at H
    have c3b0 : ((l0.length : Int) == (l1.length : Int)) = true := beq_iff_eq.mpr c3
    have c3b1 : ((l0.length : Int) != (l1.length : Int)) = false := bne_eq_false_iff_eq.mpr c3
    have c3b2 : (l0.length == l1.length) = true := by first | simpa using c3 | (simp at c3 ⊢; omega)
    clear c3
    have H' := Aside0.mk H
    clear H
    go_enter Tryd.func28, Tryd.ntmps28
    go_wp2
    repeat (go_quiet (fail); try go_wp2)
    go_loopg [5] k (fun kq v5 w' => ∃ (x5_1 : Int), v5 = .int .i64 x5_1 ∧ Aside0 (spec_GridSame.l0 kq l0 l1 x5_1 = some r) ∧ Aside0 (kq ≤ k) ∧ Drawn0 w w')
    case atStart => exact ⟨(0), (by first | rfl | (simp; done) | (simp [*]; done)), H', ⟨Nat.le_refl _⟩, by repeat (first | exact Drawn0.refl _ | apply Drawn0.step)⟩
    case round =>
      clear H'
      try clear c1
      try clear c2
      try clear p2
      try clear c3
      try clear c3b0
      try clear c3b1
      try clear c3b2
      obtain ⟨x5_1, rfl, HA, HK1, ⟨m1, rfl⟩⟩ := hrel
      cases gk with
      | zero => exact absurd HA.out (by simp [spec_GridSame.l0])
      | succ k1 =>
        have H := HA.out
        clear HA
        simp only [spec_GridSame.l0] at H
        by_cases c4 : x5_1 < (l0.length : Int)
        · rw [if_pos c4] at H
          have c4b0 : decide (x5_1 < (l0.length : Int)) = true := decide_eq_true c4
          clear c4
          have H' := Aside0.mk H
          clear H
          go_wp2
          repeat (go_quiet (fail); try go_wp2)
          go_loopg [6, 7, 8] k1 (fun kq v6 v7 v8 w' => ∃ (x6_2 : Int) (x7_2 : Int) (x8_2 : Int), v6 = .int .i64 x6_2 ∧ v7 = .int .i64 x7_2 ∧ v8 = .int .i64 x8_2 ∧ Aside0 (spec_GridSame.l1 kq l0 l1 x5_1 x6_2 x7_2 x8_2 = some r) ∧ Aside0 (kq ≤ k1) ∧ Drawn0 w w')
          case atStart => exact ⟨(0), (0), (0), (by first | rfl | (simp; done) | (simp [*]; done)), (by first | rfl | (simp; done) | (simp [*]; done)), (by first | rfl | (simp; done) | (simp [*]; done)), H', ⟨Nat.le_refl _⟩, by repeat (first | exact Drawn0.refl _ | apply Drawn0.step)⟩
          case round =>
            clear H'
            try clear c1
            try clear c2
            try clear p2
            try clear c3
            try clear c3b0
            try clear c3b1
            try clear c3b2
            try clear c4
            try clear c4b0
            try clear p2
            obtain ⟨x6_2, x7_2, x8_2, rfl, rfl, rfl, HA, HK2, ⟨m2, rfl⟩⟩ := hrel
            cases gk with
            | zero => exact absurd HA.out (by simp [spec_GridSame.l1])
            | succ k2 =>
              have H := HA.out
              clear HA
              simp only [spec_GridSame.l1] at H
              by_cases c5 : x8_2 < (l0.length : Int)
              · rw [if_pos c5] at H
                have c5b0 : decide (x8_2 < (l0.length : Int)) = true := decide_eq_true c5
                clear c5
                by_cases c6 : 0 ≤ x8_2
                · rw [if_pos c6] at H
                  have c6b0 : decide (0 ≤ x8_2) = true := decide_eq_true c6
                  clear c6
                  by_cases c7 : 0 ≤ x5_1
                  · rw [if_pos c7] at H
                    have c7b0 : decide (0 ≤ x5_1) = true := decide_eq_true c7
                    clear c7
                    by_cases c8 : x5_1 < (l0.length : Int)
                    · rw [if_pos c8] at H
                      have c8b0 : decide (x5_1 < (l0.length : Int)) = true := decide_eq_true c8
                      clear c8
                      by_cases c9 : (((rd_T22 l0 x8_2).f0) == ((rd_T22 l0 x5_1).f0) && (((rd_T22 l0 x8_2).f1) == ((rd_T22 l0 x5_1).f1) && (((rd_T22 l0 x8_2).f2) == ((rd_T22 l0 x5_1).f2) && (((rd_T22 l0 x8_2).f3) == ((rd_T22 l0 x5_1).f3))))) = true
                      · rw [if_pos c9] at H
                        have c9b0 : (((rd_T22 l0 x8_2).f0) == ((rd_T22 l0 x5_1).f0) && (((rd_T22 l0 x8_2).f1) == ((rd_T22 l0 x5_1).f1) && (((rd_T22 l0 x8_2).f2) == ((rd_T22 l0 x5_1).f2) && (((rd_T22 l0 x8_2).f3) == ((rd_T22 l0 x5_1).f3))))) = true := c9
                        (try (have c9b1 : decide (((rd_T22 l0 x8_2).f0) = ((rd_T22 l0 x5_1).f0) && (((rd_T22 l0 x8_2).f1) == ((rd_T22 l0 x5_1).f1) && (((rd_T22 l0 x8_2).f2) == ((rd_T22 l0 x5_1).f2) && (((rd_T22 l0 x8_2).f3) == ((rd_T22 l0 x5_1).f3))))) = true := by simpa using c9))
                        (try (have c9b2 : (((rd_T22 l0 x8_2).f0) == ((rd_T22 l0 x5_1).f0) && (((rd_T22 l0 x8_2).f1) == ((rd_T22 l0 x5_1).f1) && (((rd_T22 l0 x8_2).f2) == ((rd_T22 l0 x5_1).f2) && (((rd_T22 l0 x8_2).f3) == ((rd_T22 l0 x5_1).f3))))) = true := by simpa using c9))
                        clear c9
                        by_cases c10 : x8_2 < (l1.length : Int)
                        · rw [if_pos c10] at H
                          have c10b0 : decide (x8_2 < (l1.length : Int)) = true := decide_eq_true c10
                          clear c10
                          by_cases c11 : (((rd_T22 l1 x8_2).f0) == ((rd_T22 l0 x5_1).f0) && (((rd_T22 l1 x8_2).f1) == ((rd_T22 l0 x5_1).f1) && (((rd_T22 l1 x8_2).f2) == ((rd_T22 l0 x5_1).f2) && (((rd_T22 l1 x8_2).f3) == ((rd_T22 l0 x5_1).f3))))) = true
                          · rw [if_pos c11] at H
                            have c11b0 : (((rd_T22 l1 x8_2).f0) == ((rd_T22 l0 x5_1).f0) && (((rd_T22 l1 x8_2).f1) == ((rd_T22 l0 x5_1).f1) && (((rd_T22 l1 x8_2).f2) == ((rd_T22 l0 x5_1).f2) && (((rd_T22 l1 x8_2).f3) == ((rd_T22 l0 x5_1).f3))))) = true := c11
                            (try (have c11b1 : decide (((rd_T22 l1 x8_2).f0) = ((rd_T22 l0 x5_1).f0) && (((rd_T22 l1 x8_2).f1) == ((rd_T22 l0 x5_1).f1) && (((rd_T22 l1 x8_2).f2) == ((rd_T22 l0 x5_1).f2) && (((rd_T22 l1 x8_2).f3) == ((rd_T22 l0 x5_1).f3))))) = true := by simpa using c11))
                            (try (have c11b2 : (((rd_T22 l1 x8_2).f0) == ((rd_T22 l0 x5_1).f0) && (((rd_T22 l1 x8_2).f1) == ((rd_T22 l0 x5_1).f1) && (((rd_T22 l1 x8_2).f2) == ((rd_T22 l0 x5_1).f2) && (((rd_T22 l1 x8_2).f3) == ((rd_T22 l0 x5_1).f3))))) = true := by simpa using c11))
                            clear c11
                            have H' := Aside0.mk H
                            clear H
                            have p139 : 0 ≤ (x8_2 : Int) := of_decide_eq_true (by first | (with_reducible assumption) | assumption)
                            have q139 : x8_2 < (l0.length : Int) := of_decide_eq_true (by first | (with_reducible assumption) | assumption)
                            obtain ⟨ad139, e139, hx139_0, hx139_1, hx139_2, hx139_3⟩ := at_T22 HR0.out x8_2 p139 q139
                            cases e139
                            replace p139 := eq_true p139
                            replace q139 := eq_true q139
                            have p140 : 0 ≤ (x5_1 : Int) := of_decide_eq_true (by first | (with_reducible assumption) | assumption)
                            have q140 : x5_1 < (l0.length : Int) := of_decide_eq_true (by first | (with_reducible assumption) | assumption)
                            obtain ⟨ad140, e140, hx140_0, hx140_1, hx140_2, hx140_3⟩ := at_T22 HR0.out x5_1 p140 q140
                            obtain rfl : ad139 = ad140 := (by injection e140)
                            replace p140 := eq_true p140
                            replace q140 := eq_true q140
                            have p141 : 0 ≤ (x8_2 : Int) := of_decide_eq_true (by first | (with_reducible assumption) | assumption)
                            have q141 : x8_2 < (l1.length : Int) := of_decide_eq_true (by first | (with_reducible assumption) | assumption)
                            obtain ⟨ad141, e141, hx141_0, hx141_1, hx141_2, hx141_3⟩ := at_T22 HR1.out x8_2 p141 q141
                            cases e141
                            replace p141 := eq_true p141
                            replace q141 := eq_true q141
                            have p142 : 0 ≤ (x5_1 : Int) := of_decide_eq_true (by first | (with_reducible assumption) | assumption)
                            have q142 : x5_1 < (l0.length : Int) := of_decide_eq_true (by first | (with_reducible assumption) | assumption)
                            obtain ⟨ad142, e142, hx142_0, hx142_1, hx142_2, hx142_3⟩ := at_T22 HR0.out x5_1 p142 q142
                            obtain rfl : ad139 = ad142 := (by injection e142)
                            replace p142 := eq_true p142
                            replace q142 := eq_true q142
                            go_wp2
                            repeat (go_quiet (fail); try go_wp2)
                            go_roundg k2
                            case measure => have := HK1.out; have := HK2.out; omega
                            case rel => exact ⟨(wrap64 (x6_2 + 1)), (wrap64 (x7_2 + 1)), (wrap64 (x8_2 + 1)), (by first | rfl | (simp; done) | (simp [*]; done)), (by first | rfl | (simp; done) | (simp [*]; done)), (by first | rfl | (simp; done) | (simp [*]; done)), H', ⟨by have := HK1.out; have := HK2.out; omega⟩, by repeat (first | exact Drawn0.refl _ | apply Drawn0.step)⟩
                          · rw [if_neg c11] at H
                            have c11b0 : (((rd_T22 l1 x8_2).f0) == ((rd_T22 l0 x5_1).f0) && (((rd_T22 l1 x8_2).f1) == ((rd_T22 l0 x5_1).f1) && (((rd_T22 l1 x8_2).f2) == ((rd_T22 l0 x5_1).f2) && (((rd_T22 l1 x8_2).f3) == ((rd_T22 l0 x5_1).f3))))) = false := by simpa using c11
                            (try (have c11b1 : decide (((rd_T22 l1 x8_2).f0) = ((rd_T22 l0 x5_1).f0) && (((rd_T22 l1 x8_2).f1) == ((rd_T22 l0 x5_1).f1) && (((rd_T22 l1 x8_2).f2) == ((rd_T22 l0 x5_1).f2) && (((rd_T22 l1 x8_2).f3) == ((rd_T22 l0 x5_1).f3))))) = false := by simpa using c11))
                            (try (have c11b2 : (((rd_T22 l1 x8_2).f0) == ((rd_T22 l0 x5_1).f0) && (((rd_T22 l1 x8_2).f1) == ((rd_T22 l0 x5_1).f1) && (((rd_T22 l1 x8_2).f2) == ((rd_T22 l0 x5_1).f2) && (((rd_T22 l1 x8_2).f3) == ((rd_T22 l0 x5_1).f3))))) = false := by simpa using c11))
                            (try (have c11b3 : ¬ (((rd_T22 l1 x8_2).f0) = ((rd_T22 l0 x5_1).f0) && (((rd_T22 l1 x8_2).f1) == ((rd_T22 l0 x5_1).f1) && (((rd_T22 l1 x8_2).f2) == ((rd_T22 l0 x5_1).f2) && (((rd_T22 l1 x8_2).f3) == ((rd_T22 l0 x5_1).f3))))) := by simpa using c11))
                            clear c11
                            have H' := Aside0.mk H
                            clear H
                            have p139 : 0 ≤ (x8_2 : Int) := of_decide_eq_true (by first | (with_reducible assumption) | assumption)
                            have q139 : x8_2 < (l0.length : Int) := of_decide_eq_true (by first | (with_reducible assumption) | assumption)
                            obtain ⟨ad139, e139, hx139_0, hx139_1, hx139_2, hx139_3⟩ := at_T22 HR0.out x8_2 p139 q139
                            cases e139
                            replace p139 := eq_true p139
                            replace q139 := eq_true q139
                            have p140 : 0 ≤ (x5_1 : Int) := of_decide_eq_true (by first | (with_reducible assumption) | assumption)
                            have q140 : x5_1 < (l0.length : Int) := of_decide_eq_true (by first | (with_reducible assumption) | assumption)
                            obtain ⟨ad140, e140, hx140_0, hx140_1, hx140_2, hx140_3⟩ := at_T22 HR0.out x5_1 p140 q140
                            obtain rfl : ad139 = ad140 := (by injection e140)
                            replace p140 := eq_true p140
                            replace q140 := eq_true q140
                            have p141 : 0 ≤ (x8_2 : Int) := of_decide_eq_true (by first | (with_reducible assumption) | assumption)
                            have q141 : x8_2 < (l1.length : Int) := of_decide_eq_true (by first | (with_reducible assumption) | assumption)
                            obtain ⟨ad141, e141, hx141_0, hx141_1, hx141_2, hx141_3⟩ := at_T22 HR1.out x8_2 p141 q141
                            cases e141
                            replace p141 := eq_true p141
                            replace q141 := eq_true q141
                            have p142 : 0 ≤ (x5_1 : Int) := of_decide_eq_true (by first | (with_reducible assumption) | assumption)
                            have q142 : x5_1 < (l0.length : Int) := of_decide_eq_true (by first | (with_reducible assumption) | assumption)
                            obtain ⟨ad142, e142, hx142_0, hx142_1, hx142_2, hx142_3⟩ := at_T22 HR0.out x5_1 p142 q142
                            obtain rfl : ad139 = ad142 := (by injection e142)
                            replace p142 := eq_true p142
                            replace q142 := eq_true q142
                            go_wp2
                            repeat (go_quiet (fail); try go_wp2)
                            go_roundg k2
                            case measure => have := HK1.out; have := HK2.out; omega
                            case rel => exact ⟨(wrap64 (x6_2 + 1)), (x7_2), (wrap64 (x8_2 + 1)), (by first | rfl | (simp; done) | (simp [*]; done)), (by first | rfl | (simp; done) | (simp [*]; done)), (by first | rfl | (simp; done) | (simp [*]; done)), H', ⟨by have := HK1.out; have := HK2.out; omega⟩, by repeat (first | exact Drawn0.refl _ | apply Drawn0.step)⟩
                        · rw [if_neg c10] at H
                          exact absurd H (by simp)
                      · rw [if_neg c9] at H
                        have c9b0 : (((rd_T22 l0 x8_2).f0) == ((rd_T22 l0 x5_1).f0) && (((rd_T22 l0 x8_2).f1) == ((rd_T22 l0 x5_1).f1) && (((rd_T22 l0 x8_2).f2) == ((rd_T22 l0 x5_1).f2) && (((rd_T22 l0 x8_2).f3) == ((rd_T22 l0 x5_1).f3))))) = false := by simpa using c9
                        (try (have c9b1 : decide (((rd_T22 l0 x8_2).f0) = ((rd_T22 l0 x5_1).f0) && (((rd_T22 l0 x8_2).f1) == ((rd_T22 l0 x5_1).f1) && (((rd_T22 l0 x8_2).f2) == ((rd_T22 l0 x5_1).f2) && (((rd_T22 l0 x8_2).f3) == ((rd_T22 l0 x5_1).f3))))) = false := by simpa using c9))
                        (try (have c9b2 : (((rd_T22 l0 x8_2).f0) == ((rd_T22 l0 x5_1).f0) && (((rd_T22 l0 x8_2).f1) == ((rd_T22 l0 x5_1).f1) && (((rd_T22 l0 x8_2).f2) == ((rd_T22 l0 x5_1).f2) && (((rd_T22 l0 x8_2).f3) == ((rd_T22 l0 x5_1).f3))))) = false := by simpa using c9))
                        (try (have c9b3 : ¬ (((rd_T22 l0 x8_2).f0) = ((rd_T22 l0 x5_1).f0) && (((rd_T22 l0 x8_2).f1) == ((rd_T22 l0 x5_1).f1) && (((rd_T22 l0 x8_2).f2) == ((rd_T22 l0 x5_1).f2) && (((rd_T22 l0 x8_2).f3) == ((rd_T22 l0 x5_1).f3))))) := by simpa using c9))
                        clear c9
                        by_cases c12 : x8_2 < (l1.length : Int)
                        · rw [if_pos c12] at H
                          have c12b0 : decide (x8_2 < (l1.length : Int)) = true := decide_eq_true c12
                          clear c12
                          by_cases c13 : (((rd_T22 l1 x8_2).f0) == ((rd_T22 l0 x5_1).f0) && (((rd_T22 l1 x8_2).f1) == ((rd_T22 l0 x5_1).f1) && (((rd_T22 l1 x8_2).f2) == ((rd_T22 l0 x5_1).f2) && (((rd_T22 l1 x8_2).f3) == ((rd_T22 l0 x5_1).f3))))) = true
                          · rw [if_pos c13] at H
                            have c13b0 : (((rd_T22 l1 x8_2).f0) == ((rd_T22 l0 x5_1).f0) && (((rd_T22 l1 x8_2).f1) == ((rd_T22 l0 x5_1).f1) && (((rd_T22 l1 x8_2).f2) == ((rd_T22 l0 x5_1).f2) && (((rd_T22 l1 x8_2).f3) == ((rd_T22 l0 x5_1).f3))))) = true := c13
                            (try (have c13b1 : decide (((rd_T22 l1 x8_2).f0) = ((rd_T22 l0 x5_1).f0) && (((rd_T22 l1 x8_2).f1) == ((rd_T22 l0 x5_1).f1) && (((rd_T22 l1 x8_2).f2) == ((rd_T22 l0 x5_1).f2) && (((rd_T22 l1 x8_2).f3) == ((rd_T22 l0 x5_1).f3))))) = true := by simpa using c13))
                            (try (have c13b2 : (((rd_T22 l1 x8_2).f0) == ((rd_T22 l0 x5_1).f0) && (((rd_T22 l1 x8_2).f1) == ((rd_T22 l0 x5_1).f1) && (((rd_T22 l1 x8_2).f2) == ((rd_T22 l0 x5_1).f2) && (((rd_T22 l1 x8_2).f3) == ((rd_T22 l0 x5_1).f3))))) = true := by simpa using c13))
                            clear c13
                            have H' := Aside0.mk H
                            clear H
                            have p139 : 0 ≤ (x8_2 : Int) := of_decide_eq_true (by first | (with_reducible assumption) | assumption)
                            have q139 : x8_2 < (l0.length : Int) := of_decide_eq_true (by first | (with_reducible assumption) | assumption)
                            obtain ⟨ad139, e139, hx139_0, hx139_1, hx139_2, hx139_3⟩ := at_T22 HR0.out x8_2 p139 q139
                            cases e139
                            replace p139 := eq_true p139
                            replace q139 := eq_true q139
                            have p140 : 0 ≤ (x5_1 : Int) := of_decide_eq_true (by first | (with_reducible assumption) | assumption)
                            have q140 : x5_1 < (l0.length : Int) := of_decide_eq_true (by first | (with_reducible assumption) | assumption)
                            obtain ⟨ad140, e140, hx140_0, hx140_1, hx140_2, hx140_3⟩ := at_T22 HR0.out x5_1 p140 q140
                            obtain rfl : ad139 = ad140 := (by injection e140)
                            replace p140 := eq_true p140
                            replace q140 := eq_true q140
                            have p143 : 0 ≤ (x8_2 : Int) := of_decide_eq_true (by first | (with_reducible assumption) | assumption)
                            have q143 : x8_2 < (l1.length : Int) := of_decide_eq_true (by first | (with_reducible assumption) | assumption)
                            obtain ⟨ad143, e143, hx143_0, hx143_1, hx143_2, hx143_3⟩ := at_T22 HR1.out x8_2 p143 q143
                            cases e143
                            replace p143 := eq_true p143
                            replace q143 := eq_true q143
                            have p144 : 0 ≤ (x5_1 : Int) := of_decide_eq_true (by first | (with_reducible assumption) | assumption)
                            have q144 : x5_1 < (l0.length : Int) := of_decide_eq_true (by first | (with_reducible assumption) | assumption)
                            obtain ⟨ad144, e144, hx144_0, hx144_1, hx144_2, hx144_3⟩ := at_T22 HR0.out x5_1 p144 q144
                            obtain rfl : ad139 = ad144 := (by injection e144)
                            replace p144 := eq_true p144
                            replace q144 := eq_true q144
                            go_wp2
                            repeat (go_quiet (fail); try go_wp2)
                            go_roundg k2
                            case measure => have := HK1.out; have := HK2.out; omega
                            case rel => exact ⟨(x6_2), (wrap64 (x7_2 + 1)), (wrap64 (x8_2 + 1)), (by first | rfl | (simp; done) | (simp [*]; done)), (by first | rfl | (simp; done) | (simp [*]; done)), (by first | rfl | (simp; done) | (simp [*]; done)), H', ⟨by have := HK1.out; have := HK2.out; omega⟩, by repeat (first | exact Drawn0.refl _ | apply Drawn0.step)⟩
                          · rw [if_neg c13] at H
                            have c13b0 : (((rd_T22 l1 x8_2).f0) == ((rd_T22 l0 x5_1).f0) && (((rd_T22 l1 x8_2).f1) == ((rd_T22 l0 x5_1).f1) && (((rd_T22 l1 x8_2).f2) == ((rd_T22 l0 x5_1).f2) && (((rd_T22 l1 x8_2).f3) == ((rd_T22 l0 x5_1).f3))))) = false := by simpa using c13
                            (try (have c13b1 : decide (((rd_T22 l1 x8_2).f0) = ((rd_T22 l0 x5_1).f0) && (((rd_T22 l1 x8_2).f1) == ((rd_T22 l0 x5_1).f1) && (((rd_T22 l1 x8_2).f2) == ((rd_T22 l0 x5_1).f2) && (((rd_T22 l1 x8_2).f3) == ((rd_T22 l0 x5_1).f3))))) = false := by simpa using c13))
                            (try (have c13b2 : (((rd_T22 l1 x8_2).f0) == ((rd_T22 l0 x5_1).f0) && (((rd_T22 l1 x8_2).f1) == ((rd_T22 l0 x5_1).f1) && (((rd_T22 l1 x8_2).f2) == ((rd_T22 l0 x5_1).f2) && (((rd_T22 l1 x8_2).f3) == ((rd_T22 l0 x5_1).f3))))) = false := by simpa using c13))
                            (try (have c13b3 : ¬ (((rd_T22 l1 x8_2).f0) = ((rd_T22 l0 x5_1).f0) && (((rd_T22 l1 x8_2).f1) == ((rd_T22 l0 x5_1).f1) && (((rd_T22 l1 x8_2).f2) == ((rd_T22 l0 x5_1).f2) && (((rd_T22 l1 x8_2).f3) == ((rd_T22 l0 x5_1).f3))))) := by simpa using c13))
                            clear c13
                            have H' := Aside0.mk H
                            clear H
                            have p139 : 0 ≤ (x8_2 : Int) := of_decide_eq_true (by first | (with_reducible assumption) | assumption)
                            have q139 : x8_2 < (l0.length : Int) := of_decide_eq_true (by first | (with_reducible assumption) | assumption)
                            obtain ⟨ad139, e139, hx139_0, hx139_1, hx139_2, hx139_3⟩ := at_T22 HR0.out x8_2 p139 q139
                            cases e139
                            replace p139 := eq_true p139
                            replace q139 := eq_true q139
                            have p140 : 0 ≤ (x5_1 : Int) := of_decide_eq_true (by first | (with_reducible assumption) | assumption)
                            have q140 : x5_1 < (l0.length : Int) := of_decide_eq_true (by first | (with_reducible assumption) | assumption)
                            obtain ⟨ad140, e140, hx140_0, hx140_1, hx140_2, hx140_3⟩ := at_T22 HR0.out x5_1 p140 q140
                            obtain rfl : ad139 = ad140 := (by injection e140)
                            replace p140 := eq_true p140
                            replace q140 := eq_true q140
                            have p143 : 0 ≤ (x8_2 : Int) := of_decide_eq_true (by first | (with_reducible assumption) | assumption)
                            have q143 : x8_2 < (l1.length : Int) := of_decide_eq_true (by first | (with_reducible assumption) | assumption)
                            obtain ⟨ad143, e143, hx143_0, hx143_1, hx143_2, hx143_3⟩ := at_T22 HR1.out x8_2 p143 q143
                            cases e143
                            replace p143 := eq_true p143
                            replace q143 := eq_true q143
                            have p144 : 0 ≤ (x5_1 : Int) := of_decide_eq_true (by first | (with_reducible assumption) | assumption)
                            have q144 : x5_1 < (l0.length : Int) := of_decide_eq_true (by first | (with_reducible assumption) | assumption)
                            obtain ⟨ad144, e144, hx144_0, hx144_1, hx144_2, hx144_3⟩ := at_T22 HR0.out x5_1 p144 q144
                            obtain rfl : ad139 = ad144 := (by injection e144)
                            replace p144 := eq_true p144
                            replace q144 := eq_true q144
                            go_wp2
                            repeat (go_quiet (fail); try go_wp2)
                            go_roundg k2
                            case measure => have := HK1.out; have := HK2.out; omega
                            case rel => exact ⟨(x6_2), (x7_2), (wrap64 (x8_2 + 1)), (by first | rfl | (simp; done) | (simp [*]; done)), (by first | rfl | (simp; done) | (simp [*]; done)), (by first | rfl | (simp; done) | (simp [*]; done)), H', ⟨by have := HK1.out; have := HK2.out; omega⟩, by repeat (first | exact Drawn0.refl _ | apply Drawn0.step)⟩
                        · rw [if_neg c12] at H
                          exact absurd H (by simp)
                    · rw [if_neg c8] at H
                      exact absurd H (by simp)
                  · rw [if_neg c7] at H
                    exact absurd H (by simp)
                · rw [if_neg c6] at H
                  exact absurd H (by simp)
              · rw [if_neg c5] at H
                have c5b0 : decide (x8_2 < (l0.length : Int)) = false := decide_eq_false c5
                clear c5
                by_cases c14 : x6_2 = x7_2
                · rw [if_pos c14] at H
                  have c14b0 : (x6_2 == x7_2) = true := beq_iff_eq.mpr c14
                  have c14b1 : (x6_2 != x7_2) = false := bne_eq_false_iff_eq.mpr c14
                  clear c14
                  have H' := Aside0.mk H
                  clear H
                  go_wp2
                  repeat (go_quiet (fail); try go_wp2)
                  go_roundg k2
                  case measure => have := HK1.out; have := HK2.out; omega
                  case rel => exact ⟨(wrap64 (x5_1 + 1)), (by first | rfl | (simp; done) | (simp [*]; done)), H', ⟨by have := HK1.out; have := HK2.out; omega⟩, by repeat (first | exact Drawn0.refl _ | apply Drawn0.step)⟩
                · rw [if_neg c14] at H
                  have c14b0 : (x6_2 == x7_2) = false := beq_eq_false_iff_ne.mpr c14
                  have c14b1 : (x6_2 != x7_2) = true := bne_iff_ne.mpr c14
                  obtain rfl := Option.some.inj H
                  go_wp2
                  repeat (go_quiet (fail); try go_wp2)
                  go_ret
                  exact ⟨by first | rfl | (simp; done) | (simp [*]; done), by repeat (first | exact Drawn0.refl _ | apply Drawn0.step)⟩
        · rw [if_neg c4] at H
          have c4b0 : decide (x5_1 < (l0.length : Int)) = false := decide_eq_false c4
          clear c4
          obtain rfl := Option.some.inj H
          go_wp2
          repeat (go_quiet (fail); try go_wp2)
          go_ret
          exact ⟨by first | rfl | (simp; done) | (simp [*]; done), by repeat (first | exact Drawn0.refl _ | apply Drawn0.step)⟩
  · rw [if_neg c3] at H
    have c3b0 : ((l0.length : Int) == (l1.length : Int)) = false := beq_eq_false_iff_ne.mpr c3
    have c3b1 : ((l0.length : Int) != (l1.length : Int)) = true := bne_iff_ne.mpr c3
    have c3b2 : (l0.length == l1.length) = false := by first | simpa using c3 | (simp at c3 ⊢; omega)
    obtain rfl := Option.some.inj H
    go_enter Tryd.func28, Tryd.ntmps28
    go_wp2
    repeat (go_quiet (fail); try go_wp2)
    go_ret
    exact ⟨by first | rfl | (simp; done) | (simp [*]; done), by repeat (first | exact Drawn0.refl _ | apply Drawn0.step)⟩

end Go.Proofs.YtfbenlenihlpbaaDoor.PAl
end

section
namespace Go.Proofs.YtfbenlenihlpbaaDoor.PAl
open Go.RowKit Go.Proofs.YtfbenlenihlpbaaDoorW.PrintWords Go.Proofs.YtfbenlenihlpbaaDoorW.PrintLast Go.Proofs.YtfbenlenihlpbaaDoorW.PrintMore
attribute [local go_sem] max2_int min2_int max_two min_two max_three min_three max_four min_four   -- for this text's walks alone
set_option linter.unusedVariables false
set_option linter.unusedSimpArgs false

/-! ### laws_FnAdjustRef: function 7 -/
mutual
noncomputable def laws_FnAdjustRef.l0 : Nat → List (S22) → Bool → Int → Int → List (S22) → List (S22) → Int → Bool → Int → Int → Option (Bool)
  | 0, _, _, _, _, _, _, _, _, _, _ => none
  | k + 1, x0, x1, x2, x3, x9, x10, x12, x148000, x148001, x148002 => if x12 < (x0.length : Int) then (laws_FnAdjustRef.j1 k x0 x1 x2 x3 x9 x10 x12 (decide (x12 < 6)) x148000 x148001 x148002) else (laws_FnAdjustRef.j1 k x0 x1 x2 x3 x9 x10 x12 false x148000 x148001 x148002)
noncomputable def laws_FnAdjustRef.j1 : Nat → List (S22) → Bool → Int → Int → List (S22) → List (S22) → Int → Bool → Bool → Int → Int → Option (Bool)
  | 0, _, _, _, _, _, _, _, _, _, _, _ => none
  | k + 1, x0, x1, x2, x3, x9, x10, x12, x35, x148000, x148001, x148002 => if x35 = true then (if 0 ≤ x12 then (if x12 < (x0.length : Int) then ((spec_GridArea.f k ((rd_T22 x0 x12).f0) ((rd_T22 x0 x12).f1) ((rd_T22 x0 x12).f2) ((rd_T22 x0 x12).f3)).bind fun bt149 => (if x9.length < 4398046511104 then ((some (x9 ++ [(⟨bt149.1, bt149.2.1, bt149.2.2.1, bt149.2.2.2⟩ : S22)] : List (S22))).bind fun y153 => (if x12 < (y153.length : Int) then ((spec_GridMove_Area.f x148000 x148001 x148002 ((rd_T22 y153 x12).f0) ((rd_T22 y153 x12).f1) ((rd_T22 y153 x12).f2) ((rd_T22 y153 x12).f3)).bind fun bt157 => (if x10.length < 4398046511104 then (laws_FnAdjustRef.l0 k x0 x1 x2 x3 y153 (x10 ++ [(⟨bt157.1, bt157.2.1, bt157.2.2.1, bt157.2.2.2⟩ : S22)]) (wrap64 (x12 + 1)) x148000 x148001 x148002) else (none))) else (none))) else (none))) else (none)) else (none)) else (if (x9.length : Int) = 0 then ((Go.Proofs.YtfbenlenihlpbaaDoor.Given.laws_refLives.f).bind fun t164 => (some t164)) else ((spec_GridAreasText.f k x9).bind fun t165 => ((Go.Proofs.YtfbenlenihlpbaaDoor.AdjB.impl_AdjustRef.f t165 x1 x2 x3).bind fun bt166 => ((spec_GridRead.f k bt166.1).bind fun bt168 => (if bt166.2 = true then (if bt168.2 = true then ((spec_GridSame.f k bt168.1 x10).bind fun t172 => (if t172 = true then ((Go.Proofs.YtfbenlenihlpbaaDoor.Given.laws_refLives.f).bind fun t173 => (some t173)) else (some false))) else (some false)) else (some false))))))
end
noncomputable def laws_FnAdjustRef.f (k : Nat) (l0 : List (S22)) (a1 : Bool) (a2 : Int) (a3 : Int) : Option (Bool) := if (l0.length : Int) > 2147483647 then (some true) else ((Go.Proofs.YtfbenlenihlpbaaDoor.PgridNumber.laws_gridNumber.f a2 70).bind fun t145 => ((Go.Proofs.YtfbenlenihlpbaaDoor.PgridNumber.laws_gridNumber.f a3 20).bind fun t146 => (laws_FnAdjustRef.l0 k l0 a1 t145 t146 ([] : List (S22)) ([] : List (S22)) 0 a1 t145 t146)))
theorem laws_FnAdjustRef.mono_l : ∀ k, (∀ y0 y1 y2 y3 y4 y5 y6 y7 y8 y9, LeO (laws_FnAdjustRef.l0 k y0 y1 y2 y3 y4 y5 y6 y7 y8 y9) (laws_FnAdjustRef.l0 (k + 1) y0 y1 y2 y3 y4 y5 y6 y7 y8 y9)) ∧ (∀ y0 y1 y2 y3 y4 y5 y6 y7 y8 y9 y10, LeO (laws_FnAdjustRef.j1 k y0 y1 y2 y3 y4 y5 y6 y7 y8 y9 y10) (laws_FnAdjustRef.j1 (k + 1) y0 y1 y2 y3 y4 y5 y6 y7 y8 y9 y10))
  | 0 => ⟨fun _ _ _ _ _ _ _ _ _ _ r h => by simp [laws_FnAdjustRef.l0] at h, fun _ _ _ _ _ _ _ _ _ _ _ r h => by simp [laws_FnAdjustRef.j1] at h⟩
  | k + 1 => by
    obtain ⟨ih0, ih1⟩ := laws_FnAdjustRef.mono_l k
    refine ⟨?_, ?_⟩
    · intro y0 y1 y2 y3 y4 y5 y6 y7 y8 y9
      unfold laws_FnAdjustRef.l0
      repeat' first
      | (with_reducible exact ih0 _ _ _ _ _ _ _ _ _ _)
      | (with_reducible exact ih1 _ _ _ _ _ _ _ _ _ _ _)
      | (with_reducible exact spec_GridArea.mono _ _ _ _ _)
      | (with_reducible exact spec_GridAreasText.mono _ _)
      | (with_reducible exact spec_GridRead.mono _ _)
      | (with_reducible exact spec_GridSame.mono _ _ _)
      | (with_reducible exact LeO.refl _)
      | (with_reducible exact LeO.none _)
      | (with_reducible refine LeO.ite ?_ ?_)
      | (with_reducible refine LeO.bind ?_ (fun _ => ?_))
      | exact ih0 _ _ _ _ _ _ _ _ _ _
      | exact ih1 _ _ _ _ _ _ _ _ _ _ _
      | exact spec_GridArea.mono _ _ _ _ _
      | exact spec_GridAreasText.mono _ _
      | exact spec_GridRead.mono _ _
      | exact spec_GridSame.mono _ _ _
      | exact LeO.none _
      | refine LeO.ite ?_ ?_
      | refine LeO.bind ?_ (fun _ => ?_)
    · intro y0 y1 y2 y3 y4 y5 y6 y7 y8 y9 y10
      unfold laws_FnAdjustRef.j1
      repeat' first
      | (with_reducible exact ih0 _ _ _ _ _ _ _ _ _ _)
      | (with_reducible exact ih1 _ _ _ _ _ _ _ _ _ _ _)
      | (with_reducible exact spec_GridArea.mono _ _ _ _ _)
      | (with_reducible exact spec_GridAreasText.mono _ _)
      | (with_reducible exact spec_GridRead.mono _ _)
      | (with_reducible exact spec_GridSame.mono _ _ _)
      | (with_reducible exact LeO.refl _)
      | (with_reducible exact LeO.none _)
      | (with_reducible refine LeO.ite ?_ ?_)
      | (with_reducible refine LeO.bind ?_ (fun _ => ?_))
      | exact ih0 _ _ _ _ _ _ _ _ _ _
      | exact ih1 _ _ _ _ _ _ _ _ _ _ _
      | exact spec_GridArea.mono _ _ _ _ _
      | exact spec_GridAreasText.mono _ _
      | exact spec_GridRead.mono _ _
      | exact spec_GridSame.mono _ _ _
      | exact LeO.none _
      | refine LeO.ite ?_ ?_
      | refine LeO.bind ?_ (fun _ => ?_)
theorem laws_FnAdjustRef.mono : ∀ a0 a1 a2 a3 k, LeO (laws_FnAdjustRef.f k a0 a1 a2 a3) (laws_FnAdjustRef.f (k + 1) a0 a1 a2 a3) := by
  intro a0 a1 a2 a3 k
  obtain ⟨ih0, ih1⟩ := laws_FnAdjustRef.mono_l k
  unfold laws_FnAdjustRef.f
  repeat' first
      | (with_reducible exact ih0 _ _ _ _ _ _ _ _ _ _)
      | (with_reducible exact ih1 _ _ _ _ _ _ _ _ _ _ _)
      | (with_reducible exact spec_GridArea.mono _ _ _ _ _)
      | (with_reducible exact spec_GridAreasText.mono _ _)
      | (with_reducible exact spec_GridRead.mono _ _)
      | (with_reducible exact spec_GridSame.mono _ _ _)
      | (with_reducible exact LeO.refl _)
      | (with_reducible exact LeO.none _)
      | (with_reducible refine LeO.ite ?_ ?_)
      | (with_reducible refine LeO.bind ?_ (fun _ => ?_))
      | exact ih0 _ _ _ _ _ _ _ _ _ _
      | exact ih1 _ _ _ _ _ _ _ _ _ _ _
      | exact spec_GridArea.mono _ _ _ _ _
      | exact spec_GridAreasText.mono _ _
      | exact spec_GridRead.mono _ _
      | exact spec_GridSame.mono _ _ _
      | exact LeO.none _
      | refine LeO.ite ?_ ?_
      | refine LeO.bind ?_ (fun _ => ?_)
noncomputable def laws_FnAdjustRef.T10 : Bool × List (List Nat × List Nat) := (true, [([], []), ([], []), ([], []), ([], []), ([2, 3], [2, 3]), ([4], [4]), ([1, 5], [1, 5]), ([6], [6]), ([0, 7, 6], [0, 7]), ([8, 8, 0, 1, 2, 3, 4, 5, 6, 7, 8], [0, 8])])
noncomputable def laws_FnAdjustRef.B10 : List Nat := [0, 0, 0, 0, 12, 28, 62, 126, 255, 511]
theorem laws_FnAdjustRef.tab10 : rtab .any (opsOf Tryd.f7 10) = laws_FnAdjustRef.T10 := by kernel_rfl
theorem laws_FnAdjustRef.bits10 : waitsOk laws_FnAdjustRef.T10.2 laws_FnAdjustRef.B10 = true := by kernel_rfl
set_option maxHeartbeats 8000000 in
set_option maxRecDepth 100000 in
theorem laws_FnAdjustRef.calls (k : Nat) (A0 : Option Addr) (c0 : Nat) (l0 : List (S22)) (a1 : Bool) (a2 : Int) (a3 : Int) (r : Bool) (w : World) (hr0 : Kd.C k22 w A0 l0.length l0) (hc0 : l0.length ≤ c0) (h : laws_FnAdjustRef.f k l0 a1 a2 a3 = some r) :
    Calls Tryd.prog 7 #[.slice A0 l0.length c0, .bool a1, .int .i64 a2, .int .i64 a3] w fun e w' => e = .returned (.bool r) ∧ Below w.heap.size w w' := by
  have hu46 := Tryd.underlying46
  have hu22 := Tryd.underlying22
  have HR0 := Aside0.mk hr0
  have HC0 := Aside0.mk hc0
  clear hr0 hc0
  have HB := Aside0.mk (Below.refl w.heap.size w)
  have H : (if (l0.length : Int) > 2147483647 then (some true) else ((Go.Proofs.YtfbenlenihlpbaaDoor.PgridNumber.laws_gridNumber.f a2 70).bind fun t145 => ((Go.Proofs.YtfbenlenihlpbaaDoor.PgridNumber.laws_gridNumber.f a3 20).bind fun t146 => (laws_FnAdjustRef.l0 k l0 a1 t145 t146 ([] : List (S22)) ([] : List (S22)) 0 a1 t145 t146)))) = some r := h
  clear h
  by_cases c5 : (l0.length : Int) > 2147483647
  · rw [if_pos c5] at H
    have c5b0 : decide (2147483647 < (l0.length : Int)) = true := decide_eq_true c5
    have c5b1 : decide (2147483647 < l0.length) = true := decide_eq_true (by omega)
    clear c5
    obtain rfl := Option.some.inj H
    go_enter Tryd.func7, Tryd.ntmps7
    go_wp2
    go_ret
    exact ⟨by first | rfl | (simp [errW_none, errW_some] <;> rfl) | (simp [*, errW_none, errW_some] <;> rfl), by repeat (first | (with_reducible first | exact HB.out | apply below_alloc | apply pw_below_drewN | apply below_drew1) | exact HB.out)⟩
  · rw [if_neg c5] at H
    have c5b0 : decide (2147483647 < (l0.length : Int)) = false := decide_eq_false c5
    have c5b1 : decide (2147483647 < l0.length) = false := decide_eq_false (by omega)
    clear c5
    replace H := Option.bind_eq_some_iff.mp H
    obtain ⟨t145, A60, H⟩ := H
    replace H : ((Go.Proofs.YtfbenlenihlpbaaDoor.PgridNumber.laws_gridNumber.f a3 20).bind fun t146 => (laws_FnAdjustRef.l0 k l0 a1 t145 t146 ([] : List (S22)) ([] : List (S22)) 0 a1 t145 t146)) = some r := H
    have A6 := Aside0.mk A60
    clear A60
    replace H := Option.bind_eq_some_iff.mp H
    obtain ⟨t146, A70, H⟩ := H
    replace H : (laws_FnAdjustRef.l0 k l0 a1 t145 t146 ([] : List (S22)) ([] : List (S22)) 0 a1 t145 t146) = some r := H
    have A7 := Aside0.mk A70
    clear A70
    have H' := Aside0.mk H
    clear H
    go_enter Tryd.func7, Tryd.ntmps7
    go_wp2_with (first | ((with_reducible refine gate_callee (f := 19) rfl ?_); refine goesL_ (some 21) rfl rfl Tryd.func19 (by kernel_rfl) rfl #[.int .i64 a2, .int .i64 70] rfl (by (try simp only [List.map_toArray, List.map_cons, List.map_nil]); first | done | rfl | (simp only [List.length_drop, List.length_take]; rfl)) ?_; (with_reducible refine (Go.Proofs.YtfbenlenihlpbaaDoor.PgridNumber.laws_gridNumber.calls a2 70 t145 _ A6.out).mono ?_); rintro e w' ⟨rfl, ⟨nd, rfl⟩⟩; refine ⟨_, rfl, ?_⟩) | ((with_reducible refine gate_callee (f := 19) rfl ?_); refine goesL_ (some 23) rfl rfl Tryd.func19 (by kernel_rfl) rfl #[.int .i64 a3, .int .i64 20] rfl (by (try simp only [List.map_toArray, List.map_cons, List.map_nil]); first | done | rfl | (simp only [List.length_drop, List.length_take]; rfl)) ?_; (with_reducible refine (Go.Proofs.YtfbenlenihlpbaaDoor.PgridNumber.laws_gridNumber.calls a3 20 t146 _ A7.out).mono ?_); rintro e w' ⟨rfl, ⟨nd, rfl⟩⟩; refine ⟨_, rfl, ?_⟩) | ((with_reducible refine gate_dst (N := 11) rfl ?_); refine box_event ?hg (N := 11) ?hd (cs := #[.bool false, .int .i64 0, .int .i64 0]) (t := 46) ?hr ?_; (case hd => rfl); (case hg => rfl); (case hr => first | (go_simp; done) | (go_simp; rfl)); intro gb147 hg w8 hbox hb; have n0_ := Aside0.mk (below_step (by repeat (first | (with_reducible first | exact HB.out | apply below_alloc | apply pw_below_drewN | apply below_drew1) | exact HB.out)) hb); have n1_ := Aside0.mk (hbox); have n2_ := Aside0.mk ((by rw [hg]; exact (below_size (by repeat (first | (with_reducible first | exact HB.out | apply below_alloc | apply pw_below_drewN | apply below_drew1) | exact HB.out))) : w.heap.size ≤ gb147)); have n3_ := Aside0.mk ((by rw [hg]; exact (below_size (by repeat (first | (with_reducible first | exact HB.out | apply below_alloc | apply pw_below_drewN | apply below_drew1) | exact HB.out))) : w.heap.size ≤ gb147)); clear HB; have HB := n0_; have BK147 := n1_; have GW147 := n2_; have GE147 := n3_; clear n0_ n1_ n2_ n3_; clear hb hbox hg; have hcz9_0 : w8.cell? ⟨gb147, 0, none⟩ = some (.bool false) := (blk_cell BK147.out 0).trans rfl; have hcz9_1 : w8.cell? ⟨gb147, 1, none⟩ = some (.int .i64 0) := (blk_cell BK147.out 1).trans rfl; have hcz9_2 : w8.cell? ⟨gb147, 2, none⟩ = some (.int .i64 0) := (blk_cell BK147.out 2).trans rfl; have hfz9_0 := blk_frozen BK147.out 0; have hfz9_1 := blk_frozen BK147.out 1; have hfz9_2 := blk_frozen BK147.out 2))
    go_loopg [9, 10, 12] k (fun kq v9 v10 v12 w' => ∃ (x9_1 : List (S22)) (x10_1 : List (S22)) (x12_1 : Int), v12 = .int .i64 x12_1 ∧ Aside0 (laws_FnAdjustRef.l0 kq l0 a1 t145 t146 x9_1 x10_1 x12_1 a1 t145 t146 = some r) ∧ Aside0 (kq ≤ k) ∧ Aside0 (Kd.R k22 22 w' w.heap.size (fun k_ => some k_ ≠ (v10 : Value).ownBlock) v9 x9_1) ∧ Aside0 (Kd.R k22 22 w' w.heap.size (fun k_ => some k_ ≠ (v9 : Value).ownBlock) v10 x10_1) ∧ Aside0 (w'.heap[gb147]? = some (.cells #[.bool a1, .int .i64 t145, .int .i64 t146] 46 (0, 0))) ∧ Aside0 (Below w.heap.size w w'))
    case atStart => exact ⟨(([] : List (S22))), (([] : List (S22))), (0), (by first | rfl | (simp; done) | (simp [*]; done)), H', ⟨Nat.le_refl _⟩, ⟨by first | exact Kd.R_nil _ _ _ _ _ | exact Kd.N_nil _ _ _ _ _ | exact Kd.V_nil _ _ _ _ _ | exact Kd.Q_nil _ _ _ _ _ | exact Kd.S_nil _ _ _ _ _⟩, ⟨by first | exact Kd.R_nil _ _ _ _ _ | exact Kd.N_nil _ _ _ _ _ | exact Kd.V_nil _ _ _ _ _ | exact Kd.Q_nil _ _ _ _ _ | exact Kd.S_nil _ _ _ _ _⟩, ⟨by (with_reducible repeat (first | refine blk_drewN ?_ _ | refine blk_drew ?_ | refine blk_alloc ?_ _)); refine blk_put (cs := #[.bool a1, .int .i64 t145, .int .i64 0]) ?_ 2 _ rfl; (with_reducible repeat (first | refine blk_drewN ?_ _ | refine blk_drew ?_ | refine blk_alloc ?_ _)); refine blk_put (cs := #[.bool a1, .int .i64 0, .int .i64 0]) ?_ 1 _ rfl; (with_reducible repeat (first | refine blk_drewN ?_ _ | refine blk_drew ?_ | refine blk_alloc ?_ _)); refine blk_put (cs := #[.bool false, .int .i64 0, .int .i64 0]) ?_ 0 _ rfl; (with_reducible repeat (first | refine blk_drewN ?_ _ | refine blk_drew ?_ | refine blk_alloc ?_ _)); exact BK147.out⟩, ⟨by repeat (first | (with_reducible first | exact HB.out | apply below_alloc | apply pw_below_drewN | apply below_drew1 | refine below_set ?_ GE147.out) | exact HB.out)⟩⟩
    case round =>
      clear H'
      try clear c1
      try clear p2
      try clear c5
      try clear c5b0
      try clear c5b1
      try clear c7
      try clear hcz9_0
      try clear hcz9_1
      try clear hcz9_2
      try clear hfz9_0
      try clear hfz9_1
      try clear hfz9_2
      obtain ⟨x9_1, x10_1, x12_1, rfl, HA, HK1, HO_9, HO_10, BK147, HB⟩ := hrel
      cases gk with
      | zero => exact absurd HA.out (by simp [laws_FnAdjustRef.l0])
      | succ k1 =>
        have H := HA.out
        clear HA
        simp only [laws_FnAdjustRef.l0] at H
        have HC10 := Aside0.mk H
        clear H
        go_upto_region 7 with (fail)
        go_cut [35] (fun v35 wc => ∃ (kq : Nat) (x35_9 : Bool), v35 = .bool x35_9 ∧ Aside0 (laws_FnAdjustRef.j1 kq l0 a1 t145 t146 x9_1 x10_1 x12_1 x35_9 a1 t145 t146 = some r) ∧ Aside0 (kq ≤ k1) ∧ Aside0 (Kd.R k22 22 wc w.heap.size (fun k_ => some k_ ≠ (u10 : Value).ownBlock) u9 x9_1) ∧ Aside0 (Kd.R k22 22 wc w.heap.size (fun k_ => some k_ ≠ (u9 : Value).ownBlock) u10 x10_1) ∧ Aside0 (wc.heap[gb147]? = some (.cells #[.bool a1, .int .i64 t145, .int .i64 t146] 46 (0, 0))) ∧ Aside0 (Below w.heap.size w wc))
        case first =>
          have H := HC10.out
          clear HC10
          by_cases c11 : x12_1 < (l0.length : Int)
          · rw [if_pos c11] at H
            have c11b0 : decide (x12_1 < (l0.length : Int)) = true := decide_eq_true c11
            clear c11
            (first | rw [c11b0] | (simp only [i64_w, i32_w]; rw [c11b0]) | skip)
            have H' := Aside0.mk H
            clear H
            go_wp2
            go_meet
            case rel => exact ⟨_, (decide (x12_1 < 6)), (by first | rfl | (simp; done) | (simp [*]; done)), H', ⟨by have := HK1.out; first | omega | exact Nat.le_refl _⟩, ⟨by (with_reducible repeat (first | apply Kd.R_alloc | apply Kd.R_drewN | apply Kd.R_drew)); exact HO_9.out⟩, ⟨by (with_reducible repeat (first | apply Kd.R_alloc | apply Kd.R_drewN | apply Kd.R_drew)); exact HO_10.out⟩, ⟨by (with_reducible repeat (first | refine blk_drewN ?_ _ | refine blk_drew ?_ | refine blk_alloc ?_ _)); exact BK147.out⟩, ⟨by repeat (first | (with_reducible first | exact HB.out | apply below_alloc | apply pw_below_drewN | apply below_drew1 | refine below_set ?_ GE147.out) | exact HB.out)⟩⟩
          · rw [if_neg c11] at H
            have c11b0 : decide (x12_1 < (l0.length : Int)) = false := decide_eq_false c11
            clear c11
            (first | rw [c11b0] | (simp only [i64_w, i32_w]; rw [c11b0]) | skip)
            have H' := Aside0.mk H
            clear H
            go_wp2
            go_meet
            case rel => exact ⟨_, (false), (by first | rfl | (simp; done) | (simp [*]; done)), H', ⟨by have := HK1.out; first | omega | exact Nat.le_refl _⟩, ⟨by (with_reducible repeat (first | apply Kd.R_alloc | apply Kd.R_drewN | apply Kd.R_drew)); exact HO_9.out⟩, ⟨by (with_reducible repeat (first | apply Kd.R_alloc | apply Kd.R_drewN | apply Kd.R_drew)); exact HO_10.out⟩, ⟨by (with_reducible repeat (first | refine blk_drewN ?_ _ | refine blk_drew ?_ | refine blk_alloc ?_ _)); exact BK147.out⟩, ⟨by repeat (first | (with_reducible first | exact HB.out | apply below_alloc | apply pw_below_drewN | apply below_drew1 | refine below_set ?_ GE147.out) | exact HB.out)⟩⟩
        case rest =>
          clear HC10
          try clear c1
          try clear p2
          try clear c5
          try clear c5b0
          try clear c5b1
          try clear c7
          try clear c11
          try clear c11b0
          try clear hcz9_0
          try clear hcz9_1
          try clear hcz9_2
          try clear hfz9_0
          try clear hfz9_1
          try clear hfz9_2
          try clear p2
          obtain ⟨kq, x35_9, rfl, HA, HJ9, HO_9, HO_10, BK147, HB⟩ := hcut
          cases kq with
          | zero => exact absurd HA.out (by simp [laws_FnAdjustRef.j1])
          | succ kj9 =>
            have H := HA.out
            clear HA
            simp only [laws_FnAdjustRef.j1] at H
            by_cases c12 : x35_9 = true
            · subst c12
              have H1 : (if 0 ≤ x12_1 then (if x12_1 < (l0.length : Int) then ((spec_GridArea.f kj9 ((rd_T22 l0 x12_1).f0) ((rd_T22 l0 x12_1).f1) ((rd_T22 l0 x12_1).f2) ((rd_T22 l0 x12_1).f3)).bind fun bt149 => (if x9_1.length < 4398046511104 then ((some (x9_1 ++ [(⟨bt149.1, bt149.2.1, bt149.2.2.1, bt149.2.2.2⟩ : S22)] : List (S22))).bind fun y153 => (if x12_1 < (y153.length : Int) then ((spec_GridMove_Area.f a1 t145 t146 ((rd_T22 y153 x12_1).f0) ((rd_T22 y153 x12_1).f1) ((rd_T22 y153 x12_1).f2) ((rd_T22 y153 x12_1).f3)).bind fun bt157 => (if x10_1.length < 4398046511104 then (laws_FnAdjustRef.l0 kj9 l0 a1 t145 t146 y153 (x10_1 ++ [(⟨bt157.1, bt157.2.1, bt157.2.2.1, bt157.2.2.2⟩ : S22)]) (wrap64 (x12_1 + 1)) a1 t145 t146) else (none))) else (none))) else (none))) else (none)) else (none)) = some r := by rw [if_pos rfl] at H; exact H
              clear H
              have H := H1
              clear H1
              by_cases c13 : 0 ≤ x12_1
              · rw [if_pos c13] at H
                have c13b0 : decide (0 ≤ x12_1) = true := decide_eq_true c13
                clear c13
                by_cases c14 : x12_1 < (l0.length : Int)
                · rw [if_pos c14] at H
                  have c14b0 : decide (x12_1 < (l0.length : Int)) = true := decide_eq_true c14
                  clear c14
                  replace H := Option.bind_eq_some_iff.mp H
                  obtain ⟨⟨t149, t150, t151, t152⟩, A150, H⟩ := H
                  replace H : (if x9_1.length < 4398046511104 then ((some (x9_1 ++ [(⟨t149, t150, t151, t152⟩ : S22)] : List (S22))).bind fun y153 => (if x12_1 < (y153.length : Int) then ((spec_GridMove_Area.f a1 t145 t146 ((rd_T22 y153 x12_1).f0) ((rd_T22 y153 x12_1).f1) ((rd_T22 y153 x12_1).f2) ((rd_T22 y153 x12_1).f3)).bind fun bt157 => (if x10_1.length < 4398046511104 then (laws_FnAdjustRef.l0 kj9 l0 a1 t145 t146 y153 (x10_1 ++ [(⟨bt157.1, bt157.2.1, bt157.2.2.1, bt157.2.2.2⟩ : S22)]) (wrap64 (x12_1 + 1)) a1 t145 t146) else (none))) else (none))) else (none)) = some r := H
                  have A15 := Aside0.mk A150
                  clear A150
                  by_cases c16 : x9_1.length < 4398046511104
                  · rw [if_pos c16] at H
                    have LMc16 := Aside0.mk c16
                    clear c16
                    obtain ⟨y153, hy153⟩ : ∃ y_ : List (S22), y_ = (x9_1 ++ [(⟨t149, t150, t151, t152⟩ : S22)]) := ⟨_, rfl⟩
                    replace H : (if x12_1 < (y153.length : Int) then ((spec_GridMove_Area.f a1 t145 t146 ((rd_T22 y153 x12_1).f0) ((rd_T22 y153 x12_1).f1) ((rd_T22 y153 x12_1).f2) ((rd_T22 y153 x12_1).f3)).bind fun bt157 => (if x10_1.length < 4398046511104 then (laws_FnAdjustRef.l0 kj9 l0 a1 t145 t146 y153 (x10_1 ++ [(⟨bt157.1, bt157.2.1, bt157.2.2.1, bt157.2.2.2⟩ : S22)]) (wrap64 (x12_1 + 1)) a1 t145 t146) else (none))) else (none)) = some r := by first | (rw [hy153]; with_reducible exact H) | (have H2_ := (Option.bind_some _ _).symm.trans H; rw [hy153]; with_reducible exact H2_) | (have H2_ := (Option.bind_some _ _).symm.trans H; with_reducible exact H2_) | with_reducible exact H | (rw [hy153]; exact H) | exact H
                    have Ny153 := Aside0.mk hy153
                    clear hy153
                    by_cases c17 : x12_1 < (y153.length : Int)
                    · rw [if_pos c17] at H
                      have c17b0 : decide (x12_1 < (y153.length : Int)) = true := decide_eq_true c17
                      clear c17
                      replace H := Option.bind_eq_some_iff.mp H
                      obtain ⟨⟨t157, t158, t159, t160⟩, A180, H⟩ := H
                      replace H : (if x10_1.length < 4398046511104 then (laws_FnAdjustRef.l0 kj9 l0 a1 t145 t146 y153 (x10_1 ++ [(⟨t157, t158, t159, t160⟩ : S22)]) (wrap64 (x12_1 + 1)) a1 t145 t146) else (none)) = some r := H
                      have A18 := Aside0.mk A180
                      clear A180
                      by_cases c19 : x10_1.length < 4398046511104
                      · rw [if_pos c19] at H
                        have LMc19 := Aside0.mk c19
                        clear c19
                        obtain ⟨y161, hy161⟩ : ∃ y_ : List (S22), y_ = (x10_1 ++ [(⟨t157, t158, t159, t160⟩ : S22)]) := ⟨_, rfl⟩
                        replace H : (laws_FnAdjustRef.l0 kj9 l0 a1 t145 t146 y153 y161 (wrap64 (x12_1 + 1)) a1 t145 t146) = some r := by first | (rw [hy161]; with_reducible exact H) | (have H2_ := (Option.bind_some _ _).symm.trans H; rw [hy161]; with_reducible exact H2_) | (have H2_ := (Option.bind_some _ _).symm.trans H; with_reducible exact H2_) | with_reducible exact H | (rw [hy161]; exact H) | exact H
                        have Ny161 := Aside0.mk hy161
                        clear hy161
                        have H' := Aside0.mk H
                        clear H
                        have p148 : 0 ≤ (x12_1 : Int) := of_decide_eq_true (by first | (with_reducible assumption) | assumption)
                        have q148 : x12_1 < (l0.length : Int) := of_decide_eq_true (by first | (with_reducible assumption) | assumption)
                        obtain ⟨ad148, e148, hx148_0, hx148_1, hx148_2, hx148_3⟩ := at_T22 HR0.out x12_1 p148 q148
                        cases e148
                        replace hx148_0 := (HB.out.cell (World.block_lt_of_cell? w _ hx148_0)).trans hx148_0
                        replace hx148_1 := (HB.out.cell (World.block_lt_of_cell? w _ hx148_1)).trans hx148_1
                        replace hx148_2 := (HB.out.cell (World.block_lt_of_cell? w _ hx148_2)).trans hx148_2
                        replace hx148_3 := (HB.out.cell (World.block_lt_of_cell? w _ hx148_3)).trans hx148_3
                        replace p148 := eq_true p148
                        replace q148 := eq_true q148
                        try go_wp2_with (first | ((with_reducible refine gate_callee (f := 15) rfl ?_); refine goesL_ (some 43) rfl rfl Tryd.func15 (by kernel_rfl) rfl #[.agg #[.int .i64 ((rd_T22 l0 x12_1).f0), .int .i64 ((rd_T22 l0 x12_1).f1), .int .i64 ((rd_T22 l0 x12_1).f2), .int .i64 ((rd_T22 l0 x12_1).f3)]] rfl (by (try simp only [List.map_toArray, List.map_cons, List.map_nil]); first | done | rfl | (simp only [List.length_drop, List.length_take]; rfl)) ?_; (with_reducible refine (spec_GridArea.calls kj9 ((rd_T22 l0 x12_1).f0) ((rd_T22 l0 x12_1).f1) ((rd_T22 l0 x12_1).f2) ((rd_T22 l0 x12_1).f3) t149 t150 t151 t152 _ A15.out).mono ?_); rintro e w20 ⟨rfl, hb⟩; refine ⟨_, rfl, ?_⟩; have n0_ := Aside0.mk (Kd.R_below (by (with_reducible repeat (first | apply Kd.R_alloc | apply Kd.R_drewN | apply Kd.R_drew)); exact HO_9.out) hb); have n1_ := Aside0.mk (Kd.R_below (by (with_reducible repeat (first | apply Kd.R_alloc | apply Kd.R_drewN | apply Kd.R_drew)); exact HO_10.out) hb); have n2_ := Aside0.mk (blk_below (g := gb147) (o := .cells #[.bool a1, .int .i64 t145, .int .i64 t146] 46 (0, 0)) (by (with_reducible repeat (first | refine blk_drewN ?_ _ | refine blk_drew ?_ | refine blk_alloc ?_ _)); exact BK147.out) hb); have n3_ := Aside0.mk (below_step (by repeat (first | (with_reducible first | exact HB.out | apply below_alloc | apply pw_below_drewN | apply below_drew1 | refine below_set ?_ GE147.out) | exact HB.out)) hb); clear HO_9; clear HO_10; clear BK147; clear HB; have HO_9 := n0_; have HO_10 := n1_; have BK147 := n2_; have HB := n3_; clear n0_ n1_ n2_ n3_; (try clear hb); (try clear hb2); (try clear hk); (try clear hi)) | ((with_reducible refine gate_builtin (b := .append) (xs := #[.tmp 38, .tmp 44]) rfl ?_); at_builtin; refine Kd.R_append k22 (w0 := w) w.heap.size rfl (.tmp 38) (.tmp 44) 41 22 (.agg #[(.int .i64 0), (.int .i64 0), (.int .i64 0), (.int .i64 0)]) 32 rfl Tryd.underlying41 info22 rfl (by decide) (by omega) u9 x9_1 (⟨t149, t150, t151, t152⟩ : S22) [.int .i64 t149, .int .i64 t150, .int .i64 t151, .int .i64 t152] (fun k_ => some k_ ≠ (u10 : Value).ownBlock) (fun _ => False) rfl rfl ?aP (fun _ hk => hk.elim) ?aF ?aO ?aB ?aS ?aL ?_; (case aP => exact k22_mkM _ _ _ (⟨t149, t150, t151, t152⟩ : S22)); (case aB => exact (by repeat (first | (with_reducible first | exact HB.out | apply below_alloc | apply pw_below_drewN | apply below_drew1 | refine below_set ?_ GE147.out) | exact HB.out))); (case aF => exact (fun k_ hk => Kd.fresh' (Kd.R_lt (by (with_reducible repeat (first | apply Kd.R_alloc | apply Kd.R_drewN | apply Kd.R_drew)); exact HO_10.out)) k_ hk)); (case aO => exact (by (with_reducible repeat (first | apply Kd.R_alloc | apply Kd.R_drewN | apply Kd.R_drew)); exact HO_9.out)); (case aS => exact (below_size (by repeat (first | (with_reducible first | exact HB.out | apply below_alloc | apply pw_below_drewN | apply below_drew1 | refine below_set ?_ GE147.out) | exact HB.out)))); (case aL => have := LMc16.out; omega); intro v154 w21 ho hb hg hat; rw [← Ny153.out] at ho; have n0_ := Aside0.mk (Kd.R_after (ok := (fun _ => True)) (by (with_reducible repeat (first | apply Kd.R_alloc | apply Kd.R_drewN | apply Kd.R_drew)); exact Kd.R_mono HO_10.out (fun _ hk => ⟨trivial, hk⟩)) hg hat); have n1_ := Aside0.mk (blk_grown (g := gb147) (o := .cells #[.bool a1, .int .i64 t145, .int .i64 t146] 46 (0, 0)) (by (with_reducible repeat (first | refine blk_drewN ?_ _ | refine blk_drew ?_ | refine blk_alloc ?_ _)); exact BK147.out) hg (Kd.R_ne HO_9.out BK147.out (by decide))); have n2_ := Aside0.mk (hb); have n3_ := Aside0.mk (ho); clear HO_10; clear BK147; clear HB; clear HO_9; have HO_10 := n0_; have BK147 := n1_; have HB := n2_; have HO155 := n3_; clear n0_ n1_ n2_ n3_; clear ho hb hg hat))
                        have n0_ := Aside0.mk (Kd.R_drew HO_10.out)
                        have n1_ := Aside0.mk (Kd.R_drew HO155.out)
                        have n2_ := Aside0.mk (blk_drew BK147.out)
                        have n3_ := Aside0.mk (below_drew1 HB.out)
                        clear HO_10
                        clear HO155
                        clear BK147
                        clear HB
                        have HO_10 := n0_
                        have HO155 := n1_
                        have BK147 := n2_
                        have HB := n3_
                        clear n0_ n1_ n2_ n3_
                        obtain ⟨Ao23, co23, eo23⟩ := Kd.R_slice HO155.out
                        (first | subst eo23 | (injection eo23 with f1_ f2_ f3_; have f4_ := f1_.symm; have f5_ := f3_.symm; clear f1_ f2_ f3_; subst f4_; subst f5_))
                        have p156 : 0 ≤ (x12_1 : Int) := of_decide_eq_true (by first | (with_reducible assumption) | assumption)
                        have q156 : x12_1 < (y153.length : Int) := of_decide_eq_true (by first | (with_reducible assumption) | assumption)
                        obtain ⟨ad156, e156, hx156_0, hx156_1, hx156_2, hx156_3⟩ := at_T22 (Kd.R_reads' HO155.out).2.2 x12_1 p156 q156
                        cases e156
                        replace p156 := eq_true p156
                        replace q156 := eq_true q156
                        refine start_ (n := 10) (S := fun w' => w'.cell? ⟨gb147, 0, none⟩ = some (.bool a1) ∧ w'.cell? ⟨gb147, 1, none⟩ = some (.int .i64 t145) ∧ w'.cell? ⟨gb147, 2, none⟩ = some (.int .i64 t146) ∧ w'.cell? (ad156.add ((x12_1).toNat * 4)) = some (.int .i64 ((rd_T22 y153 x12_1).f0)) ∧ w'.cell? ⟨(ad156.add ((x12_1).toNat * 4)).block, (ad156.add ((x12_1).toNat * 4)).off + 1, none⟩ = some (.int .i64 ((rd_T22 y153 x12_1).f1)) ∧ w'.cell? ⟨(ad156.add ((x12_1).toNat * 4)).block, (ad156.add ((x12_1).toNat * 4)).off + 2, none⟩ = some (.int .i64 ((rd_T22 y153 x12_1).f2)) ∧ w'.cell? ⟨(ad156.add ((x12_1).toNat * 4)).block, (ad156.add ((x12_1).toNat * 4)).off + 3, none⟩ = some (.int .i64 ((rd_T22 y153 x12_1).f3))) (ds := [7, 8]) #[false, false, false, false, false, false, false, false, false, false] (by kernel_rfl) rfl rfl ⟨(blk_cell BK147.out 0).trans rfl, (blk_cell BK147.out 1).trans rfl, (blk_cell BK147.out 2).trans rfl, hx156_0, hx156_1, hx156_2, hx156_3⟩ (fun hHeld => ?_); refine with_tabW laws_FnAdjustRef.tab10 laws_FnAdjustRef.bits10 (fun HT_ HW_ => ?_)
                        generalize w21.drew = w22 at HO_10 HO155 BK147 HB hx156_0 hx156_1 hx156_2 hx156_3 hHeld ⊢
                        refine pure_ (i := 0) (N := some 46) (v := ?_) (a' := ?_) #[true, false, false, false, false, false, false, false, false, false] rfl rfl (any_of HT_.out (by kernel_rfl)) (fun _ _ _ h => h) (Or.inl ⟨by rfl, ?_⟩) ?_ ?_
                        rotate_left
                        · intro w'
                          go_simp
                          with_reducible rfl
                        rotate_left
                        · simp only [Act.put, List.setIfInBounds_toArray, List.set_cons_zero, List.set_cons_succ, i64_w, i32_w]
                          rfl
                        refine pure_ (i := 2) (N := some 48) (v := ?_) (a' := ?_) #[true, false, true, false, false, false, false, false, false, false] rfl rfl (any_of HT_.out (by kernel_rfl)) (fun _ _ _ h => h) (Or.inl ⟨by rfl, ?_⟩) ?_ ?_
                        rotate_left
                        · intro w'
                          go_simp
                          with_reducible rfl
                        rotate_left
                        · simp only [Act.put, List.setIfInBounds_toArray, List.set_cons_zero, List.set_cons_succ, i64_w, i32_w]
                          rfl
                        refine pure_ (i := 3) (N := some 49) (v := ?_) (a' := ?_) #[true, false, true, true, false, false, false, false, false, false] rfl rfl (any_of HT_.out (by kernel_rfl)) (fun _ _ _ h => h) (Or.inl ⟨by rfl, ?_⟩) ?_ ?_
                        rotate_left
                        · intro w'
                          go_simp
                          with_reducible rfl
                        rotate_left
                        · simp only [Act.put, List.setIfInBounds_toArray, List.set_cons_zero, List.set_cons_succ, i64_w, i32_w]
                          rfl
                        refine pure_ (i := 4) (N := some 50) (v := ?_) (a' := ?_) #[true, false, true, true, true, false, false, false, false, false] rfl rfl (any_of HT_.out (by kernel_rfl)) (fun _ _ _ h => h) (Or.inl ⟨by rfl, ?_⟩) ?_ ?_
                        rotate_left
                        · intro w'
                          go_simp
                          with_reducible rfl
                        rotate_left
                        · simp only [Act.put, List.setIfInBounds_toArray, List.set_cons_zero, List.set_cons_succ, i64_w, i32_w]
                          rfl
                        refine take_ (i := 1) (N := some 47) (v := ?_) (a' := ?_) #[true, true, true, true, true, false, false, false, false, false] rfl rfl (take_ofW HT_.out HW_.out (by kernel_rfl)) (fun _ _ _ h => h) (Or.inl ⟨by rfl, ?_⟩) hHeld ?_ ?_
                        rotate_left
                        · rintro w' ⟨s0, s1, s2, s3, s4, s5, s6⟩
                          go_simp
                          with_reducible rfl
                        rotate_left
                        · simp only [Act.put, List.setIfInBounds_toArray, List.set_cons_zero, List.set_cons_succ, i64_w, i32_w]
                          rfl
                        refine take_ (i := 5) (N := some 51) (v := ?_) (a' := ?_) #[true, true, true, true, true, true, false, false, false, false] rfl rfl (take_ofW HT_.out HW_.out (by kernel_rfl)) (fun _ _ _ h => h) (Or.inl ⟨by rfl, ?_⟩) hHeld ?_ ?_
                        rotate_left
                        · rintro w' ⟨s0, s1, s2, s3, s4, s5, s6⟩
                          go_simp
                          with_reducible rfl
                        rotate_left
                        · simp only [Act.put, List.setIfInBounds_toArray, List.set_cons_zero, List.set_cons_succ, i64_w, i32_w]
                          rfl
                        refine one_ (i := 6) (N := some 52) #[true, true, true, true, true, true, true, false, false, false] rfl rfl (one_of HT_.out (by kernel_rfl)) (by decide) (fun K hK => ?_)
                        refine goes_ Tryd.func25 (by kernel_rfl) rfl #[.agg #[.bool a1, .int .i64 t145, .int .i64 t146], .agg #[.int .i64 ((rd_T22 y153 x12_1).f0), .int .i64 ((rd_T22 y153 x12_1).f1), .int .i64 ((rd_T22 y153 x12_1).f2), .int .i64 ((rd_T22 y153 x12_1).f3)]] (by rfl) rfl rfl (by (try simp only [List.map_toArray, List.map_cons, List.map_nil]); first | done | rfl | (simp only [List.length_drop, List.length_take]; rfl)) ?_
                        with_reducible refine (spec_GridMove_Area.calls a1 t145 t146 ((rd_T22 y153 x12_1).f0) ((rd_T22 y153 x12_1).f1) ((rd_T22 y153 x12_1).f2) ((rd_T22 y153 x12_1).f3) t157 t158 t159 t160 _ A18.out).mono ?_
                        rintro e w24 ⟨rfl, hb⟩
                        have HS3_ := (hb.cell (World.block_lt_of_cell? _ _ (hHeld.2.2.2.1))).trans (hHeld.2.2.2.1)
                        have HS4_ := (hb.cell (World.block_lt_of_cell? _ _ (hHeld.2.2.2.2.1))).trans (hHeld.2.2.2.2.1)
                        have HS5_ := (hb.cell (World.block_lt_of_cell? _ _ (hHeld.2.2.2.2.2.1))).trans (hHeld.2.2.2.2.2.1)
                        have HS6_ := (hb.cell (World.block_lt_of_cell? _ _ (hHeld.2.2.2.2.2.2))).trans (hHeld.2.2.2.2.2.2)
                        refine ⟨_, rfl, ?_⟩
                        have n0_ := Aside0.mk (Kd.R_below (by (with_reducible repeat (first | apply Kd.R_alloc | apply Kd.R_drewN | apply Kd.R_drew)); exact HO_10.out) hb)
                        have n1_ := Aside0.mk (Kd.R_below (by (with_reducible repeat (first | apply Kd.R_alloc | apply Kd.R_drewN | apply Kd.R_drew)); exact HO155.out) hb)
                        have n2_ := Aside0.mk (blk_below (g := gb147) (o := .cells #[.bool a1, .int .i64 t145, .int .i64 t146] 46 (0, 0)) (by (with_reducible repeat (first | refine blk_drewN ?_ _ | refine blk_drew ?_ | refine blk_alloc ?_ _)); exact BK147.out) hb)
                        have n3_ := Aside0.mk (below_step (by repeat (first | (with_reducible first | exact HB.out | apply below_alloc | apply pw_below_drewN | apply below_drew1 | refine below_set ?_ GE147.out) | exact HB.out)) hb)
                        clear HO_10
                        clear HO155
                        clear BK147
                        clear HB
                        have HO_10 := n0_
                        have HO155 := n1_
                        have BK147 := n2_
                        have HB := n3_
                        clear n0_ n1_ n2_ n3_
                        (try clear hb)
                        (try clear hb2)
                        (try clear hk)
                        (try clear hi)
                        refine hK.out _ _ ⟨(blk_cell BK147.out 0).trans rfl, (blk_cell BK147.out 1).trans rfl, (blk_cell BK147.out 2).trans rfl, HS3_, HS4_, HS5_, HS6_⟩ (fun hHeld => ?_)
                        clear hK K
                        refine norm_ (a' := ?_) ?_ ?_
                        rotate_left
                        · show Act.put _ (some 52) _ = _
                          simp only [Act.put, List.setIfInBounds_toArray, List.set_cons_zero, List.set_cons_succ, i64_w, i32_w]
                          rfl
                        refine last_ (i := 7) (N := some 53) #[true, true, true, true, true, true, true, true, false, false] rfl rfl (one_of HT_.out (by kernel_rfl)) (by decide) (fun K hK => ?_)
                        refine value_ (w1 := ?_) (v := ?_) (by rfl) rfl ?_ ?_
                        rotate_left 2
                        · go_simp
                          constructor
                          · rfl
                          · rfl
                        refine hK.out _ _ ?_
                        clear hK K
                        refine norm_ (a' := ?_) ?_ ?_
                        rotate_left
                        · show Act.put _ (some 53) _ = _
                          simp only [Act.put, List.setIfInBounds_toArray, List.set_cons_zero, List.set_cons_succ, i64_w, i32_w]
                          rfl
                        refine last_ (i := 8) (N := some 54) #[true, true, true, true, true, true, true, true, true, false] rfl rfl (one_of HT_.out (by kernel_rfl)) (by decide) (fun K hK => ?_)
                        refine Kd.R_append_step k22 (w0 := w) w.heap.size (by rfl) (.tmp 46) (.tmp 53) 41 22 (.agg #[(.int .i64 0), (.int .i64 0), (.int .i64 0), (.int .i64 0)]) 32 rfl Tryd.underlying41 info22 rfl (by decide) (by omega) u10 x10_1 (⟨t157, t158, t159, t160⟩ : S22) [.int .i64 t157, .int .i64 t158, .int .i64 t159, .int .i64 t160] (fun k_ => some k_ ≠ (.slice (some ad156) y153.length co23 : Value).ownBlock) (fun _ => False) rfl rfl ?aP (fun _ hk => hk.elim) ?aF ?aO ?aB ?aS ?aL ?_
                        (case aP => exact k22_mkM _ _ _ (⟨t157, t158, t159, t160⟩ : S22))
                        (case aB => exact (by repeat (first | (with_reducible first | exact HB.out | apply below_alloc | apply pw_below_drewN | apply below_drew1 | refine below_set ?_ GE147.out) | exact HB.out)))
                        (case aF => exact (fun k_ hk => Kd.fresh' (Kd.R_lt (by (with_reducible repeat (first | apply Kd.R_alloc | apply Kd.R_drewN | apply Kd.R_drew)); exact HO155.out)) k_ hk))
                        (case aO => exact (by (with_reducible repeat (first | apply Kd.R_alloc | apply Kd.R_drewN | apply Kd.R_drew)); exact Kd.R_mono HO_10.out (fun _ hk => hk.2)))
                        (case aS => exact (below_size (by repeat (first | (with_reducible first | exact HB.out | apply below_alloc | apply pw_below_drewN | apply below_drew1 | refine below_set ?_ GE147.out) | exact HB.out))))
                        (case aL => have := LMc19.out; omega)
                        intro v162 w25 ho hb hg hat
                        rw [← Ny161.out] at ho
                        have n0_ := Aside0.mk (blk_grown (g := gb147) (o := .cells #[.bool a1, .int .i64 t145, .int .i64 t146] 46 (0, 0)) (by (with_reducible repeat (first | refine blk_drewN ?_ _ | refine blk_drew ?_ | refine blk_alloc ?_ _)); exact BK147.out) hg (Kd.R_ne HO_10.out BK147.out (by decide)))
                        have n1_ := Aside0.mk (Kd.R_after (ok := (fun _ => True)) (by (with_reducible repeat (first | apply Kd.R_alloc | apply Kd.R_drewN | apply Kd.R_drew)); exact Kd.R_mono HO155.out (fun _ hk => ⟨trivial, hk⟩)) hg hat)
                        have n2_ := Aside0.mk (hb)
                        have n3_ := Aside0.mk (ho)
                        clear BK147
                        clear HO155
                        clear HB
                        clear HO_10
                        have BK147 := n0_
                        have HO155 := n1_
                        have HB := n2_
                        have HO163 := n3_
                        clear n0_ n1_ n2_ n3_
                        clear ho hb hg hat
                        refine hK.out _ _ ?_
                        clear hK K
                        refine norm_ (a' := ?_) ?_ ?_
                        rotate_left
                        · show Act.put _ (some 54) _ = _
                          simp only [Act.put, List.setIfInBounds_toArray, List.set_cons_zero, List.set_cons_succ, i64_w, i32_w]
                          rfl
                        refine pure_ (i := 9) (N := some 10) (v := ?_) (a' := ?_) #[true, true, true, true, true, true, true, true, true, true] rfl rfl (any_of HT_.out (by kernel_rfl)) (fun _ _ _ h => h) (Or.inl ⟨by rfl, ?_⟩) ?_ ?_
                        rotate_left
                        · intro w'
                          go_simp
                          with_reducible rfl
                        rotate_left
                        · simp only [Act.put, List.setIfInBounds_toArray, List.set_cons_zero, List.set_cons_succ, i64_w, i32_w]
                          rfl
                        refine done_ (done_of HT_.out (by kernel_rfl)) ?_
                        try go_wp2
                        go_roundg kj9
                        case measure => have := HK1.out; have := HJ9.out; omega
                        case rel => exact ⟨(y153), (y161), (wrap64 (x12_1 + 1)), (by first | rfl | (simp; done) | (simp [*]; done)), H', ⟨by have := HK1.out; have := HJ9.out; omega⟩, ⟨by (with_reducible repeat (first | apply Kd.R_alloc | apply Kd.R_drewN | apply Kd.R_drew)); exact Kd.R_mono HO155.out (fun _ hk => hk.2)⟩, ⟨by (with_reducible repeat (first | apply Kd.R_alloc | apply Kd.R_drewN | apply Kd.R_drew)); exact HO163.out⟩, ⟨by (with_reducible repeat (first | refine blk_drewN ?_ _ | refine blk_drew ?_ | refine blk_alloc ?_ _)); exact BK147.out⟩, ⟨by repeat (first | (with_reducible first | exact HB.out | apply below_alloc | apply pw_below_drewN | apply below_drew1 | refine below_set ?_ GE147.out) | exact HB.out)⟩⟩
                      · rw [if_neg c19] at H
                        exact absurd H (by simp)
                    · rw [if_neg c17] at H
                      exact absurd H (by simp)
                  · rw [if_neg c16] at H
                    exact absurd H (by simp)
                · rw [if_neg c14] at H
                  exact absurd H (by simp)
              · rw [if_neg c13] at H
                exact absurd H (by simp)
            · replace c12 := Bool.eq_false_iff.mpr c12
              subst c12
              have H1 : (if (x9_1.length : Int) = 0 then ((Go.Proofs.YtfbenlenihlpbaaDoor.Given.laws_refLives.f).bind fun t164 => (some t164)) else ((spec_GridAreasText.f kj9 x9_1).bind fun t165 => ((Go.Proofs.YtfbenlenihlpbaaDoor.AdjB.impl_AdjustRef.f t165 a1 t145 t146).bind fun bt166 => ((spec_GridRead.f kj9 bt166.1).bind fun bt168 => (if bt166.2 = true then (if bt168.2 = true then ((spec_GridSame.f kj9 bt168.1 x10_1).bind fun t172 => (if t172 = true then ((Go.Proofs.YtfbenlenihlpbaaDoor.Given.laws_refLives.f).bind fun t173 => (some t173)) else (some false))) else (some false)) else (some false)))))) = some r := by rw [if_neg (show ¬ (false = true) by decide)] at H; exact H
              clear H
              have H := H1
              clear H1
              by_cases c26 : (x9_1.length : Int) = 0
              · rw [if_pos c26] at H
                have c26b0 : ((x9_1.length : Int) == 0) = true := beq_iff_eq.mpr c26
                have c26b1 : ((x9_1.length : Int) != 0) = false := bne_eq_false_iff_eq.mpr c26
                clear c26
                replace H := Option.bind_eq_some_iff.mp H
                obtain ⟨t164, A270, H⟩ := H
                replace H : (some t164) = some r := H
                have A27 := Aside0.mk A270
                clear A270
                obtain rfl := Option.some.inj H
                obtain ⟨Ao28, co28, eo28⟩ := Kd.R_slice HO_9.out
                subst eo28
                go_wp2_with (first | ((with_reducible refine gate_callee (f := 14) rfl ?_); refine goesL_ (some 58) rfl rfl Tryd.func14 (by kernel_rfl) rfl #[] rfl (by (try simp only [List.map_toArray, List.map_cons, List.map_nil]); first | done | rfl | (simp only [List.length_drop, List.length_take]; rfl)) ?_; (with_reducible refine (Go.Proofs.YtfbenlenihlpbaaDoor.Given.laws_refLives.calls  t164 _ A27.out).mono ?_); rintro e w29 ⟨rfl, hb⟩; refine ⟨_, rfl, ?_⟩; have n0_ := Aside0.mk (Kd.R_below (by (with_reducible repeat (first | apply Kd.R_alloc | apply Kd.R_drewN | apply Kd.R_drew)); exact HO_9.out) hb); have n1_ := Aside0.mk (Kd.R_below (by (with_reducible repeat (first | apply Kd.R_alloc | apply Kd.R_drewN | apply Kd.R_drew)); exact HO_10.out) hb); have n2_ := Aside0.mk (blk_below (g := gb147) (o := .cells #[.bool a1, .int .i64 t145, .int .i64 t146] 46 (0, 0)) (by (with_reducible repeat (first | refine blk_drewN ?_ _ | refine blk_drew ?_ | refine blk_alloc ?_ _)); exact BK147.out) hb); have n3_ := Aside0.mk (below_step (by repeat (first | (with_reducible first | exact HB.out | apply below_alloc | apply pw_below_drewN | apply below_drew1 | refine below_set ?_ GE147.out) | exact HB.out)) hb); clear HO_9; clear HO_10; clear BK147; clear HB; have HO_9 := n0_; have HO_10 := n1_; have BK147 := n2_; have HB := n3_; clear n0_ n1_ n2_ n3_; (try clear hb); (try clear hb2); (try clear hk); (try clear hi)))
                go_ret
                exact ⟨by first | rfl | (simp [errW_none, errW_some] <;> rfl) | (simp [*, errW_none, errW_some] <;> rfl), by repeat (first | (with_reducible first | exact HB.out | apply below_alloc | apply pw_below_drewN | apply below_drew1 | refine below_set ?_ GE147.out) | exact HB.out)⟩
              · rw [if_neg c26] at H
                have c26b0 : ((x9_1.length : Int) == 0) = false := beq_eq_false_iff_ne.mpr c26
                have c26b1 : ((x9_1.length : Int) != 0) = true := bne_iff_ne.mpr c26
                have c26b2 : ¬ (x9_1 = []) := fun h_ => c26 (by rw [h_]; rfl)
                replace H := Option.bind_eq_some_iff.mp H
                obtain ⟨t165, A300, H⟩ := H
                replace H : ((Go.Proofs.YtfbenlenihlpbaaDoor.AdjB.impl_AdjustRef.f t165 a1 t145 t146).bind fun bt166 => ((spec_GridRead.f kj9 bt166.1).bind fun bt168 => (if bt166.2 = true then (if bt168.2 = true then ((spec_GridSame.f kj9 bt168.1 x10_1).bind fun t172 => (if t172 = true then ((Go.Proofs.YtfbenlenihlpbaaDoor.Given.laws_refLives.f).bind fun t173 => (some t173)) else (some false))) else (some false)) else (some false)))) = some r := H
                have A30 := Aside0.mk A300
                clear A300
                replace H := Option.bind_eq_some_iff.mp H
                obtain ⟨⟨t166, t167⟩, A310, H⟩ := H
                replace H : ((spec_GridRead.f kj9 t166).bind fun bt168 => (if t167 = true then (if bt168.2 = true then ((spec_GridSame.f kj9 bt168.1 x10_1).bind fun t172 => (if t172 = true then ((Go.Proofs.YtfbenlenihlpbaaDoor.Given.laws_refLives.f).bind fun t173 => (some t173)) else (some false))) else (some false)) else (some false))) = some r := H
                have A31 := Aside0.mk A310
                clear A310
                replace H := Option.bind_eq_some_iff.mp H
                obtain ⟨⟨t168, t169⟩, A320, H⟩ := H
                replace H : (if t167 = true then (if t169 = true then ((spec_GridSame.f kj9 t168 x10_1).bind fun t172 => (if t172 = true then ((Go.Proofs.YtfbenlenihlpbaaDoor.Given.laws_refLives.f).bind fun t173 => (some t173)) else (some false))) else (some false)) else (some false)) = some r := H
                have A32 := Aside0.mk A320
                clear A320
                by_cases c33 : t167 = true
                · subst c33
                  have H1 : (if t169 = true then ((spec_GridSame.f kj9 t168 x10_1).bind fun t172 => (if t172 = true then ((Go.Proofs.YtfbenlenihlpbaaDoor.Given.laws_refLives.f).bind fun t173 => (some t173)) else (some false))) else (some false)) = some r := by rw [if_pos rfl] at H; exact H
                  clear H
                  have H := H1
                  clear H1
                  by_cases c34 : t169 = true
                  · subst c34
                    have H1 : ((spec_GridSame.f kj9 t168 x10_1).bind fun t172 => (if t172 = true then ((Go.Proofs.YtfbenlenihlpbaaDoor.Given.laws_refLives.f).bind fun t173 => (some t173)) else (some false))) = some r := by rw [if_pos rfl] at H; exact H
                    clear H
                    have H := H1
                    clear H1
                    replace H := Option.bind_eq_some_iff.mp H
                    obtain ⟨t172, A350, H⟩ := H
                    replace H : (if t172 = true then ((Go.Proofs.YtfbenlenihlpbaaDoor.Given.laws_refLives.f).bind fun t173 => (some t173)) else (some false)) = some r := H
                    have A35 := Aside0.mk A350
                    clear A350
                    by_cases c36 : t172 = true
                    · subst c36
                      have H1 : ((Go.Proofs.YtfbenlenihlpbaaDoor.Given.laws_refLives.f).bind fun t173 => (some t173)) = some r := by rw [if_pos rfl] at H; exact H
                      clear H
                      have H := H1
                      clear H1
                      replace H := Option.bind_eq_some_iff.mp H
                      obtain ⟨t173, A370, H⟩ := H
                      replace H : (some t173) = some r := H
                      have A37 := Aside0.mk A370
                      clear A370
                      obtain rfl := Option.some.inj H
                      obtain ⟨Ao38, co38, eo38⟩ := Kd.R_slice HO_9.out
                      subst eo38
                      go_wp2_with (first | ((with_reducible refine gate_callee (f := 27) rfl ?_); refine goesL_ (some 61) rfl rfl Tryd.func27 (by kernel_rfl) rfl #[.slice Ao38 x9_1.length co38] rfl (by (try simp only [List.map_toArray, List.map_cons, List.map_nil]); first | done | rfl | (simp only [List.length_drop, List.length_take]; rfl)) ?_; (with_reducible refine (spec_GridAreasText.calls kj9 _ _ x9_1 t165 _ ?side1 ?side2 A30.out).mono ?_); (case side1 => repeat (first | exact (Kd.R_reads' HO_9.out).2.2 | (with_reducible refine Kd.C_alloc ?_ _) | (with_reducible refine Kd.C_drewN ?_ _) | (with_reducible refine Kd.C_drew ?_))); (case side2 => exact (Kd.R_reads' HO_9.out).2.1); rintro e w39 ⟨rfl, hb⟩; refine ⟨_, rfl, ?_⟩; have n0_ := Aside0.mk (Kd.R_below (by (with_reducible repeat (first | apply Kd.R_alloc | apply Kd.R_drewN | apply Kd.R_drew)); exact HO_9.out) hb); have n1_ := Aside0.mk (Kd.R_below (by (with_reducible repeat (first | apply Kd.R_alloc | apply Kd.R_drewN | apply Kd.R_drew)); exact HO_10.out) hb); have n2_ := Aside0.mk (blk_below (g := gb147) (o := .cells #[.bool a1, .int .i64 t145, .int .i64 t146] 46 (0, 0)) (by (with_reducible repeat (first | refine blk_drewN ?_ _ | refine blk_drew ?_ | refine blk_alloc ?_ _)); exact BK147.out) hb); have n3_ := Aside0.mk (below_step (by repeat (first | (with_reducible first | exact HB.out | apply below_alloc | apply pw_below_drewN | apply below_drew1 | refine below_set ?_ GE147.out) | exact HB.out)) hb); clear HO_9; clear HO_10; clear BK147; clear HB; have HO_9 := n0_; have HO_10 := n1_; have BK147 := n2_; have HB := n3_; clear n0_ n1_ n2_ n3_; (try clear hb); (try clear hb2); (try clear hk); (try clear hi)) | ((with_reducible refine gate_callee (f := 26) rfl ?_); refine goesL_ (some 65) rfl rfl Tryd.func26 (by kernel_rfl) rfl #[.string t165, .bool a1, .int .i64 t145, .int .i64 t146] rfl (by (try simp only [List.map_toArray, List.map_cons, List.map_nil]); first | done | rfl | (simp only [List.length_drop, List.length_take]; rfl)) ?_; (with_reducible refine (Go.Proofs.YtfbenlenihlpbaaDoor.AdjB.impl_AdjustRef.calls t165 a1 t145 t146 t166 true _ A31.out).mono ?_); rintro e w40 ⟨rfl, hb⟩; refine ⟨_, rfl, ?_⟩; have n0_ := Aside0.mk (Kd.R_below (by (with_reducible repeat (first | apply Kd.R_alloc | apply Kd.R_drewN | apply Kd.R_drew)); exact HO_9.out) hb); have n1_ := Aside0.mk (Kd.R_below (by (with_reducible repeat (first | apply Kd.R_alloc | apply Kd.R_drewN | apply Kd.R_drew)); exact HO_10.out) hb); have n2_ := Aside0.mk (blk_below (g := gb147) (o := .cells #[.bool a1, .int .i64 t145, .int .i64 t146] 46 (0, 0)) (by (with_reducible repeat (first | refine blk_drewN ?_ _ | refine blk_drew ?_ | refine blk_alloc ?_ _)); exact BK147.out) hb); have n3_ := Aside0.mk (below_step (by repeat (first | (with_reducible first | exact HB.out | apply below_alloc | apply pw_below_drewN | apply below_drew1 | refine below_set ?_ GE147.out) | exact HB.out)) hb); clear HO_9; clear HO_10; clear BK147; clear HB; have HO_9 := n0_; have HO_10 := n1_; have BK147 := n2_; have HB := n3_; clear n0_ n1_ n2_ n3_; (try clear hb); (try clear hb2); (try clear hk); (try clear hi)) | ((with_reducible refine gate_callee (f := 24) rfl ?_); refine goesL_ (some 70) rfl rfl Tryd.func24 (by kernel_rfl) rfl #[.string t166] rfl (by (try simp only [List.map_toArray, List.map_cons, List.map_nil]); first | done | rfl | (simp only [List.length_drop, List.length_take]; rfl)) ?_; (with_reducible refine (spec_GridRead.calls kj9 t166 t168 true _ A32.out).mono ?_); rintro e w41 ⟨v170, rfl, ho0, hb⟩; refine ⟨_, rfl, ?_⟩; have n0_ := Aside0.mk (Kd.R_elder' (by (with_reducible repeat (first | apply Kd.R_alloc | apply Kd.R_drewN | apply Kd.R_drew)); exact HO_9.out) (Kd.R_base ho0) hb); have n1_ := Aside0.mk (Kd.R_elder' (by (with_reducible repeat (first | apply Kd.R_alloc | apply Kd.R_drewN | apply Kd.R_drew)); exact HO_10.out) (Kd.R_base ho0) hb); have n2_ := Aside0.mk (Kd.R_lower (Kd.R_new' (Kd.R_new' ho0 (Kd.R_lt (by (with_reducible repeat (first | apply Kd.R_alloc | apply Kd.R_drewN | apply Kd.R_drew)); exact HO_9.out))) (Kd.R_lt (by (with_reducible repeat (first | apply Kd.R_alloc | apply Kd.R_drewN | apply Kd.R_drew)); exact HO_10.out))) (below_size (by repeat (first | (with_reducible first | exact HB.out | apply below_alloc | apply pw_below_drewN | apply below_drew1 | refine below_set ?_ GE147.out) | exact HB.out)))); have n3_ := Aside0.mk (blk_below (g := gb147) (o := .cells #[.bool a1, .int .i64 t145, .int .i64 t146] 46 (0, 0)) (by (with_reducible repeat (first | refine blk_drewN ?_ _ | refine blk_drew ?_ | refine blk_alloc ?_ _)); exact BK147.out) hb); have n4_ := Aside0.mk (below_step (by repeat (first | (with_reducible first | exact HB.out | apply below_alloc | apply pw_below_drewN | apply below_drew1 | refine below_set ?_ GE147.out) | exact HB.out)) hb); clear HO_9; clear HO_10; clear BK147; clear HB; have HO_9 := n0_; have HO_10 := n1_; have HO171 := n2_; have BK147 := n3_; have HB := n4_; clear n0_ n1_ n2_ n3_ n4_; (try clear hb); (try clear hb2); (try clear hk); (try clear hi); (try clear ho0); obtain ⟨Ao42, co42, eo42⟩ := Kd.R_slice HO171.out; subst eo42; obtain ⟨Ao43, co43, eo43⟩ := Kd.R_slice HO_10.out; subst eo43) | (go_at_call 28; (with_reducible refine (spec_GridSame.calls kj9 _ _ t168 _ _ x10_1 true _ ?side1 ?side2 ?side3 ?side4 A35.out).mono ?_); (case side1 => repeat (first | exact (Kd.R_reads' HO171.out).2.2 | (with_reducible refine Kd.C_alloc ?_ _) | (with_reducible refine Kd.C_drewN ?_ _) | (with_reducible refine Kd.C_drew ?_))); (case side2 => exact (Kd.R_reads' HO171.out).2.1); (case side3 => repeat (first | exact (Kd.R_reads' HO_10.out).2.2 | (with_reducible refine Kd.C_alloc ?_ _) | (with_reducible refine Kd.C_drewN ?_ _) | (with_reducible refine Kd.C_drew ?_))); (case side4 => exact (Kd.R_reads' HO_10.out).2.1); rintro e w' ⟨rfl, ⟨nd, rfl⟩⟩) | (go_at_call 14; (with_reducible refine (Go.Proofs.YtfbenlenihlpbaaDoor.Given.laws_refLives.calls  t173 _ A37.out).mono ?_); rintro e w44 ⟨rfl, hb⟩; have n0_ := Aside0.mk (Kd.R_below (by (with_reducible repeat (first | apply Kd.R_alloc | apply Kd.R_drewN | apply Kd.R_drew)); exact HO_9.out) hb); have n1_ := Aside0.mk (Kd.R_below (by (with_reducible repeat (first | apply Kd.R_alloc | apply Kd.R_drewN | apply Kd.R_drew)); exact HO_10.out) hb); have n2_ := Aside0.mk (Kd.R_below (by (with_reducible repeat (first | apply Kd.R_alloc | apply Kd.R_drewN | apply Kd.R_drew)); exact HO171.out) hb); have n3_ := Aside0.mk (blk_below (g := gb147) (o := .cells #[.bool a1, .int .i64 t145, .int .i64 t146] 46 (0, 0)) (by (with_reducible repeat (first | refine blk_drewN ?_ _ | refine blk_drew ?_ | refine blk_alloc ?_ _)); exact BK147.out) hb); have n4_ := Aside0.mk (below_step (by repeat (first | (with_reducible first | exact HB.out | apply below_alloc | apply pw_below_drewN | apply below_drew1 | refine below_set ?_ GE147.out) | exact HB.out)) hb); clear HO_9; clear HO_10; clear HO171; clear BK147; clear HB; have HO_9 := n0_; have HO_10 := n1_; have HO171 := n2_; have BK147 := n3_; have HB := n4_; clear n0_ n1_ n2_ n3_ n4_; (try clear hb); (try clear hb2); (try clear hk); (try clear hi)))
                      go_ret
                      exact ⟨by first | rfl | (simp [errW_none, errW_some] <;> rfl) | (simp [*, errW_none, errW_some] <;> rfl), by repeat (first | (with_reducible first | exact HB.out | apply below_alloc | apply pw_below_drewN | apply below_drew1 | refine below_set ?_ GE147.out) | exact HB.out)⟩
                    · replace c36 := Bool.eq_false_iff.mpr c36
                      subst c36
                      have H1 : (some false) = some r := by rw [if_neg (show ¬ (false = true) by decide)] at H; exact H
                      clear H
                      have H := H1
                      clear H1
                      obtain rfl := Option.some.inj H
                      obtain ⟨Ao45, co45, eo45⟩ := Kd.R_slice HO_9.out
                      subst eo45
                      go_wp2_with (first | ((with_reducible refine gate_callee (f := 27) rfl ?_); refine goesL_ (some 61) rfl rfl Tryd.func27 (by kernel_rfl) rfl #[.slice Ao45 x9_1.length co45] rfl (by (try simp only [List.map_toArray, List.map_cons, List.map_nil]); first | done | rfl | (simp only [List.length_drop, List.length_take]; rfl)) ?_; (with_reducible refine (spec_GridAreasText.calls kj9 _ _ x9_1 t165 _ ?side1 ?side2 A30.out).mono ?_); (case side1 => repeat (first | exact (Kd.R_reads' HO_9.out).2.2 | (with_reducible refine Kd.C_alloc ?_ _) | (with_reducible refine Kd.C_drewN ?_ _) | (with_reducible refine Kd.C_drew ?_))); (case side2 => exact (Kd.R_reads' HO_9.out).2.1); rintro e w46 ⟨rfl, hb⟩; refine ⟨_, rfl, ?_⟩; have n0_ := Aside0.mk (Kd.R_below (by (with_reducible repeat (first | apply Kd.R_alloc | apply Kd.R_drewN | apply Kd.R_drew)); exact HO_9.out) hb); have n1_ := Aside0.mk (Kd.R_below (by (with_reducible repeat (first | apply Kd.R_alloc | apply Kd.R_drewN | apply Kd.R_drew)); exact HO_10.out) hb); have n2_ := Aside0.mk (blk_below (g := gb147) (o := .cells #[.bool a1, .int .i64 t145, .int .i64 t146] 46 (0, 0)) (by (with_reducible repeat (first | refine blk_drewN ?_ _ | refine blk_drew ?_ | refine blk_alloc ?_ _)); exact BK147.out) hb); have n3_ := Aside0.mk (below_step (by repeat (first | (with_reducible first | exact HB.out | apply below_alloc | apply pw_below_drewN | apply below_drew1 | refine below_set ?_ GE147.out) | exact HB.out)) hb); clear HO_9; clear HO_10; clear BK147; clear HB; have HO_9 := n0_; have HO_10 := n1_; have BK147 := n2_; have HB := n3_; clear n0_ n1_ n2_ n3_; (try clear hb); (try clear hb2); (try clear hk); (try clear hi)) | ((with_reducible refine gate_callee (f := 26) rfl ?_); refine goesL_ (some 65) rfl rfl Tryd.func26 (by kernel_rfl) rfl #[.string t165, .bool a1, .int .i64 t145, .int .i64 t146] rfl (by (try simp only [List.map_toArray, List.map_cons, List.map_nil]); first | done | rfl | (simp only [List.length_drop, List.length_take]; rfl)) ?_; (with_reducible refine (Go.Proofs.YtfbenlenihlpbaaDoor.AdjB.impl_AdjustRef.calls t165 a1 t145 t146 t166 true _ A31.out).mono ?_); rintro e w47 ⟨rfl, hb⟩; refine ⟨_, rfl, ?_⟩; have n0_ := Aside0.mk (Kd.R_below (by (with_reducible repeat (first | apply Kd.R_alloc | apply Kd.R_drewN | apply Kd.R_drew)); exact HO_9.out) hb); have n1_ := Aside0.mk (Kd.R_below (by (with_reducible repeat (first | apply Kd.R_alloc | apply Kd.R_drewN | apply Kd.R_drew)); exact HO_10.out) hb); have n2_ := Aside0.mk (blk_below (g := gb147) (o := .cells #[.bool a1, .int .i64 t145, .int .i64 t146] 46 (0, 0)) (by (with_reducible repeat (first | refine blk_drewN ?_ _ | refine blk_drew ?_ | refine blk_alloc ?_ _)); exact BK147.out) hb); have n3_ := Aside0.mk (below_step (by repeat (first | (with_reducible first | exact HB.out | apply below_alloc | apply pw_below_drewN | apply below_drew1 | refine below_set ?_ GE147.out) | exact HB.out)) hb); clear HO_9; clear HO_10; clear BK147; clear HB; have HO_9 := n0_; have HO_10 := n1_; have BK147 := n2_; have HB := n3_; clear n0_ n1_ n2_ n3_; (try clear hb); (try clear hb2); (try clear hk); (try clear hi)) | ((with_reducible refine gate_callee (f := 24) rfl ?_); refine goesL_ (some 70) rfl rfl Tryd.func24 (by kernel_rfl) rfl #[.string t166] rfl (by (try simp only [List.map_toArray, List.map_cons, List.map_nil]); first | done | rfl | (simp only [List.length_drop, List.length_take]; rfl)) ?_; (with_reducible refine (spec_GridRead.calls kj9 t166 t168 true _ A32.out).mono ?_); rintro e w48 ⟨v170, rfl, ho0, hb⟩; refine ⟨_, rfl, ?_⟩; have n0_ := Aside0.mk (Kd.R_elder' (by (with_reducible repeat (first | apply Kd.R_alloc | apply Kd.R_drewN | apply Kd.R_drew)); exact HO_9.out) (Kd.R_base ho0) hb); have n1_ := Aside0.mk (Kd.R_elder' (by (with_reducible repeat (first | apply Kd.R_alloc | apply Kd.R_drewN | apply Kd.R_drew)); exact HO_10.out) (Kd.R_base ho0) hb); have n2_ := Aside0.mk (Kd.R_lower (Kd.R_new' (Kd.R_new' ho0 (Kd.R_lt (by (with_reducible repeat (first | apply Kd.R_alloc | apply Kd.R_drewN | apply Kd.R_drew)); exact HO_9.out))) (Kd.R_lt (by (with_reducible repeat (first | apply Kd.R_alloc | apply Kd.R_drewN | apply Kd.R_drew)); exact HO_10.out))) (below_size (by repeat (first | (with_reducible first | exact HB.out | apply below_alloc | apply pw_below_drewN | apply below_drew1 | refine below_set ?_ GE147.out) | exact HB.out)))); have n3_ := Aside0.mk (blk_below (g := gb147) (o := .cells #[.bool a1, .int .i64 t145, .int .i64 t146] 46 (0, 0)) (by (with_reducible repeat (first | refine blk_drewN ?_ _ | refine blk_drew ?_ | refine blk_alloc ?_ _)); exact BK147.out) hb); have n4_ := Aside0.mk (below_step (by repeat (first | (with_reducible first | exact HB.out | apply below_alloc | apply pw_below_drewN | apply below_drew1 | refine below_set ?_ GE147.out) | exact HB.out)) hb); clear HO_9; clear HO_10; clear BK147; clear HB; have HO_9 := n0_; have HO_10 := n1_; have HO171 := n2_; have BK147 := n3_; have HB := n4_; clear n0_ n1_ n2_ n3_ n4_; (try clear hb); (try clear hb2); (try clear hk); (try clear hi); (try clear ho0); obtain ⟨Ao49, co49, eo49⟩ := Kd.R_slice HO171.out; subst eo49; obtain ⟨Ao50, co50, eo50⟩ := Kd.R_slice HO_10.out; subst eo50) | (go_at_call 28; (with_reducible refine (spec_GridSame.calls kj9 _ _ t168 _ _ x10_1 false _ ?side1 ?side2 ?side3 ?side4 A35.out).mono ?_); (case side1 => repeat (first | exact (Kd.R_reads' HO171.out).2.2 | (with_reducible refine Kd.C_alloc ?_ _) | (with_reducible refine Kd.C_drewN ?_ _) | (with_reducible refine Kd.C_drew ?_))); (case side2 => exact (Kd.R_reads' HO171.out).2.1); (case side3 => repeat (first | exact (Kd.R_reads' HO_10.out).2.2 | (with_reducible refine Kd.C_alloc ?_ _) | (with_reducible refine Kd.C_drewN ?_ _) | (with_reducible refine Kd.C_drew ?_))); (case side4 => exact (Kd.R_reads' HO_10.out).2.1); rintro e w' ⟨rfl, ⟨nd, rfl⟩⟩))
                      go_ret
                      exact ⟨by first | rfl | (simp [errW_none, errW_some] <;> rfl) | (simp [*, errW_none, errW_some] <;> rfl), by repeat (first | (with_reducible first | exact HB.out | apply below_alloc | apply pw_below_drewN | apply below_drew1 | refine below_set ?_ GE147.out) | exact HB.out)⟩
                  · replace c34 := Bool.eq_false_iff.mpr c34
                    subst c34
                    have H1 : (some false) = some r := by rw [if_neg (show ¬ (false = true) by decide)] at H; exact H
                    clear H
                    have H := H1
                    clear H1
                    obtain rfl := Option.some.inj H
                    obtain ⟨Ao51, co51, eo51⟩ := Kd.R_slice HO_9.out
                    subst eo51
                    go_wp2_with (first | ((with_reducible refine gate_callee (f := 27) rfl ?_); refine goesL_ (some 61) rfl rfl Tryd.func27 (by kernel_rfl) rfl #[.slice Ao51 x9_1.length co51] rfl (by (try simp only [List.map_toArray, List.map_cons, List.map_nil]); first | done | rfl | (simp only [List.length_drop, List.length_take]; rfl)) ?_; (with_reducible refine (spec_GridAreasText.calls kj9 _ _ x9_1 t165 _ ?side1 ?side2 A30.out).mono ?_); (case side1 => repeat (first | exact (Kd.R_reads' HO_9.out).2.2 | (with_reducible refine Kd.C_alloc ?_ _) | (with_reducible refine Kd.C_drewN ?_ _) | (with_reducible refine Kd.C_drew ?_))); (case side2 => exact (Kd.R_reads' HO_9.out).2.1); rintro e w52 ⟨rfl, hb⟩; refine ⟨_, rfl, ?_⟩; have n0_ := Aside0.mk (Kd.R_below (by (with_reducible repeat (first | apply Kd.R_alloc | apply Kd.R_drewN | apply Kd.R_drew)); exact HO_9.out) hb); have n1_ := Aside0.mk (Kd.R_below (by (with_reducible repeat (first | apply Kd.R_alloc | apply Kd.R_drewN | apply Kd.R_drew)); exact HO_10.out) hb); have n2_ := Aside0.mk (blk_below (g := gb147) (o := .cells #[.bool a1, .int .i64 t145, .int .i64 t146] 46 (0, 0)) (by (with_reducible repeat (first | refine blk_drewN ?_ _ | refine blk_drew ?_ | refine blk_alloc ?_ _)); exact BK147.out) hb); have n3_ := Aside0.mk (below_step (by repeat (first | (with_reducible first | exact HB.out | apply below_alloc | apply pw_below_drewN | apply below_drew1 | refine below_set ?_ GE147.out) | exact HB.out)) hb); clear HO_9; clear HO_10; clear BK147; clear HB; have HO_9 := n0_; have HO_10 := n1_; have BK147 := n2_; have HB := n3_; clear n0_ n1_ n2_ n3_; (try clear hb); (try clear hb2); (try clear hk); (try clear hi)) | ((with_reducible refine gate_callee (f := 26) rfl ?_); refine goesL_ (some 65) rfl rfl Tryd.func26 (by kernel_rfl) rfl #[.string t165, .bool a1, .int .i64 t145, .int .i64 t146] rfl (by (try simp only [List.map_toArray, List.map_cons, List.map_nil]); first | done | rfl | (simp only [List.length_drop, List.length_take]; rfl)) ?_; (with_reducible refine (Go.Proofs.YtfbenlenihlpbaaDoor.AdjB.impl_AdjustRef.calls t165 a1 t145 t146 t166 true _ A31.out).mono ?_); rintro e w53 ⟨rfl, hb⟩; refine ⟨_, rfl, ?_⟩; have n0_ := Aside0.mk (Kd.R_below (by (with_reducible repeat (first | apply Kd.R_alloc | apply Kd.R_drewN | apply Kd.R_drew)); exact HO_9.out) hb); have n1_ := Aside0.mk (Kd.R_below (by (with_reducible repeat (first | apply Kd.R_alloc | apply Kd.R_drewN | apply Kd.R_drew)); exact HO_10.out) hb); have n2_ := Aside0.mk (blk_below (g := gb147) (o := .cells #[.bool a1, .int .i64 t145, .int .i64 t146] 46 (0, 0)) (by (with_reducible repeat (first | refine blk_drewN ?_ _ | refine blk_drew ?_ | refine blk_alloc ?_ _)); exact BK147.out) hb); have n3_ := Aside0.mk (below_step (by repeat (first | (with_reducible first | exact HB.out | apply below_alloc | apply pw_below_drewN | apply below_drew1 | refine below_set ?_ GE147.out) | exact HB.out)) hb); clear HO_9; clear HO_10; clear BK147; clear HB; have HO_9 := n0_; have HO_10 := n1_; have BK147 := n2_; have HB := n3_; clear n0_ n1_ n2_ n3_; (try clear hb); (try clear hb2); (try clear hk); (try clear hi)) | ((with_reducible refine gate_callee (f := 24) rfl ?_); refine goesL_ (some 70) rfl rfl Tryd.func24 (by kernel_rfl) rfl #[.string t166] rfl (by (try simp only [List.map_toArray, List.map_cons, List.map_nil]); first | done | rfl | (simp only [List.length_drop, List.length_take]; rfl)) ?_; (with_reducible refine (spec_GridRead.calls kj9 t166 t168 false _ A32.out).mono ?_); rintro e w54 ⟨v170, rfl, ho0, hb⟩; refine ⟨_, rfl, ?_⟩; have n0_ := Aside0.mk (Kd.R_elder' (by (with_reducible repeat (first | apply Kd.R_alloc | apply Kd.R_drewN | apply Kd.R_drew)); exact HO_9.out) (Kd.R_base ho0) hb); have n1_ := Aside0.mk (Kd.R_elder' (by (with_reducible repeat (first | apply Kd.R_alloc | apply Kd.R_drewN | apply Kd.R_drew)); exact HO_10.out) (Kd.R_base ho0) hb); have n2_ := Aside0.mk (Kd.R_lower (Kd.R_new' (Kd.R_new' ho0 (Kd.R_lt (by (with_reducible repeat (first | apply Kd.R_alloc | apply Kd.R_drewN | apply Kd.R_drew)); exact HO_9.out))) (Kd.R_lt (by (with_reducible repeat (first | apply Kd.R_alloc | apply Kd.R_drewN | apply Kd.R_drew)); exact HO_10.out))) (below_size (by repeat (first | (with_reducible first | exact HB.out | apply below_alloc | apply pw_below_drewN | apply below_drew1 | refine below_set ?_ GE147.out) | exact HB.out)))); have n3_ := Aside0.mk (blk_below (g := gb147) (o := .cells #[.bool a1, .int .i64 t145, .int .i64 t146] 46 (0, 0)) (by (with_reducible repeat (first | refine blk_drewN ?_ _ | refine blk_drew ?_ | refine blk_alloc ?_ _)); exact BK147.out) hb); have n4_ := Aside0.mk (below_step (by repeat (first | (with_reducible first | exact HB.out | apply below_alloc | apply pw_below_drewN | apply below_drew1 | refine below_set ?_ GE147.out) | exact HB.out)) hb); clear HO_9; clear HO_10; clear BK147; clear HB; have HO_9 := n0_; have HO_10 := n1_; have HO171 := n2_; have BK147 := n3_; have HB := n4_; clear n0_ n1_ n2_ n3_ n4_; (try clear hb); (try clear hb2); (try clear hk); (try clear hi); (try clear ho0)))
                    go_ret
                    exact ⟨by first | rfl | (simp [errW_none, errW_some] <;> rfl) | (simp [*, errW_none, errW_some] <;> rfl), by repeat (first | (with_reducible first | exact HB.out | apply below_alloc | apply pw_below_drewN | apply below_drew1 | refine below_set ?_ GE147.out) | exact HB.out)⟩
                · replace c33 := Bool.eq_false_iff.mpr c33
                  subst c33
                  have H1 : (some false) = some r := by rw [if_neg (show ¬ (false = true) by decide)] at H; exact H
                  clear H
                  have H := H1
                  clear H1
                  obtain rfl := Option.some.inj H
                  obtain ⟨Ao55, co55, eo55⟩ := Kd.R_slice HO_9.out
                  subst eo55
                  go_wp2_with (first | ((with_reducible refine gate_callee (f := 27) rfl ?_); refine goesL_ (some 61) rfl rfl Tryd.func27 (by kernel_rfl) rfl #[.slice Ao55 x9_1.length co55] rfl (by (try simp only [List.map_toArray, List.map_cons, List.map_nil]); first | done | rfl | (simp only [List.length_drop, List.length_take]; rfl)) ?_; (with_reducible refine (spec_GridAreasText.calls kj9 _ _ x9_1 t165 _ ?side1 ?side2 A30.out).mono ?_); (case side1 => repeat (first | exact (Kd.R_reads' HO_9.out).2.2 | (with_reducible refine Kd.C_alloc ?_ _) | (with_reducible refine Kd.C_drewN ?_ _) | (with_reducible refine Kd.C_drew ?_))); (case side2 => exact (Kd.R_reads' HO_9.out).2.1); rintro e w56 ⟨rfl, hb⟩; refine ⟨_, rfl, ?_⟩; have n0_ := Aside0.mk (Kd.R_below (by (with_reducible repeat (first | apply Kd.R_alloc | apply Kd.R_drewN | apply Kd.R_drew)); exact HO_9.out) hb); have n1_ := Aside0.mk (Kd.R_below (by (with_reducible repeat (first | apply Kd.R_alloc | apply Kd.R_drewN | apply Kd.R_drew)); exact HO_10.out) hb); have n2_ := Aside0.mk (blk_below (g := gb147) (o := .cells #[.bool a1, .int .i64 t145, .int .i64 t146] 46 (0, 0)) (by (with_reducible repeat (first | refine blk_drewN ?_ _ | refine blk_drew ?_ | refine blk_alloc ?_ _)); exact BK147.out) hb); have n3_ := Aside0.mk (below_step (by repeat (first | (with_reducible first | exact HB.out | apply below_alloc | apply pw_below_drewN | apply below_drew1 | refine below_set ?_ GE147.out) | exact HB.out)) hb); clear HO_9; clear HO_10; clear BK147; clear HB; have HO_9 := n0_; have HO_10 := n1_; have BK147 := n2_; have HB := n3_; clear n0_ n1_ n2_ n3_; (try clear hb); (try clear hb2); (try clear hk); (try clear hi)) | ((with_reducible refine gate_callee (f := 26) rfl ?_); refine goesL_ (some 65) rfl rfl Tryd.func26 (by kernel_rfl) rfl #[.string t165, .bool a1, .int .i64 t145, .int .i64 t146] rfl (by (try simp only [List.map_toArray, List.map_cons, List.map_nil]); first | done | rfl | (simp only [List.length_drop, List.length_take]; rfl)) ?_; (with_reducible refine (Go.Proofs.YtfbenlenihlpbaaDoor.AdjB.impl_AdjustRef.calls t165 a1 t145 t146 t166 false _ A31.out).mono ?_); rintro e w57 ⟨rfl, hb⟩; refine ⟨_, rfl, ?_⟩; have n0_ := Aside0.mk (Kd.R_below (by (with_reducible repeat (first | apply Kd.R_alloc | apply Kd.R_drewN | apply Kd.R_drew)); exact HO_9.out) hb); have n1_ := Aside0.mk (Kd.R_below (by (with_reducible repeat (first | apply Kd.R_alloc | apply Kd.R_drewN | apply Kd.R_drew)); exact HO_10.out) hb); have n2_ := Aside0.mk (blk_below (g := gb147) (o := .cells #[.bool a1, .int .i64 t145, .int .i64 t146] 46 (0, 0)) (by (with_reducible repeat (first | refine blk_drewN ?_ _ | refine blk_drew ?_ | refine blk_alloc ?_ _)); exact BK147.out) hb); have n3_ := Aside0.mk (below_step (by repeat (first | (with_reducible first | exact HB.out | apply below_alloc | apply pw_below_drewN | apply below_drew1 | refine below_set ?_ GE147.out) | exact HB.out)) hb); clear HO_9; clear HO_10; clear BK147; clear HB; have HO_9 := n0_; have HO_10 := n1_; have BK147 := n2_; have HB := n3_; clear n0_ n1_ n2_ n3_; (try clear hb); (try clear hb2); (try clear hk); (try clear hi)) | ((with_reducible refine gate_callee (f := 24) rfl ?_); refine goesL_ (some 70) rfl rfl Tryd.func24 (by kernel_rfl) rfl #[.string t166] rfl (by (try simp only [List.map_toArray, List.map_cons, List.map_nil]); first | done | rfl | (simp only [List.length_drop, List.length_take]; rfl)) ?_; (with_reducible refine (spec_GridRead.calls kj9 t166 t168 t169 _ A32.out).mono ?_); rintro e w58 ⟨v170, rfl, ho0, hb⟩; refine ⟨_, rfl, ?_⟩; have n0_ := Aside0.mk (Kd.R_elder' (by (with_reducible repeat (first | apply Kd.R_alloc | apply Kd.R_drewN | apply Kd.R_drew)); exact HO_9.out) (Kd.R_base ho0) hb); have n1_ := Aside0.mk (Kd.R_elder' (by (with_reducible repeat (first | apply Kd.R_alloc | apply Kd.R_drewN | apply Kd.R_drew)); exact HO_10.out) (Kd.R_base ho0) hb); have n2_ := Aside0.mk (Kd.R_lower (Kd.R_new' (Kd.R_new' ho0 (Kd.R_lt (by (with_reducible repeat (first | apply Kd.R_alloc | apply Kd.R_drewN | apply Kd.R_drew)); exact HO_9.out))) (Kd.R_lt (by (with_reducible repeat (first | apply Kd.R_alloc | apply Kd.R_drewN | apply Kd.R_drew)); exact HO_10.out))) (below_size (by repeat (first | (with_reducible first | exact HB.out | apply below_alloc | apply pw_below_drewN | apply below_drew1 | refine below_set ?_ GE147.out) | exact HB.out)))); have n3_ := Aside0.mk (blk_below (g := gb147) (o := .cells #[.bool a1, .int .i64 t145, .int .i64 t146] 46 (0, 0)) (by (with_reducible repeat (first | refine blk_drewN ?_ _ | refine blk_drew ?_ | refine blk_alloc ?_ _)); exact BK147.out) hb); have n4_ := Aside0.mk (below_step (by repeat (first | (with_reducible first | exact HB.out | apply below_alloc | apply pw_below_drewN | apply below_drew1 | refine below_set ?_ GE147.out) | exact HB.out)) hb); clear HO_9; clear HO_10; clear BK147; clear HB; have HO_9 := n0_; have HO_10 := n1_; have HO171 := n2_; have BK147 := n3_; have HB := n4_; clear n0_ n1_ n2_ n3_ n4_; (try clear hb); (try clear hb2); (try clear hk); (try clear hi); (try clear ho0)))
                  go_ret
                  exact ⟨by first | rfl | (simp [errW_none, errW_some] <;> rfl) | (simp [*, errW_none, errW_some] <;> rfl), by repeat (first | (with_reducible first | exact HB.out | apply below_alloc | apply pw_below_drewN | apply below_drew1 | refine below_set ?_ GE147.out) | exact HB.out)⟩

end Go.Proofs.YtfbenlenihlpbaaDoor.PAl
end
