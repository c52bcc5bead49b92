/- Contracts of functions that the text "Ac" uses: the call ends in what the plain Lean function says, where that says something. Written by a program of this session. No conditions. -/
import Derived.Test.YtfbenlenihlpbaaDoorProg
import Derived.Below
import Derived.Deep.Draws
import Derived.Deep.AppendLies
import Derived.Maps.AppendAt
import Derived.OwnWalk
import Derived.Laws.BytesArg
import Derived.Laws.MakeOwn
import Derived.Laws.OwnMore
import Derived.Deep.OwnRows
import Derived.Tactics
import Derived.Lib.ConvBytes
import Derived.Laws.Slices
import Derived.WalkKit
import Derived.KernelRfl
import Derived.RowKit3
import Derived.Deep.LoopGhost
import Derived.Deep.QuietTactic
import Derived.BigQuiet
import Derived.WideLaws
import Derived.Deep.DeepCutAuto
import Derived.Deep.CutBlock
import Derived.Deep.RegionHeld3
import Derived.Laws.Rows
import Derived.Lib.AppendStr
import Derived.ArgAppend
import Derived.Laws.IdiomCopy
import Derived.OrdersHeld
import Derived.Laws.BitsLemmas
import Derived.RowKit
import Derived.Test.YtfbenlenihlpbaaDoorGiven
import Derived.Test.YtfbenlenihlpbaaDoorPFnColsx1
import Derived.Test.YtfbenlenihlpbaaDoorWWords
import Derived.Test.YtfbenlenihlpbaaDoorWLast
import Derived.Test.YtfbenlenihlpbaaDoorWTab
import Derived.Test.YtfbenlenihlpbaaDoorWFour
import Derived.Test.YtfbenlenihlpbaaDoorWQPut
import Derived.Test.YtfbenlenihlpbaaDoorWApart
import Derived.Test.YtfbenlenihlpbaaDoorWArr
import Derived.Test.YtfbenlenihlpbaaDoorWZeros
import Derived.Test.YtfbenlenihlpbaaDoorWFoot
import Derived.Test.YtfbenlenihlpbaaDoorWKept
import Derived.Test.YtfbenlenihlpbaaDoorWShare
import Derived.Test.YtfbenlenihlpbaaDoorWN
import Derived.Test.YtfbenlenihlpbaaDoorWFootNe
import Derived.Test.YtfbenlenihlpbaaDoorWAt
import Derived.Test.YtfbenlenihlpbaaDoorWEqStruct
import Derived.Test.YtfbenlenihlpbaaDoorWRepsOne
import Derived.Test.YtfbenlenihlpbaaDoorWInv
import Derived.Test.YtfbenlenihlpbaaDoorWInvWords
import Derived.Test.YtfbenlenihlpbaaDoorWGuard
import Derived.Test.YtfbenlenihlpbaaDoorWNEv
import Derived.Test.YtfbenlenihlpbaaDoorWMore
section
namespace Go.Proofs.YtfbenlenihlpbaaDoor.PAc
open Go.RowKit Go.Proofs.YtfbenlenihlpbaaDoorW.PrintWords Go.Proofs.YtfbenlenihlpbaaDoorW.PrintLast Go.Proofs.YtfbenlenihlpbaaDoorW.PrintMore
attribute [local go_sem] max2_int min2_int max_two min_two max_three min_three max_four min_four   -- for this text's walks alone
set_option linter.unusedVariables false
set_option linter.unusedSimpArgs false



def errW : Option Int → Value
  | none => .nilIface
  | some c => .iface 0 (.int .i64 c)
theorem errW_none : errW none = .nilIface := rfl
theorem errW_some (c : Int) : errW (some c) = .iface 0 (.int .i64 c) := rfl

theorem info5 : (Tryd.prog.info? 5).map (fun i => (i.zero, i.size, i.bytes)) = some (some (.int .u8 0), 1, 1) := by kernel_rfl
-- the values' own types

end Go.Proofs.YtfbenlenihlpbaaDoor.PAc
end

section
namespace Go.Proofs.YtfbenlenihlpbaaDoor.PAc
open Go.RowKit Go.Proofs.YtfbenlenihlpbaaDoorW.PrintWords Go.Proofs.YtfbenlenihlpbaaDoorW.PrintLast Go.Proofs.YtfbenlenihlpbaaDoorW.PrintMore
attribute [local go_sem] max2_int min2_int max_two min_two max_three min_three max_four min_four   -- for this text's walks alone
set_option linter.unusedVariables false
set_option linter.unusedSimpArgs false

/-! ### excelize_zzColumnName: function 104 -/
mutual
def excelize_zzColumnName.l0 : Nat → Int → Int → Int → Option (ByteArray)
  | 0, _, _, _ => none
  | k + 1, x0, x3, x4 => if x4 > 0 then (excelize_zzColumnName.l0 k x0 (wrap64 (x3 + 1)) (wrap64 (Int.tdiv (wrap64 (x4 - 1)) 26))) else (if 0 ≤ x3 then (if (x3 : Int).toNat ≤ 281474976710656 then (excelize_zzColumnName.l1 k x0 x3 (List.replicate (x3 : Int).toNat 0)) else (none)) else (none))
def excelize_zzColumnName.l1 : Nat → Int → Int → List Int → Option (ByteArray)
  | 0, _, _, _ => none
  | k + 1, x0, x3, x5 => if x0 > 0 then (if 0 ≤ (wrap64 (x3 - 1)) then (if (wrap64 (x3 - 1)) < (x5.length : Int) then (excelize_zzColumnName.l1 k (wrap64 (Int.tdiv (wrap64 (x0 - 1)) 26)) (wrap64 (x3 - 1)) (x5.set ((wrap64 (x3 - 1)) : Int).toNat ((wrap64 ((Int.tmod (wrap64 (x0 - 1)) 26) + 65)) % 256))) else (none)) else (none)) else (some (strOfNums x5))
end
def excelize_zzColumnName.f (k : Nat) (a0 : Int) : Option (ByteArray) := excelize_zzColumnName.l0 k a0 0 a0
theorem excelize_zzColumnName.mono_l : ∀ k, (∀ y0 y1 y2, LeO (excelize_zzColumnName.l0 k y0 y1 y2) (excelize_zzColumnName.l0 (k + 1) y0 y1 y2)) ∧ (∀ y0 y1 y2, LeO (excelize_zzColumnName.l1 k y0 y1 y2) (excelize_zzColumnName.l1 (k + 1) y0 y1 y2))
  | 0 => ⟨fun _ _ _ r h => by simp [excelize_zzColumnName.l0] at h, fun _ _ _ r h => by simp [excelize_zzColumnName.l1] at h⟩
  | k + 1 => by
    obtain ⟨ih0, ih1⟩ := excelize_zzColumnName.mono_l k
    refine ⟨?_, ?_⟩
    · intro y0 y1 y2
      unfold excelize_zzColumnName.l0
      repeat' first
      | (with_reducible exact ih0 _ _ _)
      | (with_reducible exact ih1 _ _ _)
      | (with_reducible exact LeO.refl _)
      | (with_reducible exact LeO.none _)
      | (with_reducible refine LeO.ite ?_ ?_)
      | (with_reducible refine LeO.bind ?_ (fun _ => ?_))
      | exact ih0 _ _ _
      | exact ih1 _ _ _
      | exact LeO.none _
      | refine LeO.ite ?_ ?_
      | refine LeO.bind ?_ (fun _ => ?_)
    · intro y0 y1 y2
      unfold excelize_zzColumnName.l1
      repeat' first
      | (with_reducible exact ih0 _ _ _)
      | (with_reducible exact ih1 _ _ _)
      | (with_reducible exact LeO.refl _)
      | (with_reducible exact LeO.none _)
      | (with_reducible refine LeO.ite ?_ ?_)
      | (with_reducible refine LeO.bind ?_ (fun _ => ?_))
      | exact ih0 _ _ _
      | exact ih1 _ _ _
      | exact LeO.none _
      | refine LeO.ite ?_ ?_
      | refine LeO.bind ?_ (fun _ => ?_)
theorem excelize_zzColumnName.mono : ∀ a0 k, LeO (excelize_zzColumnName.f k a0) (excelize_zzColumnName.f (k + 1) a0) := by
  intro a0 k
  obtain ⟨ih0, ih1⟩ := excelize_zzColumnName.mono_l k
  unfold excelize_zzColumnName.f
  repeat' first
      | (with_reducible exact ih0 _ _ _)
      | (with_reducible exact ih1 _ _ _)
      | (with_reducible exact LeO.refl _)
      | (with_reducible exact LeO.none _)
      | (with_reducible refine LeO.ite ?_ ?_)
      | (with_reducible refine LeO.bind ?_ (fun _ => ?_))
      | exact ih0 _ _ _
      | exact ih1 _ _ _
      | exact LeO.none _
      | refine LeO.ite ?_ ?_
      | refine LeO.bind ?_ (fun _ => ?_)
set_option maxHeartbeats 8000000 in
set_option maxRecDepth 100000 in
theorem excelize_zzColumnName.calls (k : Nat) (a0 : Int) (r : ByteArray) (w : World) (h : excelize_zzColumnName.f k a0 = some r) :
    Calls Tryd.prog 104 #[.int .i64 a0] w fun e w' => e = .returned (.string r) ∧ Below w.heap.size w w' := by
  have HB := Aside0.mk (Below.refl w.heap.size w)
  have H : (excelize_zzColumnName.l0 k a0 0 a0) = some r := h
  clear h
  have H' := Aside0.mk H
  clear H
  go_enter Tryd.func104, Tryd.ntmps104
  go_wp2
  go_loopg [3, 4] k (fun kq v3 v4 w' => ∃ (x3_1 : Int) (x4_1 : Int), v3 = .int .i64 x3_1 ∧ v4 = .int .i64 x4_1 ∧ Aside0 (excelize_zzColumnName.l0 kq a0 x3_1 x4_1 = some r) ∧ Aside0 (kq ≤ k) ∧ Aside0 (Below w.heap.size w w'))
  case atStart => exact ⟨(0), (a0), (by first | rfl | (simp; done) | (simp [*]; done)), (by first | rfl | (simp; done) | (simp [*]; done)), H', ⟨Nat.le_refl _⟩, ⟨by repeat (first | (with_reducible first | exact HB.out | apply below_alloc | apply pw_below_drewN | apply below_drew1) | exact HB.out)⟩⟩
  case round =>
    clear H'
    try clear c1
    obtain ⟨x3_1, x4_1, rfl, rfl, HA, HK1, HB⟩ := hrel
    cases gk with
    | zero => exact absurd HA.out (by simp [excelize_zzColumnName.l0])
    | succ k1 =>
      have H := HA.out
      clear HA
      simp only [excelize_zzColumnName.l0] at H
      by_cases c2 : x4_1 > 0
      · rw [if_pos c2] at H
        have c2b0 : decide (0 < x4_1) = true := decide_eq_true c2
        clear c2
        have H' := Aside0.mk H
        clear H
        go_wp2
        go_roundg k1
        case measure => have := HK1.out; omega
        case rel => exact ⟨(wrap64 (x3_1 + 1)), (wrap64 (Int.tdiv (wrap64 (x4_1 - 1)) 26)), (by first | rfl | (simp; done) | (simp [*]; done)), (by first | rfl | (simp; done) | (simp [*]; done)), H', ⟨by have := HK1.out; omega⟩, ⟨by repeat (first | (with_reducible first | exact HB.out | apply below_alloc | apply pw_below_drewN | apply below_drew1) | exact HB.out)⟩⟩
      · rw [if_neg c2] at H
        have c2b0 : decide (0 < x4_1) = false := decide_eq_false c2
        clear c2
        by_cases c3 : 0 ≤ x3_1
        · rw [if_pos c3] at H
          have c3b0 := eq_true c3
          have c3b1 : decide (0 ≤ x3_1) = true := decide_eq_true c3
          clear c3
          by_cases c4 : (x3_1 : Int).toNat ≤ 281474976710656
          · rw [if_pos c4] at H
            have c4b0 := eq_true c4
            have c4b1 : decide ((x3_1 : Int).toNat ≤ 281474976710656) = true := decide_eq_true c4
            clear c4
            obtain ⟨y102, hy102⟩ : ∃ y_ : List Int, y_ = (List.replicate (x3_1 : Int).toNat 0) := ⟨_, rfl⟩
            replace H : (excelize_zzColumnName.l1 k1 a0 x3_1 y102) = some r := by first | (rw [hy102]; with_reducible exact H) | (have H2_ := (Option.bind_some _ _).symm.trans H; rw [hy102]; with_reducible exact H2_) | (have H2_ := (Option.bind_some _ _).symm.trans H; with_reducible exact H2_) | with_reducible exact H | (rw [hy102]; exact H) | exact H
            have Ny102 := Aside0.mk hy102
            clear hy102
            have H' := Aside0.mk H
            clear H
            go_wp2_with (first | ((with_reducible refine gate_dst (N := 15) rfl ?_); refine Kd.R_make (Kd.int .u8) _ 5 rfl (N := 15) rfl 65 _ _ rfl x3_1 rfl rfl Tryd.underlying65 (.int .u8 0) 1 info5 rfl (by decide) (by omega) 0 (ok := fun _ => True) (okp := fun _ => True) rfl (fun _ hk => hk) trivial (of_decide_eq_true (by first | (with_reducible assumption) | assumption)) (Nat.le_trans (Nat.mul_le_mul_right _ (of_decide_eq_true (by first | (with_reducible assumption) | assumption) : x3_1.toNat ≤ 281474976710656)) (by omega)) (Below.refl _ _) (Nat.le_refl _) ?_; intro v103 w5 ho6 hb hg_ hnew_; clear hg_ hnew_; (first | rw [← Ny102.out] at ho6 | (simp only [Int.reduceToNat] at ho6; rw [← Ny102.out] at ho6)); have n0_ := Aside0.mk (Kd.R_lower ho6 (below_size (by repeat (first | (with_reducible first | exact HB.out | apply below_alloc | apply pw_below_drewN | apply below_drew1) | exact HB.out)))); have n1_ := Aside0.mk (below_step (by repeat (first | (with_reducible first | exact HB.out | apply below_alloc | apply pw_below_drewN | apply below_drew1) | exact HB.out)) hb); clear HB; have HO104 := n0_; have HB := n1_; clear n0_ n1_; clear hb ho6))
            go_loopg [0, 3] k1 (fun kq v0 v3 w' => ∃ (x0_2 : Int) (x3_2 : Int) (x5_2 : List Int), v0 = .int .i64 x0_2 ∧ v3 = .int .i64 x3_2 ∧ Aside0 (excelize_zzColumnName.l1 kq x0_2 x3_2 x5_2 = some r) ∧ Aside0 (kq ≤ k1) ∧ Aside0 (Kd.R (Kd.int .u8) 5 w' w.heap.size (fun _ => True) v103 x5_2) ∧ Aside0 (Below w.heap.size w w'))
            case atStart => exact ⟨(a0), (x3_1), (y102), (by first | rfl | (simp; done) | (simp [*]; done)), (by first | rfl | (simp; done) | (simp [*]; done)), H', ⟨Nat.le_refl _⟩, ⟨by (with_reducible repeat (first | apply Kd.R_alloc | apply Kd.R_drewN | apply Kd.R_drew)); exact HO104.out⟩, ⟨by repeat (first | (with_reducible first | exact HB.out | apply below_alloc | apply pw_below_drewN | apply below_drew1) | exact HB.out)⟩⟩
            case round =>
              clear H'
              try clear c1
              try clear c2
              try clear c2b0
              try clear p2
              try clear c3
              try clear c3b0
              try clear c3b1
              try clear c4
              try clear c4b0
              try clear c4b1
              try clear p6
              obtain ⟨x0_2, x3_2, x5_2, rfl, rfl, HA, HK2, HO_5, HB⟩ := hrel
              cases gk with
              | zero => exact absurd HA.out (by simp [excelize_zzColumnName.l1])
              | succ k2 =>
                have H := HA.out
                clear HA
                simp only [excelize_zzColumnName.l1] at H
                by_cases c7 : x0_2 > 0
                · rw [if_pos c7] at H
                  have c7b0 : decide (0 < x0_2) = true := decide_eq_true c7
                  clear c7
                  obtain ⟨ji8, hji8⟩ : ∃ j_ : Int, (wrap64 (x3_2 - 1)) = j_ := ⟨_, rfl⟩
                  replace H : (if 0 ≤ (ji8) then (if (ji8) < (x5_2.length : Int) then (excelize_zzColumnName.l1 k2 (wrap64 (Int.tdiv (wrap64 (x0_2 - 1)) 26)) ji8 (x5_2.set ((ji8) : Int).toNat ((wrap64 ((Int.tmod (wrap64 (x0_2 - 1)) 26) + 65)) % 256))) else (none)) else (none)) = some r := by first | (rw [hji8] at H; exact H) | (simp only [hji8] at H ⊢; exact H)
                  have hji8w : (IntKind.i64.wrap (x3_2 - 1)) = ji8 := (i64_w _).trans hji8
                  by_cases c9 : 0 ≤ (ji8)
                  · rw [if_pos c9] at H
                    have c9b0 : decide (0 ≤ (ji8)) = true := decide_eq_true c9
                    clear c9
                    by_cases c10 : (ji8) < (x5_2.length : Int)
                    · rw [if_pos c10] at H
                      have c10b0 : decide ((ji8) < (x5_2.length : Int)) = true := decide_eq_true c10
                      clear c10
                      obtain ⟨y105, hy105⟩ : ∃ y_ : List Int, y_ = (x5_2.set ((ji8) : Int).toNat ((wrap64 ((Int.tmod (wrap64 (x0_2 - 1)) 26) + 65)) % 256)) := ⟨_, rfl⟩
                      replace H : (excelize_zzColumnName.l1 k2 (wrap64 (Int.tdiv (wrap64 (x0_2 - 1)) 26)) ji8 y105) = some r := by first | (rw [hy105]; with_reducible exact H) | (have H2_ := (Option.bind_some _ _).symm.trans H; rw [hy105]; with_reducible exact H2_) | (have H2_ := (Option.bind_some _ _).symm.trans H; with_reducible exact H2_) | with_reducible exact H | (rw [hy105]; exact H) | exact H
                      have Ny105 := Aside0.mk hy105
                      clear hy105
                      have H' := Aside0.mk H
                      clear H
                      have p11 : 0 ≤ ((ji8) : Int) := of_decide_eq_true (by first | (with_reducible assumption) | assumption)
                      have q11 : ((ji8) : Int) < ((x5_2.length : Int) : Int) := of_decide_eq_true (by first | (with_reducible assumption) | assumption)
                      obtain ⟨go11, co11, eo11, gb11, gl11, cl11, HG11⟩ := Kd.R_form HO_5.out (by omega)
                      (first | cases eo11 | (injection eo11 with ea_ en_ ec_; (first | subst ea_ | (injection ea_ with ea_; subst ea_)); subst ec_; clear en_))
                      have GB11 := Aside0.mk gb11
                      have GG11 := Aside0.mk HG11
                      clear gb11 gl11 HG11
                      obtain ⟨hx11_0, hf11_0⟩ := Kd.R_celln 0 HO_5.out ((ji8) : Int) p11 q11
                      replace p11 := eq_true p11
                      replace q11 := eq_true q11
                      have HP12 := Kd.R_putg HO_5.out ((ji8) : Int) ((wrap64 ((Int.tmod (wrap64 (x0_2 - 1)) 26) + 65)) % 256)
                      go_wp2_with (first | ((with_reducible refine gate_store (t := 5) (p := 27) rfl ?_); refine store_event (t := 5) (p := 27) (v := ?vo_w13) (w1 := (wr.setCell ⟨go11, ((ji8) : Int).toNat, none⟩ (.int .u8 ((wrap64 ((Int.tmod (wrap64 (x0_2 - 1)) 26) + 65)) % 256)))) ?hg ?ho ?hn ?hr ?_; (case ho => rfl); (case hg => rfl); (case hn => rfl); (case hr => first | (go_simp; done) | (go_simp; rfl)); intro w13 hw; have hg : wr.grownBy w13 (some go11) := (by rw [hw]; exact HP12.2); have hp_ : Kd.R (Kd.int .u8) 5 w13 w.heap.size (fun _ => True) (.slice (some ⟨go11, 0, none⟩) x5_2.length co11) y105 := (by rw [hw, Ny105.out]; exact HP12.1); clear HP12; have n0_ := Aside0.mk (hp_); have n1_ := Aside0.mk ((by rw [hw]; exact below_set (HB.out) GB11.out : Below w.heap.size w w13)); clear HO_5; clear HB; have HO_5 := n0_; have HB := n1_; clear n0_ n1_; clear hg hw hp_))
                      go_roundg k2
                      case measure => have := HK1.out; have := HK2.out; omega
                      case rel => exact ⟨(wrap64 (Int.tdiv (wrap64 (x0_2 - 1)) 26)), (ji8), (y105), (by first | rfl | (simp; done) | (simp [*]; done)), (by first | rfl | (simp; done) | (simp only [← hji8] <;> (first | rfl | simp)) | (simp [*]; done)), H', ⟨by have := HK1.out; have := HK2.out; omega⟩, ⟨by (with_reducible repeat (first | apply Kd.R_alloc | apply Kd.R_drewN | apply Kd.R_drew)); exact HO_5.out⟩, ⟨by repeat (first | (with_reducible first | exact HB.out | apply below_alloc | apply pw_below_drewN | apply below_drew1) | exact HB.out)⟩⟩
                    · rw [if_neg c10] at H
                      exact absurd H (by simp)
                  · rw [if_neg c9] at H
                    exact absurd H (by simp)
                · rw [if_neg c7] at H
                  have c7b0 : decide (0 < x0_2) = false := decide_eq_false c7
                  clear c7
                  obtain rfl := Option.some.inj H
                  have hcv14 := own_string (P := Tryd.prog) Tryd.underlying65 Tryd.underlying5 Tryd.underlying9 (Kd.own_of_R HO_5.out)
                  go_wp2
                  go_ret
                  exact ⟨by first | rfl | (simp [errW_none, errW_some] <;> rfl) | (simp [*, errW_none, errW_some] <;> rfl), by repeat (first | (with_reducible first | exact HB.out | apply below_alloc | apply pw_below_drewN | apply below_drew1) | exact HB.out)⟩
          · rw [if_neg c4] at H
            exact absurd H (by simp)
        · rw [if_neg c3] at H
          exact absurd H (by simp)

/-! ### excelize_ColumnNumberToName: function 89 -/
def excelize_ColumnNumberToName.f (k : Nat) (a0 : Int) : Option (ByteArray × Option Int) := if a0 < 1 then (none) else (if a0 > 16384 then (none) else ((excelize_zzColumnName.f k a0).bind fun t106 => (some (t106, none))))
theorem excelize_ColumnNumberToName.mono : ∀ a0 k, LeO (excelize_ColumnNumberToName.f k a0) (excelize_ColumnNumberToName.f (k + 1) a0) := by
  intro a0 k
  unfold excelize_ColumnNumberToName.f
  repeat' first
      | (with_reducible exact excelize_zzColumnName.mono _ _)
      | (with_reducible exact LeO.refl _)
      | (with_reducible exact LeO.none _)
      | (with_reducible refine LeO.ite ?_ ?_)
      | (with_reducible refine LeO.bind ?_ (fun _ => ?_))
      | exact excelize_zzColumnName.mono _ _
      | exact LeO.none _
      | refine LeO.ite ?_ ?_
      | refine LeO.bind ?_ (fun _ => ?_)
set_option maxHeartbeats 8000000 in
set_option maxRecDepth 100000 in
theorem excelize_ColumnNumberToName.calls (k : Nat) (a0 : Int) (r1 : ByteArray) (r2 : Option Int) (w : World) (h : excelize_ColumnNumberToName.f k a0 = some (r1, r2)) :
    Calls Tryd.prog 89 #[.int .i64 a0] w fun e w' => e = .returned (.tuple #[.string r1, errW r2]) ∧ Below w.heap.size w w' := by
  have HB := Aside0.mk (Below.refl w.heap.size w)
  have H : (if a0 < 1 then (none) else (if a0 > 16384 then (none) else ((excelize_zzColumnName.f k a0).bind fun t106 => (some (t106, none))))) = some (r1, r2) := h
  clear h
  by_cases c2 : a0 < 1
  · rw [if_pos c2] at H
    exact absurd H (by simp)
  · rw [if_neg c2] at H
    have c2b0 : decide (a0 < 1) = false := decide_eq_false c2
    clear c2
    by_cases c3 : a0 > 16384
    · rw [if_pos c3] at H
      exact absurd H (by simp)
    · rw [if_neg c3] at H
      have c3b0 : decide (16384 < a0) = false := decide_eq_false c3
      clear c3
      replace H := Option.bind_eq_some_iff.mp H
      obtain ⟨t106, A40, H⟩ := H
      replace H : (some (t106, none)) = some (r1, r2) := H
      have A4 := Aside0.mk A40
      clear A40
      simp only [Option.some.injEq, Prod.mk.injEq] at H
      obtain ⟨rfl, rfl⟩ := H
      go_enter Tryd.func89, Tryd.ntmps89
      go_wp2_with (first | (go_at_call 104; (with_reducible refine (excelize_zzColumnName.calls k a0 t106 _ A4.out).mono ?_); rintro e w5 ⟨rfl, hb⟩; have n0_ := Aside0.mk (below_step (by repeat (first | (with_reducible first | exact HB.out | apply below_alloc | apply pw_below_drewN | apply below_drew1) | exact HB.out)) hb); clear HB; have HB := n0_; clear n0_; (try clear hb); (try clear hb2); (try clear hk); (try clear hi)))
      repeat (go_quiet (first | (go_at_call 104; (with_reducible refine (excelize_zzColumnName.calls k a0 t106 _ A4.out).mono ?_); rintro e w5 ⟨rfl, hb⟩; have n0_ := Aside0.mk (below_step (by repeat (first | (with_reducible first | exact HB.out | apply below_alloc | apply pw_below_drewN | apply below_drew1) | exact HB.out)) hb); clear HB; have HB := n0_; clear n0_; (try clear hb); (try clear hb2); (try clear hk); (try clear hi))); try go_wp2_with (first | (go_at_call 104; (with_reducible refine (excelize_zzColumnName.calls k a0 t106 _ A4.out).mono ?_); rintro e w5 ⟨rfl, hb⟩; have n0_ := Aside0.mk (below_step (by repeat (first | (with_reducible first | exact HB.out | apply below_alloc | apply pw_below_drewN | apply below_drew1) | exact HB.out)) hb); clear HB; have HB := n0_; clear n0_; (try clear hb); (try clear hb2); (try clear hk); (try clear hi))))
      go_ret2
      exact ⟨by first | rfl | (simp [errW_none, errW_some] <;> rfl) | (simp [*, errW_none, errW_some] <;> rfl), by repeat (first | (with_reducible first | exact HB.out | apply below_alloc | apply pw_below_drewN | apply below_drew1) | exact HB.out)⟩

/-! ### excelize_CoordinatesToCellName: function 71 -/
mutual
def excelize_CoordinatesToCellName.j0 : Nat → Int → Int → List Bool → Bool → Option (ByteArray × Option Int)
  | 0, _, _, _, _ => none
  | k + 1, x0, x1, x2, x17 => if x17 = true then (none) else (if x1 > 1048576 then (none) else ((excelize_ColumnNumberToName.f k x0).bind fun bt107 => (if bt107.2.isNone = true then (excelize_CoordinatesToCellName.l0 k x1 bt107.1 x2 (x2.length : Int) 0) else (some ((⟨#[]⟩ : ByteArray), some (bt107.2.getD 0))))))
def excelize_CoordinatesToCellName.l0 : Nat → Int → ByteArray → List Bool → Int → Int → Option (ByteArray × Option Int)
  | 0, _, _, _, _, _ => none
  | k + 1, x1, x8, x32, x33, x34 => if x34 < x33 then (if 0 ≤ x34 then (if x34 < (x32.length : Int) then (if rdOf false x32 x34 = true then (none) else (excelize_CoordinatesToCellName.l0 k x1 x8 x32 x33 (wrap64 (x34 + 1)))) else (none)) else (none)) else ((Go.Proofs.YtfbenlenihlpbaaDoor.Given.strconv_Itoa.f x1).bind fun t111 => (if x8.size + t111.size ≤ 9223372036854775807 then (some (x8 ++ t111, none)) else (none)))
end
def excelize_CoordinatesToCellName.f (k : Nat) (a0 : Int) (a1 : Int) (l2 : List Bool) : Option (ByteArray × Option Int) := if a0 < 1 then (excelize_CoordinatesToCellName.j0 k a0 a1 l2 true) else (excelize_CoordinatesToCellName.j0 k a0 a1 l2 (decide (a1 < 1)))
theorem excelize_CoordinatesToCellName.mono_l : ∀ k, (∀ y0 y1 y2 y3, LeO (excelize_CoordinatesToCellName.j0 k y0 y1 y2 y3) (excelize_CoordinatesToCellName.j0 (k + 1) y0 y1 y2 y3)) ∧ (∀ y0 y1 y2 y3 y4, LeO (excelize_CoordinatesToCellName.l0 k y0 y1 y2 y3 y4) (excelize_CoordinatesToCellName.l0 (k + 1) y0 y1 y2 y3 y4))
  | 0 => ⟨fun _ _ _ _ r h => by simp [excelize_CoordinatesToCellName.j0] at h, fun _ _ _ _ _ r h => by simp [excelize_CoordinatesToCellName.l0] at h⟩
  | k + 1 => by
    obtain ⟨ih0, ih1⟩ := excelize_CoordinatesToCellName.mono_l k
    refine ⟨?_, ?_⟩
    · intro y0 y1 y2 y3
      unfold excelize_CoordinatesToCellName.j0
      repeat' first
      | (with_reducible exact ih0 _ _ _ _)
      | (with_reducible exact ih1 _ _ _ _ _)
      | (with_reducible exact excelize_ColumnNumberToName.mono _ _)
      | (with_reducible exact LeO.refl _)
      | (with_reducible exact LeO.none _)
      | (with_reducible refine LeO.ite ?_ ?_)
      | (with_reducible refine LeO.bind ?_ (fun _ => ?_))
      | exact ih0 _ _ _ _
      | exact ih1 _ _ _ _ _
      | exact excelize_ColumnNumberToName.mono _ _
      | exact LeO.none _
      | refine LeO.ite ?_ ?_
      | refine LeO.bind ?_ (fun _ => ?_)
    · intro y0 y1 y2 y3 y4
      unfold excelize_CoordinatesToCellName.l0
      repeat' first
      | (with_reducible exact ih0 _ _ _ _)
      | (with_reducible exact ih1 _ _ _ _ _)
      | (with_reducible exact excelize_ColumnNumberToName.mono _ _)
      | (with_reducible exact LeO.refl _)
      | (with_reducible exact LeO.none _)
      | (with_reducible refine LeO.ite ?_ ?_)
      | (with_reducible refine LeO.bind ?_ (fun _ => ?_))
      | exact ih0 _ _ _ _
      | exact ih1 _ _ _ _ _
      | exact excelize_ColumnNumberToName.mono _ _
      | exact LeO.none _
      | refine LeO.ite ?_ ?_
      | refine LeO.bind ?_ (fun _ => ?_)
theorem excelize_CoordinatesToCellName.mono : ∀ a0 a1 a2 k, LeO (excelize_CoordinatesToCellName.f k a0 a1 a2) (excelize_CoordinatesToCellName.f (k + 1) a0 a1 a2) := by
  intro a0 a1 a2 k
  obtain ⟨ih0, ih1⟩ := excelize_CoordinatesToCellName.mono_l k
  unfold excelize_CoordinatesToCellName.f
  repeat' first
      | (with_reducible exact ih0 _ _ _ _)
      | (with_reducible exact ih1 _ _ _ _ _)
      | (with_reducible exact excelize_ColumnNumberToName.mono _ _)
      | (with_reducible exact LeO.refl _)
      | (with_reducible exact LeO.none _)
      | (with_reducible refine LeO.ite ?_ ?_)
      | (with_reducible refine LeO.bind ?_ (fun _ => ?_))
      | exact ih0 _ _ _ _
      | exact ih1 _ _ _ _ _
      | exact excelize_ColumnNumberToName.mono _ _
      | exact LeO.none _
      | refine LeO.ite ?_ ?_
      | refine LeO.bind ?_ (fun _ => ?_)
set_option maxHeartbeats 8000000 in
set_option maxRecDepth 100000 in
theorem excelize_CoordinatesToCellName.calls (k : Nat) (a0 : Int) (a1 : Int) (A2 : Option Addr) (c2 : Nat) (l2 : List Bool) (r1 : ByteArray) (r2 : Option Int) (w : World) (hr2 : Kd.C Kd.bool w A2 l2.length l2) (hc2 : l2.length ≤ c2) (h : excelize_CoordinatesToCellName.f k a0 a1 l2 = some (r1, r2)) :
    Calls Tryd.prog 71 #[.int .i64 a0, .int .i64 a1, .slice A2 l2.length c2] w fun e w' => e = .returned (.tuple #[.string r1, errW r2]) ∧ Below w.heap.size w w' := by
  have hu74 := Tryd.underlying74
  have HR2 := Aside0.mk hr2
  have HC2 := Aside0.mk hc2
  clear hr2 hc2
  have HB := Aside0.mk (Below.refl w.heap.size w)
  have H : (if a0 < 1 then (excelize_CoordinatesToCellName.j0 k a0 a1 l2 true) else (excelize_CoordinatesToCellName.j0 k a0 a1 l2 (decide (a1 < 1)))) = some (r1, r2) := h
  clear h
  have HC4 := Aside0.mk H
  clear H
  go_enter Tryd.func71, Tryd.ntmps71
  go_upto_region 1 with (fail)
  repeat (go_quiet (fail); go_upto_region 1 with (fail))
  go_cut [17] (fun v17 wc => ∃ (kq : Nat) (x17_3 : Bool), v17 = .bool x17_3 ∧ Aside0 (excelize_CoordinatesToCellName.j0 kq a0 a1 l2 x17_3 = some (r1, r2)) ∧ Aside0 (kq ≤ k) ∧ Aside0 (Below w.heap.size w wc))
  case first =>
    have H := HC4.out
    clear HC4
    by_cases c5 : a0 < 1
    · rw [if_pos c5] at H
      have c5b0 : decide (a0 < 1) = true := decide_eq_true c5
      clear c5
      (first | rw [c5b0] | (simp only [i64_w, i32_w]; rw [c5b0]) | skip)
      have H' := Aside0.mk H
      clear H
      go_wp2
      repeat (go_quiet (fail); try go_wp2)
      go_meet
      case rel => exact ⟨_, (true), (by first | rfl | (simp; done) | (simp [*]; done)), H', ⟨by first | omega | exact Nat.le_refl _⟩, ⟨by repeat (first | (with_reducible first | exact HB.out | apply below_alloc | apply pw_below_drewN | apply below_drew1) | exact HB.out)⟩⟩
    · rw [if_neg c5] at H
      have c5b0 : decide (a0 < 1) = false := decide_eq_false c5
      clear c5
      (first | rw [c5b0] | (simp only [i64_w, i32_w]; rw [c5b0]) | skip)
      have H' := Aside0.mk H
      clear H
      go_wp2
      repeat (go_quiet (fail); try go_wp2)
      go_meet
      case rel => exact ⟨_, (decide (a1 < 1)), (by first | rfl | (simp; done) | (simp [*]; done)), H', ⟨by first | omega | exact Nat.le_refl _⟩, ⟨by repeat (first | (with_reducible first | exact HB.out | apply below_alloc | apply pw_below_drewN | apply below_drew1) | exact HB.out)⟩⟩
  case rest =>
    clear HC4
    try clear c2
    try clear p2
    try clear c5
    try clear c5b0
    obtain ⟨kq, x17_3, rfl, HA, HJ3, HB⟩ := hcut
    cases kq with
    | zero => exact absurd HA.out (by simp [excelize_CoordinatesToCellName.j0])
    | succ kj3 =>
      have H := HA.out
      clear HA
      simp only [excelize_CoordinatesToCellName.j0] at H
      by_cases c6 : x17_3 = true
      · subst c6
        have H1 : (none) = some (r1, r2) := by rw [if_pos rfl] at H; exact H
        clear H
        have H := H1
        clear H1
        exact absurd H (by simp)
      · replace c6 := Bool.eq_false_iff.mpr c6
        subst c6
        have H1 : (if a1 > 1048576 then (none) else ((excelize_ColumnNumberToName.f kj3 a0).bind fun bt107 => (if bt107.2.isNone = true then (excelize_CoordinatesToCellName.l0 kj3 a1 bt107.1 l2 (l2.length : Int) 0) else (some ((⟨#[]⟩ : ByteArray), some (bt107.2.getD 0)))))) = some (r1, r2) := by rw [if_neg (show ¬ (false = true) by decide)] at H; exact H
        clear H
        have H := H1
        clear H1
        by_cases c7 : a1 > 1048576
        · rw [if_pos c7] at H
          exact absurd H (by simp)
        · rw [if_neg c7] at H
          have c7b0 : decide (1048576 < a1) = false := decide_eq_false c7
          clear c7
          replace H := Option.bind_eq_some_iff.mp H
          obtain ⟨⟨t107, t108⟩, A80, H⟩ := H
          replace H : (if t108.isNone = true then (excelize_CoordinatesToCellName.l0 kj3 a1 t107 l2 (l2.length : Int) 0) else (some ((⟨#[]⟩ : ByteArray), some (t108.getD 0)))) = some (r1, r2) := H
          have A8 := Aside0.mk A80
          clear A80
          rcases t108 with _ | q109
          · have H1 : (excelize_CoordinatesToCellName.l0 kj3 a1 t107 l2 (l2.length : Int) 0) = some (r1, r2) := by rw [if_pos (show (none : Option Int).isNone = true by rfl)] at H; exact H
            clear H
            have H := H1
            clear H1
            try simp only [errW_none, errW_some]
            have H' := Aside0.mk H
            clear H
            go_wp2_with (first | (go_at_call 89; (with_reducible refine (excelize_ColumnNumberToName.calls kj3 a0 t107 none _ A8.out).mono ?_); rintro e w9 ⟨rfl, hb⟩; have n0_ := Aside0.mk (below_step (by repeat (first | (with_reducible first | exact HB.out | apply below_alloc | apply pw_below_drewN | apply below_drew1) | exact HB.out)) hb); clear HB; have HB := n0_; clear n0_; (try clear hb); (try clear hb2); (try clear hk); (try clear hi); (try simp only [errW_none, errW_some])))
            repeat (go_quiet (first | (go_at_call 89; (with_reducible refine (excelize_ColumnNumberToName.calls kj3 a0 t107 none _ A8.out).mono ?_); rintro e w9 ⟨rfl, hb⟩; have n0_ := Aside0.mk (below_step (by repeat (first | (with_reducible first | exact HB.out | apply below_alloc | apply pw_below_drewN | apply below_drew1) | exact HB.out)) hb); clear HB; have HB := n0_; clear n0_; (try clear hb); (try clear hb2); (try clear hk); (try clear hi); (try simp only [errW_none, errW_some]))); try go_wp2_with (first | (go_at_call 89; (with_reducible refine (excelize_ColumnNumberToName.calls kj3 a0 t107 none _ A8.out).mono ?_); rintro e w9 ⟨rfl, hb⟩; have n0_ := Aside0.mk (below_step (by repeat (first | (with_reducible first | exact HB.out | apply below_alloc | apply pw_below_drewN | apply below_drew1) | exact HB.out)) hb); clear HB; have HB := n0_; clear n0_; (try clear hb); (try clear hb2); (try clear hk); (try clear hi); (try simp only [errW_none, errW_some]))))
            go_loopg [34] kj3 (fun kq v34 w' => ∃ (x34_2 : Int), v34 = .int .i64 x34_2 ∧ Aside0 (excelize_CoordinatesToCellName.l0 kq a1 t107 l2 (l2.length : Int) x34_2 = some (r1, r2)) ∧ Aside0 (kq ≤ kj3) ∧ Aside0 (Below w.heap.size w w'))
            case atStart => exact ⟨(0), (by first | rfl | (simp; done) | (simp [*]; done)), H', ⟨Nat.le_refl _⟩, ⟨by repeat (first | (with_reducible first | exact HB.out | apply below_alloc | apply pw_below_drewN | apply below_drew1) | exact HB.out)⟩⟩
            case round =>
              clear H'
              try clear q1
              try clear c2
              try clear p2
              try clear c5
              try clear c5b0
              try clear c6
              try clear c7
              try clear c7b0
              try clear p2
              try clear q109
              obtain ⟨x34_2, rfl, HA, HK2, HB⟩ := hrel
              cases gk with
              | zero => exact absurd HA.out (by simp [excelize_CoordinatesToCellName.l0])
              | succ k2 =>
                have H := HA.out
                clear HA
                simp only [excelize_CoordinatesToCellName.l0] at H
                by_cases c10 : x34_2 < (l2.length : Int)
                · rw [if_pos c10] at H
                  have c10b0 : decide (x34_2 < (l2.length : Int)) = true := decide_eq_true c10
                  clear c10
                  by_cases c11 : 0 ≤ x34_2
                  · rw [if_pos c11] at H
                    have c11b0 : decide (0 ≤ x34_2) = true := decide_eq_true c11
                    clear c11
                    by_cases c12 : x34_2 < (l2.length : Int)
                    · rw [if_pos c12] at H
                      have c12b0 : decide (x34_2 < (l2.length : Int)) = true := decide_eq_true c12
                      clear c12
                      obtain ⟨bq13, hbq13⟩ : ∃ b_ : Bool, b_ = (rdOf false l2 x34_2) := ⟨_, rfl⟩
                      replace H : (if bq13 = true then (none) else (excelize_CoordinatesToCellName.l0 k2 a1 t107 l2 (l2.length : Int) (wrap64 (x34_2 + 1)))) = some (r1, r2) := by rw [← hbq13] at H; exact H
                      have Nbq13 := Aside0.mk hbq13
                      clear hbq13
                      by_cases c14 : bq13 = true
                      · subst c14
                        have H1 : (none) = some (r1, r2) := by rw [if_pos rfl] at H; exact H
                        clear H
                        have H := H1
                        clear H1
                        exact absurd H (by simp)
                      · replace c14 := Bool.eq_false_iff.mpr c14
                        subst c14
                        have H1 : (excelize_CoordinatesToCellName.l0 k2 a1 t107 l2 (l2.length : Int) (wrap64 (x34_2 + 1))) = some (r1, r2) := by rw [if_neg (show ¬ (false = true) by decide)] at H; exact H
                        clear H
                        have H := H1
                        clear H1
                        have H' := Aside0.mk H
                        clear H
                        have p110 : 0 ≤ (x34_2 : Int) := of_decide_eq_true (by first | (with_reducible assumption) | assumption)
                        have q110 : x34_2 < (l2.length : Int) := of_decide_eq_true (by first | (with_reducible assumption) | assumption)
                        obtain ⟨ad110, e110, hx110_0⟩ := Kd.at_bool HR2.out x34_2 p110 q110
                        (try rw [← Nbq13.out] at hx110_0)
                        cases e110
                        replace hx110_0 := (HB.out.cell (World.block_lt_of_cell? w _ hx110_0)).trans hx110_0
                        replace p110 := eq_true p110
                        replace q110 := eq_true q110
                        go_wp2
                        repeat (go_quiet (fail); try go_wp2)
                        go_roundg k2
                        case measure => have := HJ3.out; have := HK2.out; omega
                        case rel => exact ⟨(wrap64 (x34_2 + 1)), (by first | rfl | (simp; done) | (simp [*]; done)), H', ⟨by have := HJ3.out; have := HK2.out; omega⟩, ⟨by repeat (first | (with_reducible first | exact HB.out | apply below_alloc | apply pw_below_drewN | apply below_drew1) | exact HB.out)⟩⟩
                    · rw [if_neg c12] at H
                      exact absurd H (by simp)
                  · rw [if_neg c11] at H
                    exact absurd H (by simp)
                · rw [if_neg c10] at H
                  have c10b0 : decide (x34_2 < (l2.length : Int)) = false := decide_eq_false c10
                  clear c10
                  replace H := Option.bind_eq_some_iff.mp H
                  obtain ⟨t111, A150, H⟩ := H
                  replace H : (if t107.size + t111.size ≤ 9223372036854775807 then (some (t107 ++ t111, none)) else (none)) = some (r1, r2) := H
                  have A15 := Aside0.mk A150
                  clear A150
                  by_cases c16 : t107.size + t111.size ≤ 9223372036854775807
                  · rw [if_pos c16] at H
                    have c16b0 := eq_true c16
                    have c16b1 : decide (t107.size + t111.size ≤ 9223372036854775807) = true := decide_eq_true c16
                    try have c16b2 : (9223372036854775807 < t107.size + t111.size) = False := eq_false (Nat.not_lt.2 c16)
                    have c16z := c16
                    (try simp only [ByteArray.size_append, show ∀ x_ : UInt8, (⟨#[x_]⟩ : ByteArray).size = 1 from fun _ => rfl] at c16z)
                    simp only [Option.some.injEq, Prod.mk.injEq] at H
                    obtain ⟨rfl, rfl⟩ := H
                    go_wp2_with (first | (go_at_call 90; (with_reducible refine (Go.Proofs.YtfbenlenihlpbaaDoor.Given.strconv_Itoa.calls a1 t111 _ A15.out).mono ?_); rintro e w' ⟨rfl, ⟨nd, rfl⟩⟩; (try first | exact ⟨rfl, _, World.drewN_drewN _ _ _⟩ | exact ⟨rfl, _, Eq.trans (World.drewN_drewN _ _ _) (congrArg (World.drewN _) (Nat.add_assoc _ _ _))⟩)))
                    repeat (go_quiet (first | (go_at_call 90; (with_reducible refine (Go.Proofs.YtfbenlenihlpbaaDoor.Given.strconv_Itoa.calls a1 t111 _ A15.out).mono ?_); rintro e w' ⟨rfl, ⟨nd, rfl⟩⟩; (try first | exact ⟨rfl, _, World.drewN_drewN _ _ _⟩ | exact ⟨rfl, _, Eq.trans (World.drewN_drewN _ _ _) (congrArg (World.drewN _) (Nat.add_assoc _ _ _))⟩))); try go_wp2_with (first | (go_at_call 90; (with_reducible refine (Go.Proofs.YtfbenlenihlpbaaDoor.Given.strconv_Itoa.calls a1 t111 _ A15.out).mono ?_); rintro e w' ⟨rfl, ⟨nd, rfl⟩⟩; (try first | exact ⟨rfl, _, World.drewN_drewN _ _ _⟩ | exact ⟨rfl, _, Eq.trans (World.drewN_drewN _ _ _) (congrArg (World.drewN _) (Nat.add_assoc _ _ _))⟩))))
                    go_ret2
                    exact ⟨by first | rfl | (simp [errW_none, errW_some] <;> rfl) | (simp [*, errW_none, errW_some] <;> rfl), by repeat (first | (with_reducible first | exact HB.out | apply below_alloc | apply pw_below_drewN | apply below_drew1) | exact HB.out)⟩
                  · rw [if_neg c16] at H
                    exact absurd H (by simp)
          · have H1 : (some ((⟨#[]⟩ : ByteArray), some q109)) = some (r1, r2) := by rw [if_neg (show ¬ (some q109).isNone = true by simp)] at H; exact H
            clear H
            have H := H1
            clear H1
            try simp only [errW_none, errW_some]
            simp only [Option.some.injEq, Prod.mk.injEq] at H
            obtain ⟨rfl, rfl⟩ := H
            go_wp2_with (first | (go_at_call 89; (with_reducible refine (excelize_ColumnNumberToName.calls kj3 a0 t107 (some q109) _ A8.out).mono ?_); rintro e w17 ⟨rfl, hb⟩; have n0_ := Aside0.mk (below_step (by repeat (first | (with_reducible first | exact HB.out | apply below_alloc | apply pw_below_drewN | apply below_drew1) | exact HB.out)) hb); clear HB; have HB := n0_; clear n0_; (try clear hb); (try clear hb2); (try clear hk); (try clear hi); (try simp only [errW_none, errW_some])))
            repeat (go_quiet (first | (go_at_call 89; (with_reducible refine (excelize_ColumnNumberToName.calls kj3 a0 t107 (some q109) _ A8.out).mono ?_); rintro e w17 ⟨rfl, hb⟩; have n0_ := Aside0.mk (below_step (by repeat (first | (with_reducible first | exact HB.out | apply below_alloc | apply pw_below_drewN | apply below_drew1) | exact HB.out)) hb); clear HB; have HB := n0_; clear n0_; (try clear hb); (try clear hb2); (try clear hk); (try clear hi); (try simp only [errW_none, errW_some]))); try go_wp2_with (first | (go_at_call 89; (with_reducible refine (excelize_ColumnNumberToName.calls kj3 a0 t107 (some q109) _ A8.out).mono ?_); rintro e w17 ⟨rfl, hb⟩; have n0_ := Aside0.mk (below_step (by repeat (first | (with_reducible first | exact HB.out | apply below_alloc | apply pw_below_drewN | apply below_drew1) | exact HB.out)) hb); clear HB; have HB := n0_; clear n0_; (try clear hb); (try clear hb2); (try clear hk); (try clear hi); (try simp only [errW_none, errW_some]))))
            go_ret2
            exact ⟨by first | rfl | (simp [errW_none, errW_some] <;> rfl) | (simp [*, errW_none, errW_some] <;> rfl), by repeat (first | (with_reducible first | exact HB.out | apply below_alloc | apply pw_below_drewN | apply below_drew1) | exact HB.out)⟩

end Go.Proofs.YtfbenlenihlpbaaDoor.PAc
end

section
namespace Go.Proofs.YtfbenlenihlpbaaDoor.PAc
open Go.RowKit Go.Proofs.YtfbenlenihlpbaaDoorW.PrintWords Go.Proofs.YtfbenlenihlpbaaDoorW.PrintLast Go.Proofs.YtfbenlenihlpbaaDoorW.PrintMore
attribute [local go_sem] max2_int min2_int max_two min_two max_three min_three max_four min_four   -- for this text's walks alone
set_option linter.unusedVariables false
set_option linter.unusedSimpArgs false

/-! ### excelize_coordinatesToRangeRef: function 72 -/
def excelize_coordinatesToRangeRef.f (k : Nat) (l0 : List Int) (l1 : List Bool) : Option (ByteArray × Option Int) := if (l0.length : Int) = 4 then (if 0 < (l0.length : Int) then (if 1 < (l0.length : Int) then ((excelize_CoordinatesToCellName.f k (rd l0 0) (rd l0 1) l1).bind fun bt114 => (if bt114.2.isNone = true then (if 2 < (l0.length : Int) then (if 3 < (l0.length : Int) then ((excelize_CoordinatesToCellName.f k (rd l0 2) (rd l0 3) l1).bind fun bt119 => (if bt119.2.isNone = true then (if bt114.1.size + 1 ≤ 9223372036854775807 then (if (bt114.1 ++ (⟨#[58]⟩ : ByteArray)).size + bt119.1.size ≤ 9223372036854775807 then (some ((bt114.1 ++ (⟨#[58]⟩ : ByteArray)) ++ bt119.1, none)) else (none)) else (none)) else (some ((⟨#[]⟩ : ByteArray), some (bt119.2.getD 0))))) else (none)) else (none)) else (some ((⟨#[]⟩ : ByteArray), some (bt114.2.getD 0))))) else (none)) else (none)) else (none)
theorem excelize_coordinatesToRangeRef.mono : ∀ a0 a1 k, LeO (excelize_coordinatesToRangeRef.f k a0 a1) (excelize_coordinatesToRangeRef.f (k + 1) a0 a1) := by
  intro a0 a1 k
  unfold excelize_coordinatesToRangeRef.f
  repeat' first
      | (with_reducible exact excelize_CoordinatesToCellName.mono _ _ _ _)
      | (with_reducible exact LeO.refl _)
      | (with_reducible exact LeO.none _)
      | (with_reducible refine LeO.ite ?_ ?_)
      | (with_reducible refine LeO.bind ?_ (fun _ => ?_))
      | exact excelize_CoordinatesToCellName.mono _ _ _ _
      | exact LeO.none _
      | refine LeO.ite ?_ ?_
      | refine LeO.bind ?_ (fun _ => ?_)
def excelize_coordinatesToRangeRef.T3 : Bool × List (List Nat × List Nat) := (true, [([], []), ([0], [0]), ([1], [1]), ([], []), ([3], [3]), ([4], [4]), ([], []), ([2, 5, 6], [2, 5, 6]), ([7], [7]), ([8], [8]), ([8], [8]), ([9, 7, 0, 1, 2, 3, 4, 5, 6, 7, 8, 9], [9]), ([10, 11, 0, 1, 2, 3, 4, 5, 6, 7, 8, 9, 10, 11], [10])])
def excelize_coordinatesToRangeRef.B3 : List Nat := [0, 1, 3, 0, 8, 24, 0, 127, 255, 511, 511, 1023, 4095]
theorem excelize_coordinatesToRangeRef.tab3 : rtab .any (opsOf Tryd.f72 3) = excelize_coordinatesToRangeRef.T3 := by kernel_rfl
theorem excelize_coordinatesToRangeRef.bits3 : waitsOk excelize_coordinatesToRangeRef.T3.2 excelize_coordinatesToRangeRef.B3 = true := by kernel_rfl
def excelize_coordinatesToRangeRef.T6 : Bool × List (List Nat × List Nat) := (true, [([], []), ([0], [0]), ([1], [1]), ([], []), ([3], [3]), ([4], [4]), ([], []), ([2, 5, 6], [2, 5, 6]), ([7], [7]), ([8], [8]), ([8], [8]), ([9, 7, 0, 1, 2, 3, 4, 5, 6, 7, 8, 9], [9]), ([10, 11, 0, 1, 2, 3, 4, 5, 6, 7, 8, 9, 10, 11], [10])])
def excelize_coordinatesToRangeRef.B6 : List Nat := [0, 1, 3, 0, 8, 24, 0, 127, 255, 511, 511, 1023, 4095]
theorem excelize_coordinatesToRangeRef.tab6 : rtab .any (opsOf Tryd.f72 6) = excelize_coordinatesToRangeRef.T6 := by kernel_rfl
theorem excelize_coordinatesToRangeRef.bits6 : waitsOk excelize_coordinatesToRangeRef.T6.2 excelize_coordinatesToRangeRef.B6 = true := by kernel_rfl
set_option maxHeartbeats 8000000 in
set_option maxRecDepth 100000 in
theorem excelize_coordinatesToRangeRef.calls (k : Nat) (A0 : Option Addr) (c0 : Nat) (l0 : List Int) (A1 : Option Addr) (c1 : Nat) (l1 : List Bool) (r1 : ByteArray) (r2 : Option Int) (w : World) (hr0 : Kd.C (Kd.int .i64) w A0 l0.length l0) (hc0 : l0.length ≤ c0) (hr1 : Kd.C Kd.bool w A1 l1.length l1) (hc1 : l1.length ≤ c1) (h : excelize_coordinatesToRangeRef.f k l0 l1 = some (r1, r2)) :
    Calls Tryd.prog 72 #[.slice A0 l0.length c0, .slice A1 l1.length c1] w fun e w' => e = .returned (.tuple #[.string r1, errW r2]) ∧ Below w.heap.size w w' := by
  have hu74 := Tryd.underlying74
  have HR0 := Aside0.mk hr0
  have HC0 := Aside0.mk hc0
  clear hr0 hc0
  have HR1 := Aside0.mk hr1
  have HC1 := Aside0.mk hc1
  clear hr1 hc1
  have HB := Aside0.mk (Below.refl w.heap.size w)
  have H : (if (l0.length : Int) = 4 then (if 0 < (l0.length : Int) then (if 1 < (l0.length : Int) then ((excelize_CoordinatesToCellName.f k (rd l0 0) (rd l0 1) l1).bind fun bt114 => (if bt114.2.isNone = true then (if 2 < (l0.length : Int) then (if 3 < (l0.length : Int) then ((excelize_CoordinatesToCellName.f k (rd l0 2) (rd l0 3) l1).bind fun bt119 => (if bt119.2.isNone = true then (if bt114.1.size + 1 ≤ 9223372036854775807 then (if (bt114.1 ++ (⟨#[58]⟩ : ByteArray)).size + bt119.1.size ≤ 9223372036854775807 then (some ((bt114.1 ++ (⟨#[58]⟩ : ByteArray)) ++ bt119.1, none)) else (none)) else (none)) else (some ((⟨#[]⟩ : ByteArray), some (bt119.2.getD 0))))) else (none)) else (none)) else (some ((⟨#[]⟩ : ByteArray), some (bt114.2.getD 0))))) else (none)) else (none)) else (none)) = some (r1, r2) := h
  clear h
  by_cases c3 : (l0.length : Int) = 4
  · rw [if_pos c3] at H
    have c3b0 : ((l0.length : Int) == 4) = true := beq_iff_eq.mpr c3
    have c3b1 : ((l0.length : Int) != 4) = false := bne_eq_false_iff_eq.mpr c3
    clear c3
    by_cases c4 : 0 < (l0.length : Int)
    · rw [if_pos c4] at H
      have c4b0 : decide (0 < (l0.length : Int)) = true := decide_eq_true c4
      have c4b1 : decide (0 < l0.length) = true := decide_eq_true (by omega)
      clear c4
      by_cases c5 : 1 < (l0.length : Int)
      · rw [if_pos c5] at H
        have c5b0 : decide (1 < (l0.length : Int)) = true := decide_eq_true c5
        have c5b1 : decide (1 < l0.length) = true := decide_eq_true (by omega)
        clear c5
        replace H := Option.bind_eq_some_iff.mp H
        obtain ⟨⟨t114, t115⟩, A60, H⟩ := H
        replace H : (if t115.isNone = true then (if 2 < (l0.length : Int) then (if 3 < (l0.length : Int) then ((excelize_CoordinatesToCellName.f k (rd l0 2) (rd l0 3) l1).bind fun bt119 => (if bt119.2.isNone = true then (if t114.size + 1 ≤ 9223372036854775807 then (if (t114 ++ (⟨#[58]⟩ : ByteArray)).size + bt119.1.size ≤ 9223372036854775807 then (some ((t114 ++ (⟨#[58]⟩ : ByteArray)) ++ bt119.1, none)) else (none)) else (none)) else (some ((⟨#[]⟩ : ByteArray), some (bt119.2.getD 0))))) else (none)) else (none)) else (some ((⟨#[]⟩ : ByteArray), some (t115.getD 0)))) = some (r1, r2) := H
        have A6 := Aside0.mk A60
        clear A60
        rcases t115 with _ | q116
        · have H1 : (if 2 < (l0.length : Int) then (if 3 < (l0.length : Int) then ((excelize_CoordinatesToCellName.f k (rd l0 2) (rd l0 3) l1).bind fun bt119 => (if bt119.2.isNone = true then (if t114.size + 1 ≤ 9223372036854775807 then (if (t114 ++ (⟨#[58]⟩ : ByteArray)).size + bt119.1.size ≤ 9223372036854775807 then (some ((t114 ++ (⟨#[58]⟩ : ByteArray)) ++ bt119.1, none)) else (none)) else (none)) else (some ((⟨#[]⟩ : ByteArray), some (bt119.2.getD 0))))) else (none)) else (none)) = some (r1, r2) := by rw [if_pos (show (none : Option Int).isNone = true by rfl)] at H; exact H
          clear H
          have H := H1
          clear H1
          try simp only [errW_none, errW_some]
          by_cases c7 : 2 < (l0.length : Int)
          · rw [if_pos c7] at H
            have c7b0 : decide (2 < (l0.length : Int)) = true := decide_eq_true c7
            have c7b1 : decide (2 < l0.length) = true := decide_eq_true (by omega)
            clear c7
            by_cases c8 : 3 < (l0.length : Int)
            · rw [if_pos c8] at H
              have c8b0 : decide (3 < (l0.length : Int)) = true := decide_eq_true c8
              have c8b1 : decide (3 < l0.length) = true := decide_eq_true (by omega)
              clear c8
              replace H := Option.bind_eq_some_iff.mp H
              obtain ⟨⟨t119, t120⟩, A90, H⟩ := H
              replace H : (if t120.isNone = true then (if t114.size + 1 ≤ 9223372036854775807 then (if (t114 ++ (⟨#[58]⟩ : ByteArray)).size + t119.size ≤ 9223372036854775807 then (some ((t114 ++ (⟨#[58]⟩ : ByteArray)) ++ t119, none)) else (none)) else (none)) else (some ((⟨#[]⟩ : ByteArray), some (t120.getD 0)))) = some (r1, r2) := H
              have A9 := Aside0.mk A90
              clear A90
              rcases t120 with _ | q121
              · have H1 : (if t114.size + 1 ≤ 9223372036854775807 then (if (t114 ++ (⟨#[58]⟩ : ByteArray)).size + t119.size ≤ 9223372036854775807 then (some ((t114 ++ (⟨#[58]⟩ : ByteArray)) ++ t119, none)) else (none)) else (none)) = some (r1, r2) := by rw [if_pos (show (none : Option Int).isNone = true by rfl)] at H; exact H
                clear H
                have H := H1
                clear H1
                try simp only [errW_none, errW_some]
                by_cases c10 : t114.size + 1 ≤ 9223372036854775807
                · rw [if_pos c10] at H
                  have c10b0 := eq_true c10
                  have c10b1 : decide (t114.size + 1 ≤ 9223372036854775807) = true := decide_eq_true c10
                  try have c10b2 : (9223372036854775807 < t114.size + 1) = False := eq_false (Nat.not_lt.2 c10)
                  have c10z := c10
                  (try simp only [ByteArray.size_append, show ∀ x_ : UInt8, (⟨#[x_]⟩ : ByteArray).size = 1 from fun _ => rfl] at c10z)
                  by_cases c11 : (t114 ++ (⟨#[58]⟩ : ByteArray)).size + t119.size ≤ 9223372036854775807
                  · rw [if_pos c11] at H
                    have c11b0 := eq_true c11
                    have c11b1 : decide ((t114 ++ (⟨#[58]⟩ : ByteArray)).size + t119.size ≤ 9223372036854775807) = true := decide_eq_true c11
                    try have c11b2 : (9223372036854775807 < (t114 ++ (⟨#[58]⟩ : ByteArray)).size + t119.size) = False := eq_false (Nat.not_lt.2 c11)
                    have c11z := c11
                    (try simp only [ByteArray.size_append, show ∀ x_ : UInt8, (⟨#[x_]⟩ : ByteArray).size = 1 from fun _ => rfl] at c11z)
                    simp only [Option.some.injEq, Prod.mk.injEq] at H
                    obtain ⟨rfl, rfl⟩ := H
                    go_enter Tryd.func72, Tryd.ntmps72
                    try go_wp2
                    have n0_ := Aside0.mk (below_drew1 HB.out)
                    clear HB
                    have HB := n0_
                    clear n0_
                    have p112 : 0 ≤ (0 : Int) := (by omega)
                    have q112 : 0 < (l0.length : Int) := of_decide_eq_true (by first | (with_reducible assumption) | assumption)
                    obtain ⟨ad112, e112, hx112_0⟩ := Kd.at_int HR0.out 0 p112 q112
                    have hw112_0 := hx112_0
                    (try rw [show ((0 : Int)).toNat = 0 from rfl] at hw112_0)
                    (try rw [show 0 * 1 = 0 from rfl] at hw112_0)
                    (try rw [Addr.add_zero'] at hw112_0)
                    cases e112
                    have qi112 : (0 < l0.length) = True := eq_true (by omega)
                    (try rw [show ((0 : Int)).toNat = 0 from rfl] at hx112_0)
                    (try rw [Addr.add_zero'] at hx112_0)
                    replace hx112_0 := (HB.out.cell (World.block_lt_of_cell? w _ hx112_0)).trans hx112_0
                    replace p112 := eq_true p112
                    replace q112 := eq_true q112
                    have p113 : 0 ≤ (1 : Int) := (by omega)
                    have q113 : 1 < (l0.length : Int) := of_decide_eq_true (by first | (with_reducible assumption) | assumption)
                    obtain ⟨ad113, e113, hx113_0⟩ := Kd.at_int HR0.out 1 p113 q113
                    have hw113_0 := hx113_0
                    (try rw [show ((1 : Int)).toNat = 1 from rfl] at hw113_0)
                    (try rw [show 1 * 1 = 1 from rfl] at hw113_0)
                    (try simp only [Nat.reduceMul, Nat.reduceEqDiff, Go.Addr.add, ↓reduceIte] at hw113_0)
                    obtain rfl : ad112 = ad113 := (by injection e113)
                    (try simp only [show (1 : Int).toNat = 1 from rfl, Nat.reduceMul, Nat.reduceEqDiff, Go.Addr.add, ↓reduceIte] at hx113_0)
                    have qi113 : (1 < l0.length) = True := eq_true (by omega)
                    (try rw [show ((1 : Int)).toNat = 1 from rfl] at hx113_0)
                    replace hx113_0 := (HB.out.cell (World.block_lt_of_cell? w _ hx113_0)).trans hx113_0
                    replace p113 := eq_true p113
                    replace q113 := eq_true q113
                    refine start_ (n := 13) (S := fun w' => w'.cell? ad112 = some (.int .i64 (rd l0 0)) ∧ w'.cell? ⟨ad112.block, ad112.off + 1, none⟩ = some (.int .i64 (rd l0 1))) (ds := []) #[false, false, false, false, false, false, false, false, false, false, false, false, false] (by kernel_rfl) rfl rfl ⟨((HB.out.cell (World.block_lt_of_cell? w _ hw112_0)).trans hw112_0), ((HB.out.cell (World.block_lt_of_cell? w _ hw113_0)).trans hw113_0)⟩ (fun hHeld => ?_); refine with_tabW excelize_coordinatesToRangeRef.tab3 excelize_coordinatesToRangeRef.bits3 (fun HT_ HW_ => ?_)
                    generalize w.drew = w12 at HB hx112_0 hx113_0 hHeld ⊢
                    refine pure_ (i := 0) (N := some 14) (v := ?_) (a' := ?_) #[true, false, false, false, false, false, false, false, false, false, false, false, false] rfl rfl (any_of HT_.out (by kernel_rfl)) (fun _ _ _ h => h) (Or.inl ⟨by rfl, ?_⟩) ?_ ?_
                    rotate_left
                    · intro w'
                      go_simp
                      with_reducible rfl
                    rotate_left
                    · simp only [Act.put, List.setIfInBounds_toArray, List.set_cons_zero, List.set_cons_succ, i64_w, i32_w]
                      rfl
                    refine pure_ (i := 1) (N := some 15) (v := ?_) (a' := ?_) #[true, true, false, false, false, false, false, false, false, false, false, false, false] rfl rfl (any_of HT_.out (by kernel_rfl)) (fun _ _ _ h => h) (Or.inl ⟨by rfl, ?_⟩) ?_ ?_
                    rotate_left
                    · intro w'
                      go_simp
                      with_reducible rfl
                    rotate_left
                    · simp only [Act.put, List.setIfInBounds_toArray, List.set_cons_zero, List.set_cons_succ, i64_w, i32_w]
                      rfl
                    refine pure_ (i := 3) (N := some 17) (v := ?_) (a' := ?_) #[true, true, false, true, false, false, false, false, false, false, false, false, false] rfl rfl (any_of HT_.out (by kernel_rfl)) (fun _ _ _ h => h) (Or.inl ⟨by rfl, ?_⟩) ?_ ?_
                    rotate_left
                    · intro w'
                      go_simp
                      with_reducible rfl
                    rotate_left
                    · simp only [Act.put, List.setIfInBounds_toArray, List.set_cons_zero, List.set_cons_succ, i64_w, i32_w]
                      rfl
                    refine pure_ (i := 4) (N := some 18) (v := ?_) (a' := ?_) #[true, true, false, true, true, false, false, false, false, false, false, false, false] rfl rfl (any_of HT_.out (by kernel_rfl)) (fun _ _ _ h => h) (Or.inl ⟨by rfl, ?_⟩) ?_ ?_
                    rotate_left
                    · intro w'
                      go_simp
                      with_reducible rfl
                    rotate_left
                    · simp only [Act.put, List.setIfInBounds_toArray, List.set_cons_zero, List.set_cons_succ, i64_w, i32_w]
                      rfl
                    refine pure_ (i := 6) (N := some 20) (v := ?_) (a' := ?_) #[true, true, false, true, true, false, true, false, false, false, false, false, false] rfl rfl (any_of HT_.out (by kernel_rfl)) (fun _ _ _ h => h) (Or.inl ⟨by rfl, ?_⟩) ?_ ?_
                    rotate_left
                    · intro w'
                      go_simp
                      with_reducible rfl
                    rotate_left
                    · simp only [Act.put, List.setIfInBounds_toArray, List.set_cons_zero, List.set_cons_succ, i64_w, i32_w]
                      rfl
                    refine take_ (i := 2) (N := some 16) (v := ?_) (a' := ?_) #[true, true, true, true, true, false, true, false, false, false, false, false, false] rfl rfl (take_ofW HT_.out HW_.out (by kernel_rfl)) (fun _ _ _ h => h) (Or.inl ⟨by rfl, ?_⟩) hHeld ?_ ?_
                    rotate_left
                    · rintro w' ⟨s0, s1⟩
                      go_simp
                      with_reducible rfl
                    rotate_left
                    · simp only [Act.put, List.setIfInBounds_toArray, List.set_cons_zero, List.set_cons_succ, i64_w, i32_w]
                      rfl
                    refine take_ (i := 5) (N := some 19) (v := ?_) (a' := ?_) #[true, true, true, true, true, true, true, false, false, false, false, false, false] rfl rfl (take_ofW HT_.out HW_.out (by kernel_rfl)) (fun _ _ _ h => h) (Or.inl ⟨by rfl, ?_⟩) hHeld ?_ ?_
                    rotate_left
                    · rintro w' ⟨s0, s1⟩
                      go_simp
                      with_reducible rfl
                    rotate_left
                    · simp only [Act.put, List.setIfInBounds_toArray, List.set_cons_zero, List.set_cons_succ, i64_w, i32_w]
                      rfl
                    refine one_ (i := 7) (N := some 21) #[true, true, true, true, true, true, true, true, false, false, false, false, false] rfl rfl (one_of HT_.out (by kernel_rfl)) (by decide) (fun K hK => ?_)
                    refine goes_ Tryd.func71 (by kernel_rfl) rfl #[.int .i64 (rd l0 0), .int .i64 (rd l0 1), .slice A1 l1.length c1] (by rfl) rfl rfl (by (try simp only [List.map_toArray, List.map_cons, List.map_nil]); first | done | rfl | (simp only [List.length_drop, List.length_take]; rfl)) ?_
                    with_reducible refine (excelize_CoordinatesToCellName.calls k (rd l0 0) (rd l0 1) _ _ l1 t114 none _ ?side1 ?side2 A6.out).mono ?_
                    (case side1 => repeat (first | exact (Kd.C_below HR1.out HB.out) | (with_reducible refine Kd.C_alloc ?_ _) | (with_reducible refine Kd.C_drewN ?_ _) | (with_reducible refine Kd.C_drew ?_)))
                    (case side2 => exact HC1.out)
                    rintro e w13 ⟨rfl, hb⟩
                    refine ⟨_, rfl, ?_⟩
                    have n0_ := Aside0.mk (below_step (by repeat (first | (with_reducible first | exact HB.out | apply below_alloc | apply pw_below_drewN | apply below_drew1) | exact HB.out)) hb)
                    clear HB
                    have HB := n0_
                    clear n0_
                    (try clear hb)
                    (try clear hb2)
                    (try clear hk)
                    (try clear hi)
                    (try simp only [errW_none, errW_some])
                    refine hK.out _ _ ⟨((HB.out.cell (World.block_lt_of_cell? w _ hw112_0)).trans hw112_0), ((HB.out.cell (World.block_lt_of_cell? w _ hw113_0)).trans hw113_0)⟩ (fun hHeld => ?_)
                    clear hK K
                    refine norm_ (a' := ?_) ?_ ?_
                    rotate_left
                    · show Act.put _ (some 21) _ = _
                      simp only [Act.put, List.setIfInBounds_toArray, List.set_cons_zero, List.set_cons_succ, i64_w, i32_w]
                      rfl
                    refine pure_ (i := 8) (N := some 13) (v := ?_) (a' := ?_) #[true, true, true, true, true, true, true, true, true, false, false, false, false] rfl rfl (any_of HT_.out (by kernel_rfl)) (fun _ _ _ h => h) (Or.inl ⟨by rfl, ?_⟩) ?_ ?_
                    rotate_left
                    · intro w'
                      go_simp
                      with_reducible rfl
                    rotate_left
                    · simp only [Act.put, List.setIfInBounds_toArray, List.set_cons_zero, List.set_cons_succ, i64_w, i32_w]
                      rfl
                    refine pure_ (i := 9) (N := some 22) (v := ?_) (a' := ?_) #[true, true, true, true, true, true, true, true, true, true, false, false, false] rfl rfl (any_of HT_.out (by kernel_rfl)) (fun _ _ _ h => h) (Or.inl ⟨by rfl, ?_⟩) ?_ ?_
                    rotate_left
                    · intro w'
                      go_simp
                      with_reducible rfl
                    rotate_left
                    · simp only [Act.put, List.setIfInBounds_toArray, List.set_cons_zero, List.set_cons_succ, i64_w, i32_w]
                      rfl
                    refine pure_ (i := 10) (N := some 23) (v := ?_) (a' := ?_) #[true, true, true, true, true, true, true, true, true, true, true, false, false] rfl rfl (any_of HT_.out (by kernel_rfl)) (fun _ _ _ h => h) (Or.inl ⟨by rfl, ?_⟩) ?_ ?_
                    rotate_left
                    · intro w'
                      go_simp
                      with_reducible rfl
                    rotate_left
                    · simp only [Act.put, List.setIfInBounds_toArray, List.set_cons_zero, List.set_cons_succ, i64_w, i32_w]
                      rfl
                    refine pure_ (i := 11) (N := some 6) (v := ?_) (a' := ?_) #[true, true, true, true, true, true, true, true, true, true, true, true, false] rfl rfl (any_of HT_.out (by kernel_rfl)) (fun _ _ _ h => h) (Or.inl ⟨by rfl, ?_⟩) ?_ ?_
                    rotate_left
                    · intro w'
                      go_simp
                      with_reducible rfl
                    rotate_left
                    · simp only [Act.put, List.setIfInBounds_toArray, List.set_cons_zero, List.set_cons_succ, i64_w, i32_w]
                      rfl
                    refine pure_ (i := 12) (N := some 7) (v := ?_) (a' := ?_) #[true, true, true, true, true, true, true, true, true, true, true, true, true] rfl rfl (any_of HT_.out (by kernel_rfl)) (fun _ _ _ h => h) (Or.inl ⟨by rfl, ?_⟩) ?_ ?_
                    rotate_left
                    · intro w'
                      go_simp
                      with_reducible rfl
                    rotate_left
                    · simp only [Act.put, List.setIfInBounds_toArray, List.set_cons_zero, List.set_cons_succ, i64_w, i32_w]
                      rfl
                    refine done_ (done_of HT_.out (by kernel_rfl)) ?_
                    try go_wp2
                    have n0_ := Aside0.mk (below_drew1 HB.out)
                    clear HB
                    have HB := n0_
                    clear n0_
                    have p117 : 0 ≤ (2 : Int) := (by omega)
                    have q117 : 2 < (l0.length : Int) := of_decide_eq_true (by first | (with_reducible assumption) | assumption)
                    obtain ⟨ad117, e117, hx117_0⟩ := Kd.at_int HR0.out 2 p117 q117
                    have hw117_0 := hx117_0
                    (try rw [show ((2 : Int)).toNat = 2 from rfl] at hw117_0)
                    (try rw [show 2 * 1 = 2 from rfl] at hw117_0)
                    (try simp only [Nat.reduceMul, Nat.reduceEqDiff, Go.Addr.add, ↓reduceIte] at hw117_0)
                    obtain rfl : ad112 = ad117 := (by injection e117)
                    (try simp only [show (2 : Int).toNat = 2 from rfl, Nat.reduceMul, Nat.reduceEqDiff, Go.Addr.add, ↓reduceIte] at hx117_0)
                    have qi117 : (2 < l0.length) = True := eq_true (by omega)
                    (try rw [show ((2 : Int)).toNat = 2 from rfl] at hx117_0)
                    replace hx117_0 := (HB.out.cell (World.block_lt_of_cell? w _ hx117_0)).trans hx117_0
                    replace p117 := eq_true p117
                    replace q117 := eq_true q117
                    have p118 : 0 ≤ (3 : Int) := (by omega)
                    have q118 : 3 < (l0.length : Int) := of_decide_eq_true (by first | (with_reducible assumption) | assumption)
                    obtain ⟨ad118, e118, hx118_0⟩ := Kd.at_int HR0.out 3 p118 q118
                    have hw118_0 := hx118_0
                    (try rw [show ((3 : Int)).toNat = 3 from rfl] at hw118_0)
                    (try rw [show 3 * 1 = 3 from rfl] at hw118_0)
                    (try simp only [Nat.reduceMul, Nat.reduceEqDiff, Go.Addr.add, ↓reduceIte] at hw118_0)
                    obtain rfl : ad112 = ad118 := (by injection e118)
                    (try simp only [show (3 : Int).toNat = 3 from rfl, Nat.reduceMul, Nat.reduceEqDiff, Go.Addr.add, ↓reduceIte] at hx118_0)
                    have qi118 : (3 < l0.length) = True := eq_true (by omega)
                    (try rw [show ((3 : Int)).toNat = 3 from rfl] at hx118_0)
                    replace hx118_0 := (HB.out.cell (World.block_lt_of_cell? w _ hx118_0)).trans hx118_0
                    replace p118 := eq_true p118
                    replace q118 := eq_true q118
                    refine start_ (n := 13) (S := fun w' => w'.cell? ⟨ad112.block, ad112.off + 2, none⟩ = some (.int .i64 (rd l0 2)) ∧ w'.cell? ⟨ad112.block, ad112.off + 3, none⟩ = some (.int .i64 (rd l0 3))) (ds := []) #[false, false, false, false, false, false, false, false, false, false, false, false, false] (by kernel_rfl) rfl rfl ⟨((HB.out.cell (World.block_lt_of_cell? w _ hw117_0)).trans hw117_0), ((HB.out.cell (World.block_lt_of_cell? w _ hw118_0)).trans hw118_0)⟩ (fun hHeld => ?_); refine with_tabW excelize_coordinatesToRangeRef.tab6 excelize_coordinatesToRangeRef.bits6 (fun HT_ HW_ => ?_)
                    generalize w13.drew = w14 at HB hx117_0 hx118_0 hHeld ⊢
                    refine pure_ (i := 0) (N := some 28) (v := ?_) (a' := ?_) #[true, false, false, false, false, false, false, false, false, false, false, false, false] rfl rfl (any_of HT_.out (by kernel_rfl)) (fun _ _ _ h => h) (Or.inl ⟨by rfl, ?_⟩) ?_ ?_
                    rotate_left
                    · intro w'
                      go_simp
                      with_reducible rfl
                    rotate_left
                    · simp only [Act.put, List.setIfInBounds_toArray, List.set_cons_zero, List.set_cons_succ, i64_w, i32_w]
                      rfl
                    refine pure_ (i := 1) (N := some 29) (v := ?_) (a' := ?_) #[true, true, false, false, false, false, false, false, false, false, false, false, false] rfl rfl (any_of HT_.out (by kernel_rfl)) (fun _ _ _ h => h) (Or.inl ⟨by rfl, ?_⟩) ?_ ?_
                    rotate_left
                    · intro w'
                      go_simp
                      with_reducible rfl
                    rotate_left
                    · simp only [Act.put, List.setIfInBounds_toArray, List.set_cons_zero, List.set_cons_succ, i64_w, i32_w]
                      rfl
                    refine pure_ (i := 3) (N := some 31) (v := ?_) (a' := ?_) #[true, true, false, true, false, false, false, false, false, false, false, false, false] rfl rfl (any_of HT_.out (by kernel_rfl)) (fun _ _ _ h => h) (Or.inl ⟨by rfl, ?_⟩) ?_ ?_
                    rotate_left
                    · intro w'
                      go_simp
                      with_reducible rfl
                    rotate_left
                    · simp only [Act.put, List.setIfInBounds_toArray, List.set_cons_zero, List.set_cons_succ, i64_w, i32_w]
                      rfl
                    refine pure_ (i := 4) (N := some 32) (v := ?_) (a' := ?_) #[true, true, false, true, true, false, false, false, false, false, false, false, false] rfl rfl (any_of HT_.out (by kernel_rfl)) (fun _ _ _ h => h) (Or.inl ⟨by rfl, ?_⟩) ?_ ?_
                    rotate_left
                    · intro w'
                      go_simp
                      with_reducible rfl
                    rotate_left
                    · simp only [Act.put, List.setIfInBounds_toArray, List.set_cons_zero, List.set_cons_succ, i64_w, i32_w]
                      rfl
                    refine pure_ (i := 6) (N := some 34) (v := ?_) (a' := ?_) #[true, true, false, true, true, false, true, false, false, false, false, false, false] rfl rfl (any_of HT_.out (by kernel_rfl)) (fun _ _ _ h => h) (Or.inl ⟨by rfl, ?_⟩) ?_ ?_
                    rotate_left
                    · intro w'
                      go_simp
                      with_reducible rfl
                    rotate_left
                    · simp only [Act.put, List.setIfInBounds_toArray, List.set_cons_zero, List.set_cons_succ, i64_w, i32_w]
                      rfl
                    refine take_ (i := 2) (N := some 30) (v := ?_) (a' := ?_) #[true, true, true, true, true, false, true, false, false, false, false, false, false] rfl rfl (take_ofW HT_.out HW_.out (by kernel_rfl)) (fun _ _ _ h => h) (Or.inl ⟨by rfl, ?_⟩) hHeld ?_ ?_
                    rotate_left
                    · rintro w' ⟨s0, s1⟩
                      go_simp
                      with_reducible rfl
                    rotate_left
                    · simp only [Act.put, List.setIfInBounds_toArray, List.set_cons_zero, List.set_cons_succ, i64_w, i32_w]
                      rfl
                    refine take_ (i := 5) (N := some 33) (v := ?_) (a' := ?_) #[true, true, true, true, true, true, true, false, false, false, false, false, false] rfl rfl (take_ofW HT_.out HW_.out (by kernel_rfl)) (fun _ _ _ h => h) (Or.inl ⟨by rfl, ?_⟩) hHeld ?_ ?_
                    rotate_left
                    · rintro w' ⟨s0, s1⟩
                      go_simp
                      with_reducible rfl
                    rotate_left
                    · simp only [Act.put, List.setIfInBounds_toArray, List.set_cons_zero, List.set_cons_succ, i64_w, i32_w]
                      rfl
                    refine one_ (i := 7) (N := some 35) #[true, true, true, true, true, true, true, true, false, false, false, false, false] rfl rfl (one_of HT_.out (by kernel_rfl)) (by decide) (fun K hK => ?_)
                    refine goes_ Tryd.func71 (by kernel_rfl) rfl #[.int .i64 (rd l0 2), .int .i64 (rd l0 3), .slice A1 l1.length c1] (by rfl) rfl rfl (by (try simp only [List.map_toArray, List.map_cons, List.map_nil]); first | done | rfl | (simp only [List.length_drop, List.length_take]; rfl)) ?_
                    with_reducible refine (excelize_CoordinatesToCellName.calls k (rd l0 2) (rd l0 3) _ _ l1 t119 none _ ?side1 ?side2 A9.out).mono ?_
                    (case side1 => repeat (first | exact (Kd.C_below HR1.out HB.out) | (with_reducible refine Kd.C_alloc ?_ _) | (with_reducible refine Kd.C_drewN ?_ _) | (with_reducible refine Kd.C_drew ?_)))
                    (case side2 => exact HC1.out)
                    rintro e w15 ⟨rfl, hb⟩
                    refine ⟨_, rfl, ?_⟩
                    have n0_ := Aside0.mk (below_step (by repeat (first | (with_reducible first | exact HB.out | apply below_alloc | apply pw_below_drewN | apply below_drew1) | exact HB.out)) hb)
                    clear HB
                    have HB := n0_
                    clear n0_
                    (try clear hb)
                    (try clear hb2)
                    (try clear hk)
                    (try clear hi)
                    (try simp only [errW_none, errW_some])
                    refine hK.out _ _ ⟨((HB.out.cell (World.block_lt_of_cell? w _ hw117_0)).trans hw117_0), ((HB.out.cell (World.block_lt_of_cell? w _ hw118_0)).trans hw118_0)⟩ (fun hHeld => ?_)
                    clear hK K
                    refine norm_ (a' := ?_) ?_ ?_
                    rotate_left
                    · show Act.put _ (some 35) _ = _
                      simp only [Act.put, List.setIfInBounds_toArray, List.set_cons_zero, List.set_cons_succ, i64_w, i32_w]
                      rfl
                    refine pure_ (i := 8) (N := some 27) (v := ?_) (a' := ?_) #[true, true, true, true, true, true, true, true, true, false, false, false, false] rfl rfl (any_of HT_.out (by kernel_rfl)) (fun _ _ _ h => h) (Or.inl ⟨by rfl, ?_⟩) ?_ ?_
                    rotate_left
                    · intro w'
                      go_simp
                      with_reducible rfl
                    rotate_left
                    · simp only [Act.put, List.setIfInBounds_toArray, List.set_cons_zero, List.set_cons_succ, i64_w, i32_w]
                      rfl
                    refine pure_ (i := 9) (N := some 36) (v := ?_) (a' := ?_) #[true, true, true, true, true, true, true, true, true, true, false, false, false] rfl rfl (any_of HT_.out (by kernel_rfl)) (fun _ _ _ h => h) (Or.inl ⟨by rfl, ?_⟩) ?_ ?_
                    rotate_left
                    · intro w'
                      go_simp
                      with_reducible rfl
                    rotate_left
                    · simp only [Act.put, List.setIfInBounds_toArray, List.set_cons_zero, List.set_cons_succ, i64_w, i32_w]
                      rfl
                    refine pure_ (i := 10) (N := some 37) (v := ?_) (a' := ?_) #[true, true, true, true, true, true, true, true, true, true, true, false, false] rfl rfl (any_of HT_.out (by kernel_rfl)) (fun _ _ _ h => h) (Or.inl ⟨by rfl, ?_⟩) ?_ ?_
                    rotate_left
                    · intro w'
                      go_simp
                      with_reducible rfl
                    rotate_left
                    · simp only [Act.put, List.setIfInBounds_toArray, List.set_cons_zero, List.set_cons_succ, i64_w, i32_w]
                      rfl
                    refine pure_ (i := 11) (N := some 8) (v := ?_) (a' := ?_) #[true, true, true, true, true, true, true, true, true, true, true, true, false] rfl rfl (any_of HT_.out (by kernel_rfl)) (fun _ _ _ h => h) (Or.inl ⟨by rfl, ?_⟩) ?_ ?_
                    rotate_left
                    · intro w'
                      go_simp
                      with_reducible rfl
                    rotate_left
                    · simp only [Act.put, List.setIfInBounds_toArray, List.set_cons_zero, List.set_cons_succ, i64_w, i32_w]
                      rfl
                    refine pure_ (i := 12) (N := some 7) (v := ?_) (a' := ?_) #[true, true, true, true, true, true, true, true, true, true, true, true, true] rfl rfl (any_of HT_.out (by kernel_rfl)) (fun _ _ _ h => h) (Or.inl ⟨by rfl, ?_⟩) ?_ ?_
                    rotate_left
                    · intro w'
                      go_simp
                      with_reducible rfl
                    rotate_left
                    · simp only [Act.put, List.setIfInBounds_toArray, List.set_cons_zero, List.set_cons_succ, i64_w, i32_w]
                      rfl
                    refine done_ (done_of HT_.out (by kernel_rfl)) ?_
                    try go_wp2
                    go_ret2
                    exact ⟨by first | rfl | (simp [errW_none, errW_some] <;> rfl) | (simp [*, errW_none, errW_some] <;> rfl), by repeat (first | (with_reducible first | exact HB.out | apply below_alloc | apply pw_below_drewN | apply below_drew1) | exact HB.out)⟩
                  · rw [if_neg c11] at H
                    exact absurd H (by simp)
                · rw [if_neg c10] at H
                  exact absurd H (by simp)
              · have H1 : (some ((⟨#[]⟩ : ByteArray), some q121)) = some (r1, r2) := by rw [if_neg (show ¬ (some q121).isNone = true by simp)] at H; exact H
                clear H
                have H := H1
                clear H1
                try simp only [errW_none, errW_some]
                simp only [Option.some.injEq, Prod.mk.injEq] at H
                obtain ⟨rfl, rfl⟩ := H
                go_enter Tryd.func72, Tryd.ntmps72
                try go_wp2
                have n0_ := Aside0.mk (below_drew1 HB.out)
                clear HB
                have HB := n0_
                clear n0_
                have p112 : 0 ≤ (0 : Int) := (by omega)
                have q112 : 0 < (l0.length : Int) := of_decide_eq_true (by first | (with_reducible assumption) | assumption)
                obtain ⟨ad112, e112, hx112_0⟩ := Kd.at_int HR0.out 0 p112 q112
                have hw112_0 := hx112_0
                (try rw [show ((0 : Int)).toNat = 0 from rfl] at hw112_0)
                (try rw [show 0 * 1 = 0 from rfl] at hw112_0)
                (try rw [Addr.add_zero'] at hw112_0)
                cases e112
                have qi112 : (0 < l0.length) = True := eq_true (by omega)
                (try rw [show ((0 : Int)).toNat = 0 from rfl] at hx112_0)
                (try rw [Addr.add_zero'] at hx112_0)
                replace hx112_0 := (HB.out.cell (World.block_lt_of_cell? w _ hx112_0)).trans hx112_0
                replace p112 := eq_true p112
                replace q112 := eq_true q112
                have p113 : 0 ≤ (1 : Int) := (by omega)
                have q113 : 1 < (l0.length : Int) := of_decide_eq_true (by first | (with_reducible assumption) | assumption)
                obtain ⟨ad113, e113, hx113_0⟩ := Kd.at_int HR0.out 1 p113 q113
                have hw113_0 := hx113_0
                (try rw [show ((1 : Int)).toNat = 1 from rfl] at hw113_0)
                (try rw [show 1 * 1 = 1 from rfl] at hw113_0)
                (try simp only [Nat.reduceMul, Nat.reduceEqDiff, Go.Addr.add, ↓reduceIte] at hw113_0)
                obtain rfl : ad112 = ad113 := (by injection e113)
                (try simp only [show (1 : Int).toNat = 1 from rfl, Nat.reduceMul, Nat.reduceEqDiff, Go.Addr.add, ↓reduceIte] at hx113_0)
                have qi113 : (1 < l0.length) = True := eq_true (by omega)
                (try rw [show ((1 : Int)).toNat = 1 from rfl] at hx113_0)
                replace hx113_0 := (HB.out.cell (World.block_lt_of_cell? w _ hx113_0)).trans hx113_0
                replace p113 := eq_true p113
                replace q113 := eq_true q113
                refine start_ (n := 13) (S := fun w' => w'.cell? ad112 = some (.int .i64 (rd l0 0)) ∧ w'.cell? ⟨ad112.block, ad112.off + 1, none⟩ = some (.int .i64 (rd l0 1))) (ds := []) #[false, false, false, false, false, false, false, false, false, false, false, false, false] (by kernel_rfl) rfl rfl ⟨((HB.out.cell (World.block_lt_of_cell? w _ hw112_0)).trans hw112_0), ((HB.out.cell (World.block_lt_of_cell? w _ hw113_0)).trans hw113_0)⟩ (fun hHeld => ?_); refine with_tabW excelize_coordinatesToRangeRef.tab3 excelize_coordinatesToRangeRef.bits3 (fun HT_ HW_ => ?_)
                generalize w.drew = w16 at HB hx112_0 hx113_0 hHeld ⊢
                refine pure_ (i := 0) (N := some 14) (v := ?_) (a' := ?_) #[true, false, false, false, false, false, false, false, false, false, false, false, false] rfl rfl (any_of HT_.out (by kernel_rfl)) (fun _ _ _ h => h) (Or.inl ⟨by rfl, ?_⟩) ?_ ?_
                rotate_left
                · intro w'
                  go_simp
                  with_reducible rfl
                rotate_left
                · simp only [Act.put, List.setIfInBounds_toArray, List.set_cons_zero, List.set_cons_succ, i64_w, i32_w]
                  rfl
                refine pure_ (i := 1) (N := some 15) (v := ?_) (a' := ?_) #[true, true, false, false, false, false, false, false, false, false, false, false, false] rfl rfl (any_of HT_.out (by kernel_rfl)) (fun _ _ _ h => h) (Or.inl ⟨by rfl, ?_⟩) ?_ ?_
                rotate_left
                · intro w'
                  go_simp
                  with_reducible rfl
                rotate_left
                · simp only [Act.put, List.setIfInBounds_toArray, List.set_cons_zero, List.set_cons_succ, i64_w, i32_w]
                  rfl
                refine pure_ (i := 3) (N := some 17) (v := ?_) (a' := ?_) #[true, true, false, true, false, false, false, false, false, false, false, false, false] rfl rfl (any_of HT_.out (by kernel_rfl)) (fun _ _ _ h => h) (Or.inl ⟨by rfl, ?_⟩) ?_ ?_
                rotate_left
                · intro w'
                  go_simp
                  with_reducible rfl
                rotate_left
                · simp only [Act.put, List.setIfInBounds_toArray, List.set_cons_zero, List.set_cons_succ, i64_w, i32_w]
                  rfl
                refine pure_ (i := 4) (N := some 18) (v := ?_) (a' := ?_) #[true, true, false, true, true, false, false, false, false, false, false, false, false] rfl rfl (any_of HT_.out (by kernel_rfl)) (fun _ _ _ h => h) (Or.inl ⟨by rfl, ?_⟩) ?_ ?_
                rotate_left
                · intro w'
                  go_simp
                  with_reducible rfl
                rotate_left
                · simp only [Act.put, List.setIfInBounds_toArray, List.set_cons_zero, List.set_cons_succ, i64_w, i32_w]
                  rfl
                refine pure_ (i := 6) (N := some 20) (v := ?_) (a' := ?_) #[true, true, false, true, true, false, true, false, false, false, false, false, false] rfl rfl (any_of HT_.out (by kernel_rfl)) (fun _ _ _ h => h) (Or.inl ⟨by rfl, ?_⟩) ?_ ?_
                rotate_left
                · intro w'
                  go_simp
                  with_reducible rfl
                rotate_left
                · simp only [Act.put, List.setIfInBounds_toArray, List.set_cons_zero, List.set_cons_succ, i64_w, i32_w]
                  rfl
                refine take_ (i := 2) (N := some 16) (v := ?_) (a' := ?_) #[true, true, true, true, true, false, true, false, false, false, false, false, false] rfl rfl (take_ofW HT_.out HW_.out (by kernel_rfl)) (fun _ _ _ h => h) (Or.inl ⟨by rfl, ?_⟩) hHeld ?_ ?_
                rotate_left
                · rintro w' ⟨s0, s1⟩
                  go_simp
                  with_reducible rfl
                rotate_left
                · simp only [Act.put, List.setIfInBounds_toArray, List.set_cons_zero, List.set_cons_succ, i64_w, i32_w]
                  rfl
                refine take_ (i := 5) (N := some 19) (v := ?_) (a' := ?_) #[true, true, true, true, true, true, true, false, false, false, false, false, false] rfl rfl (take_ofW HT_.out HW_.out (by kernel_rfl)) (fun _ _ _ h => h) (Or.inl ⟨by rfl, ?_⟩) hHeld ?_ ?_
                rotate_left
                · rintro w' ⟨s0, s1⟩
                  go_simp
                  with_reducible rfl
                rotate_left
                · simp only [Act.put, List.setIfInBounds_toArray, List.set_cons_zero, List.set_cons_succ, i64_w, i32_w]
                  rfl
                refine one_ (i := 7) (N := some 21) #[true, true, true, true, true, true, true, true, false, false, false, false, false] rfl rfl (one_of HT_.out (by kernel_rfl)) (by decide) (fun K hK => ?_)
                refine goes_ Tryd.func71 (by kernel_rfl) rfl #[.int .i64 (rd l0 0), .int .i64 (rd l0 1), .slice A1 l1.length c1] (by rfl) rfl rfl (by (try simp only [List.map_toArray, List.map_cons, List.map_nil]); first | done | rfl | (simp only [List.length_drop, List.length_take]; rfl)) ?_
                with_reducible refine (excelize_CoordinatesToCellName.calls k (rd l0 0) (rd l0 1) _ _ l1 t114 none _ ?side1 ?side2 A6.out).mono ?_
                (case side1 => repeat (first | exact (Kd.C_below HR1.out HB.out) | (with_reducible refine Kd.C_alloc ?_ _) | (with_reducible refine Kd.C_drewN ?_ _) | (with_reducible refine Kd.C_drew ?_)))
                (case side2 => exact HC1.out)
                rintro e w17 ⟨rfl, hb⟩
                refine ⟨_, rfl, ?_⟩
                have n0_ := Aside0.mk (below_step (by repeat (first | (with_reducible first | exact HB.out | apply below_alloc | apply pw_below_drewN | apply below_drew1) | exact HB.out)) hb)
                clear HB
                have HB := n0_
                clear n0_
                (try clear hb)
                (try clear hb2)
                (try clear hk)
                (try clear hi)
                (try simp only [errW_none, errW_some])
                refine hK.out _ _ ⟨((HB.out.cell (World.block_lt_of_cell? w _ hw112_0)).trans hw112_0), ((HB.out.cell (World.block_lt_of_cell? w _ hw113_0)).trans hw113_0)⟩ (fun hHeld => ?_)
                clear hK K
                refine norm_ (a' := ?_) ?_ ?_
                rotate_left
                · show Act.put _ (some 21) _ = _
                  simp only [Act.put, List.setIfInBounds_toArray, List.set_cons_zero, List.set_cons_succ, i64_w, i32_w]
                  rfl
                refine pure_ (i := 8) (N := some 13) (v := ?_) (a' := ?_) #[true, true, true, true, true, true, true, true, true, false, false, false, false] rfl rfl (any_of HT_.out (by kernel_rfl)) (fun _ _ _ h => h) (Or.inl ⟨by rfl, ?_⟩) ?_ ?_
                rotate_left
                · intro w'
                  go_simp
                  with_reducible rfl
                rotate_left
                · simp only [Act.put, List.setIfInBounds_toArray, List.set_cons_zero, List.set_cons_succ, i64_w, i32_w]
                  rfl
                refine pure_ (i := 9) (N := some 22) (v := ?_) (a' := ?_) #[true, true, true, true, true, true, true, true, true, true, false, false, false] rfl rfl (any_of HT_.out (by kernel_rfl)) (fun _ _ _ h => h) (Or.inl ⟨by rfl, ?_⟩) ?_ ?_
                rotate_left
                · intro w'
                  go_simp
                  with_reducible rfl
                rotate_left
                · simp only [Act.put, List.setIfInBounds_toArray, List.set_cons_zero, List.set_cons_succ, i64_w, i32_w]
                  rfl
                refine pure_ (i := 10) (N := some 23) (v := ?_) (a' := ?_) #[true, true, true, true, true, true, true, true, true, true, true, false, false] rfl rfl (any_of HT_.out (by kernel_rfl)) (fun _ _ _ h => h) (Or.inl ⟨by rfl, ?_⟩) ?_ ?_
                rotate_left
                · intro w'
                  go_simp
                  with_reducible rfl
                rotate_left
                · simp only [Act.put, List.setIfInBounds_toArray, List.set_cons_zero, List.set_cons_succ, i64_w, i32_w]
                  rfl
                refine pure_ (i := 11) (N := some 6) (v := ?_) (a' := ?_) #[true, true, true, true, true, true, true, true, true, true, true, true, false] rfl rfl (any_of HT_.out (by kernel_rfl)) (fun _ _ _ h => h) (Or.inl ⟨by rfl, ?_⟩) ?_ ?_
                rotate_left
                · intro w'
                  go_simp
                  with_reducible rfl
                rotate_left
                · simp only [Act.put, List.setIfInBounds_toArray, List.set_cons_zero, List.set_cons_succ, i64_w, i32_w]
                  rfl
                refine pure_ (i := 12) (N := some 7) (v := ?_) (a' := ?_) #[true, true, true, true, true, true, true, true, true, true, true, true, true] rfl rfl (any_of HT_.out (by kernel_rfl)) (fun _ _ _ h => h) (Or.inl ⟨by rfl, ?_⟩) ?_ ?_
                rotate_left
                · intro w'
                  go_simp
                  with_reducible rfl
                rotate_left
                · simp only [Act.put, List.setIfInBounds_toArray, List.set_cons_zero, List.set_cons_succ, i64_w, i32_w]
                  rfl
                refine done_ (done_of HT_.out (by kernel_rfl)) ?_
                try go_wp2
                have n0_ := Aside0.mk (below_drew1 HB.out)
                clear HB
                have HB := n0_
                clear n0_
                have p117 : 0 ≤ (2 : Int) := (by omega)
                have q117 : 2 < (l0.length : Int) := of_decide_eq_true (by first | (with_reducible assumption) | assumption)
                obtain ⟨ad117, e117, hx117_0⟩ := Kd.at_int HR0.out 2 p117 q117
                have hw117_0 := hx117_0
                (try rw [show ((2 : Int)).toNat = 2 from rfl] at hw117_0)
                (try rw [show 2 * 1 = 2 from rfl] at hw117_0)
                (try simp only [Nat.reduceMul, Nat.reduceEqDiff, Go.Addr.add, ↓reduceIte] at hw117_0)
                obtain rfl : ad112 = ad117 := (by injection e117)
                (try simp only [show (2 : Int).toNat = 2 from rfl, Nat.reduceMul, Nat.reduceEqDiff, Go.Addr.add, ↓reduceIte] at hx117_0)
                have qi117 : (2 < l0.length) = True := eq_true (by omega)
                (try rw [show ((2 : Int)).toNat = 2 from rfl] at hx117_0)
                replace hx117_0 := (HB.out.cell (World.block_lt_of_cell? w _ hx117_0)).trans hx117_0
                replace p117 := eq_true p117
                replace q117 := eq_true q117
                have p118 : 0 ≤ (3 : Int) := (by omega)
                have q118 : 3 < (l0.length : Int) := of_decide_eq_true (by first | (with_reducible assumption) | assumption)
                obtain ⟨ad118, e118, hx118_0⟩ := Kd.at_int HR0.out 3 p118 q118
                have hw118_0 := hx118_0
                (try rw [show ((3 : Int)).toNat = 3 from rfl] at hw118_0)
                (try rw [show 3 * 1 = 3 from rfl] at hw118_0)
                (try simp only [Nat.reduceMul, Nat.reduceEqDiff, Go.Addr.add, ↓reduceIte] at hw118_0)
                obtain rfl : ad112 = ad118 := (by injection e118)
                (try simp only [show (3 : Int).toNat = 3 from rfl, Nat.reduceMul, Nat.reduceEqDiff, Go.Addr.add, ↓reduceIte] at hx118_0)
                have qi118 : (3 < l0.length) = True := eq_true (by omega)
                (try rw [show ((3 : Int)).toNat = 3 from rfl] at hx118_0)
                replace hx118_0 := (HB.out.cell (World.block_lt_of_cell? w _ hx118_0)).trans hx118_0
                replace p118 := eq_true p118
                replace q118 := eq_true q118
                refine start_ (n := 13) (S := fun w' => w'.cell? ⟨ad112.block, ad112.off + 2, none⟩ = some (.int .i64 (rd l0 2)) ∧ w'.cell? ⟨ad112.block, ad112.off + 3, none⟩ = some (.int .i64 (rd l0 3))) (ds := []) #[false, false, false, false, false, false, false, false, false, false, false, false, false] (by kernel_rfl) rfl rfl ⟨((HB.out.cell (World.block_lt_of_cell? w _ hw117_0)).trans hw117_0), ((HB.out.cell (World.block_lt_of_cell? w _ hw118_0)).trans hw118_0)⟩ (fun hHeld => ?_); refine with_tabW excelize_coordinatesToRangeRef.tab6 excelize_coordinatesToRangeRef.bits6 (fun HT_ HW_ => ?_)
                generalize w17.drew = w18 at HB hx117_0 hx118_0 hHeld ⊢
                refine pure_ (i := 0) (N := some 28) (v := ?_) (a' := ?_) #[true, false, false, false, false, false, false, false, false, false, false, false, false] rfl rfl (any_of HT_.out (by kernel_rfl)) (fun _ _ _ h => h) (Or.inl ⟨by rfl, ?_⟩) ?_ ?_
                rotate_left
                · intro w'
                  go_simp
                  with_reducible rfl
                rotate_left
                · simp only [Act.put, List.setIfInBounds_toArray, List.set_cons_zero, List.set_cons_succ, i64_w, i32_w]
                  rfl
                refine pure_ (i := 1) (N := some 29) (v := ?_) (a' := ?_) #[true, true, false, false, false, false, false, false, false, false, false, false, false] rfl rfl (any_of HT_.out (by kernel_rfl)) (fun _ _ _ h => h) (Or.inl ⟨by rfl, ?_⟩) ?_ ?_
                rotate_left
                · intro w'
                  go_simp
                  with_reducible rfl
                rotate_left
                · simp only [Act.put, List.setIfInBounds_toArray, List.set_cons_zero, List.set_cons_succ, i64_w, i32_w]
                  rfl
                refine pure_ (i := 3) (N := some 31) (v := ?_) (a' := ?_) #[true, true, false, true, false, false, false, false, false, false, false, false, false] rfl rfl (any_of HT_.out (by kernel_rfl)) (fun _ _ _ h => h) (Or.inl ⟨by rfl, ?_⟩) ?_ ?_
                rotate_left
                · intro w'
                  go_simp
                  with_reducible rfl
                rotate_left
                · simp only [Act.put, List.setIfInBounds_toArray, List.set_cons_zero, List.set_cons_succ, i64_w, i32_w]
                  rfl
                refine pure_ (i := 4) (N := some 32) (v := ?_) (a' := ?_) #[true, true, false, true, true, false, false, false, false, false, false, false, false] rfl rfl (any_of HT_.out (by kernel_rfl)) (fun _ _ _ h => h) (Or.inl ⟨by rfl, ?_⟩) ?_ ?_
                rotate_left
                · intro w'
                  go_simp
                  with_reducible rfl
                rotate_left
                · simp only [Act.put, List.setIfInBounds_toArray, List.set_cons_zero, List.set_cons_succ, i64_w, i32_w]
                  rfl
                refine pure_ (i := 6) (N := some 34) (v := ?_) (a' := ?_) #[true, true, false, true, true, false, true, false, false, false, false, false, false] rfl rfl (any_of HT_.out (by kernel_rfl)) (fun _ _ _ h => h) (Or.inl ⟨by rfl, ?_⟩) ?_ ?_
                rotate_left
                · intro w'
                  go_simp
                  with_reducible rfl
                rotate_left
                · simp only [Act.put, List.setIfInBounds_toArray, List.set_cons_zero, List.set_cons_succ, i64_w, i32_w]
                  rfl
                refine take_ (i := 2) (N := some 30) (v := ?_) (a' := ?_) #[true, true, true, true, true, false, true, false, false, false, false, false, false] rfl rfl (take_ofW HT_.out HW_.out (by kernel_rfl)) (fun _ _ _ h => h) (Or.inl ⟨by rfl, ?_⟩) hHeld ?_ ?_
                rotate_left
                · rintro w' ⟨s0, s1⟩
                  go_simp
                  with_reducible rfl
                rotate_left
                · simp only [Act.put, List.setIfInBounds_toArray, List.set_cons_zero, List.set_cons_succ, i64_w, i32_w]
                  rfl
                refine take_ (i := 5) (N := some 33) (v := ?_) (a' := ?_) #[true, true, true, true, true, true, true, false, false, false, false, false, false] rfl rfl (take_ofW HT_.out HW_.out (by kernel_rfl)) (fun _ _ _ h => h) (Or.inl ⟨by rfl, ?_⟩) hHeld ?_ ?_
                rotate_left
                · rintro w' ⟨s0, s1⟩
                  go_simp
                  with_reducible rfl
                rotate_left
                · simp only [Act.put, List.setIfInBounds_toArray, List.set_cons_zero, List.set_cons_succ, i64_w, i32_w]
                  rfl
                refine one_ (i := 7) (N := some 35) #[true, true, true, true, true, true, true, true, false, false, false, false, false] rfl rfl (one_of HT_.out (by kernel_rfl)) (by decide) (fun K hK => ?_)
                refine goes_ Tryd.func71 (by kernel_rfl) rfl #[.int .i64 (rd l0 2), .int .i64 (rd l0 3), .slice A1 l1.length c1] (by rfl) rfl rfl (by (try simp only [List.map_toArray, List.map_cons, List.map_nil]); first | done | rfl | (simp only [List.length_drop, List.length_take]; rfl)) ?_
                with_reducible refine (excelize_CoordinatesToCellName.calls k (rd l0 2) (rd l0 3) _ _ l1 t119 (some q121) _ ?side1 ?side2 A9.out).mono ?_
                (case side1 => repeat (first | exact (Kd.C_below HR1.out HB.out) | (with_reducible refine Kd.C_alloc ?_ _) | (with_reducible refine Kd.C_drewN ?_ _) | (with_reducible refine Kd.C_drew ?_)))
                (case side2 => exact HC1.out)
                rintro e w19 ⟨rfl, hb⟩
                refine ⟨_, rfl, ?_⟩
                have n0_ := Aside0.mk (below_step (by repeat (first | (with_reducible first | exact HB.out | apply below_alloc | apply pw_below_drewN | apply below_drew1) | exact HB.out)) hb)
                clear HB
                have HB := n0_
                clear n0_
                (try clear hb)
                (try clear hb2)
                (try clear hk)
                (try clear hi)
                (try simp only [errW_none, errW_some])
                refine hK.out _ _ ⟨((HB.out.cell (World.block_lt_of_cell? w _ hw117_0)).trans hw117_0), ((HB.out.cell (World.block_lt_of_cell? w _ hw118_0)).trans hw118_0)⟩ (fun hHeld => ?_)
                clear hK K
                refine norm_ (a' := ?_) ?_ ?_
                rotate_left
                · show Act.put _ (some 35) _ = _
                  simp only [Act.put, List.setIfInBounds_toArray, List.set_cons_zero, List.set_cons_succ, i64_w, i32_w]
                  rfl
                refine pure_ (i := 8) (N := some 27) (v := ?_) (a' := ?_) #[true, true, true, true, true, true, true, true, true, false, false, false, false] rfl rfl (any_of HT_.out (by kernel_rfl)) (fun _ _ _ h => h) (Or.inl ⟨by rfl, ?_⟩) ?_ ?_
                rotate_left
                · intro w'
                  go_simp
                  with_reducible rfl
                rotate_left
                · simp only [Act.put, List.setIfInBounds_toArray, List.set_cons_zero, List.set_cons_succ, i64_w, i32_w]
                  rfl
                refine pure_ (i := 9) (N := some 36) (v := ?_) (a' := ?_) #[true, true, true, true, true, true, true, true, true, true, false, false, false] rfl rfl (any_of HT_.out (by kernel_rfl)) (fun _ _ _ h => h) (Or.inl ⟨by rfl, ?_⟩) ?_ ?_
                rotate_left
                · intro w'
                  go_simp
                  with_reducible rfl
                rotate_left
                · simp only [Act.put, List.setIfInBounds_toArray, List.set_cons_zero, List.set_cons_succ, i64_w, i32_w]
                  rfl
                refine pure_ (i := 10) (N := some 37) (v := ?_) (a' := ?_) #[true, true, true, true, true, true, true, true, true, true, true, false, false] rfl rfl (any_of HT_.out (by kernel_rfl)) (fun _ _ _ h => h) (Or.inl ⟨by rfl, ?_⟩) ?_ ?_
                rotate_left
                · intro w'
                  go_simp
                  with_reducible rfl
                rotate_left
                · simp only [Act.put, List.setIfInBounds_toArray, List.set_cons_zero, List.set_cons_succ, i64_w, i32_w]
                  rfl
                refine pure_ (i := 11) (N := some 8) (v := ?_) (a' := ?_) #[true, true, true, true, true, true, true, true, true, true, true, true, false] rfl rfl (any_of HT_.out (by kernel_rfl)) (fun _ _ _ h => h) (Or.inl ⟨by rfl, ?_⟩) ?_ ?_
                rotate_left
                · intro w'
                  go_simp
                  with_reducible rfl
                rotate_left
                · simp only [Act.put, List.setIfInBounds_toArray, List.set_cons_zero, List.set_cons_succ, i64_w, i32_w]
                  rfl
                refine pure_ (i := 12) (N := some 7) (v := ?_) (a' := ?_) #[true, true, true, true, true, true, true, true, true, true, true, true, true] rfl rfl (any_of HT_.out (by kernel_rfl)) (fun _ _ _ h => h) (Or.inl ⟨by rfl, ?_⟩) ?_ ?_
                rotate_left
                · intro w'
                  go_simp
                  with_reducible rfl
                rotate_left
                · simp only [Act.put, List.setIfInBounds_toArray, List.set_cons_zero, List.set_cons_succ, i64_w, i32_w]
                  rfl
                refine done_ (done_of HT_.out (by kernel_rfl)) ?_
                try go_wp2
                go_ret2
                exact ⟨by first | rfl | (simp [errW_none, errW_some] <;> rfl) | (simp [*, errW_none, errW_some] <;> rfl), by repeat (first | (with_reducible first | exact HB.out | apply below_alloc | apply pw_below_drewN | apply below_drew1) | exact HB.out)⟩
            · rw [if_neg c8] at H
              exact absurd H (by simp)
          · rw [if_neg c7] at H
            exact absurd H (by simp)
        · have H1 : (some ((⟨#[]⟩ : ByteArray), some q116)) = some (r1, r2) := by rw [if_neg (show ¬ (some q116).isNone = true by simp)] at H; exact H
          clear H
          have H := H1
          clear H1
          try simp only [errW_none, errW_some]
          simp only [Option.some.injEq, Prod.mk.injEq] at H
          obtain ⟨rfl, rfl⟩ := H
          go_enter Tryd.func72, Tryd.ntmps72
          try go_wp2
          have n0_ := Aside0.mk (below_drew1 HB.out)
          clear HB
          have HB := n0_
          clear n0_
          have p112 : 0 ≤ (0 : Int) := (by omega)
          have q112 : 0 < (l0.length : Int) := of_decide_eq_true (by first | (with_reducible assumption) | assumption)
          obtain ⟨ad112, e112, hx112_0⟩ := Kd.at_int HR0.out 0 p112 q112
          have hw112_0 := hx112_0
          (try rw [show ((0 : Int)).toNat = 0 from rfl] at hw112_0)
          (try rw [show 0 * 1 = 0 from rfl] at hw112_0)
          (try rw [Addr.add_zero'] at hw112_0)
          cases e112
          have qi112 : (0 < l0.length) = True := eq_true (by omega)
          (try rw [show ((0 : Int)).toNat = 0 from rfl] at hx112_0)
          (try rw [Addr.add_zero'] at hx112_0)
          replace hx112_0 := (HB.out.cell (World.block_lt_of_cell? w _ hx112_0)).trans hx112_0
          replace p112 := eq_true p112
          replace q112 := eq_true q112
          have p113 : 0 ≤ (1 : Int) := (by omega)
          have q113 : 1 < (l0.length : Int) := of_decide_eq_true (by first | (with_reducible assumption) | assumption)
          obtain ⟨ad113, e113, hx113_0⟩ := Kd.at_int HR0.out 1 p113 q113
          have hw113_0 := hx113_0
          (try rw [show ((1 : Int)).toNat = 1 from rfl] at hw113_0)
          (try rw [show 1 * 1 = 1 from rfl] at hw113_0)
          (try simp only [Nat.reduceMul, Nat.reduceEqDiff, Go.Addr.add, ↓reduceIte] at hw113_0)
          obtain rfl : ad112 = ad113 := (by injection e113)
          (try simp only [show (1 : Int).toNat = 1 from rfl, Nat.reduceMul, Nat.reduceEqDiff, Go.Addr.add, ↓reduceIte] at hx113_0)
          have qi113 : (1 < l0.length) = True := eq_true (by omega)
          (try rw [show ((1 : Int)).toNat = 1 from rfl] at hx113_0)
          replace hx113_0 := (HB.out.cell (World.block_lt_of_cell? w _ hx113_0)).trans hx113_0
          replace p113 := eq_true p113
          replace q113 := eq_true q113
          refine start_ (n := 13) (S := fun w' => w'.cell? ad112 = some (.int .i64 (rd l0 0)) ∧ w'.cell? ⟨ad112.block, ad112.off + 1, none⟩ = some (.int .i64 (rd l0 1))) (ds := []) #[false, false, false, false, false, false, false, false, false, false, false, false, false] (by kernel_rfl) rfl rfl ⟨((HB.out.cell (World.block_lt_of_cell? w _ hw112_0)).trans hw112_0), ((HB.out.cell (World.block_lt_of_cell? w _ hw113_0)).trans hw113_0)⟩ (fun hHeld => ?_); refine with_tabW excelize_coordinatesToRangeRef.tab3 excelize_coordinatesToRangeRef.bits3 (fun HT_ HW_ => ?_)
          generalize w.drew = w20 at HB hx112_0 hx113_0 hHeld ⊢
          refine pure_ (i := 0) (N := some 14) (v := ?_) (a' := ?_) #[true, false, false, false, false, false, false, false, false, false, false, false, false] rfl rfl (any_of HT_.out (by kernel_rfl)) (fun _ _ _ h => h) (Or.inl ⟨by rfl, ?_⟩) ?_ ?_
          rotate_left
          · intro w'
            go_simp
            with_reducible rfl
          rotate_left
          · simp only [Act.put, List.setIfInBounds_toArray, List.set_cons_zero, List.set_cons_succ, i64_w, i32_w]
            rfl
          refine pure_ (i := 1) (N := some 15) (v := ?_) (a' := ?_) #[true, true, false, false, false, false, false, false, false, false, false, false, false] rfl rfl (any_of HT_.out (by kernel_rfl)) (fun _ _ _ h => h) (Or.inl ⟨by rfl, ?_⟩) ?_ ?_
          rotate_left
          · intro w'
            go_simp
            with_reducible rfl
          rotate_left
          · simp only [Act.put, List.setIfInBounds_toArray, List.set_cons_zero, List.set_cons_succ, i64_w, i32_w]
            rfl
          refine pure_ (i := 3) (N := some 17) (v := ?_) (a' := ?_) #[true, true, false, true, false, false, false, false, false, false, false, false, false] rfl rfl (any_of HT_.out (by kernel_rfl)) (fun _ _ _ h => h) (Or.inl ⟨by rfl, ?_⟩) ?_ ?_
          rotate_left
          · intro w'
            go_simp
            with_reducible rfl
          rotate_left
          · simp only [Act.put, List.setIfInBounds_toArray, List.set_cons_zero, List.set_cons_succ, i64_w, i32_w]
            rfl
          refine pure_ (i := 4) (N := some 18) (v := ?_) (a' := ?_) #[true, true, false, true, true, false, false, false, false, false, false, false, false] rfl rfl (any_of HT_.out (by kernel_rfl)) (fun _ _ _ h => h) (Or.inl ⟨by rfl, ?_⟩) ?_ ?_
          rotate_left
          · intro w'
            go_simp
            with_reducible rfl
          rotate_left
          · simp only [Act.put, List.setIfInBounds_toArray, List.set_cons_zero, List.set_cons_succ, i64_w, i32_w]
            rfl
          refine pure_ (i := 6) (N := some 20) (v := ?_) (a' := ?_) #[true, true, false, true, true, false, true, false, false, false, false, false, false] rfl rfl (any_of HT_.out (by kernel_rfl)) (fun _ _ _ h => h) (Or.inl ⟨by rfl, ?_⟩) ?_ ?_
          rotate_left
          · intro w'
            go_simp
            with_reducible rfl
          rotate_left
          · simp only [Act.put, List.setIfInBounds_toArray, List.set_cons_zero, List.set_cons_succ, i64_w, i32_w]
            rfl
          refine take_ (i := 2) (N := some 16) (v := ?_) (a' := ?_) #[true, true, true, true, true, false, true, false, false, false, false, false, false] rfl rfl (take_ofW HT_.out HW_.out (by kernel_rfl)) (fun _ _ _ h => h) (Or.inl ⟨by rfl, ?_⟩) hHeld ?_ ?_
          rotate_left
          · rintro w' ⟨s0, s1⟩
            go_simp
            with_reducible rfl
          rotate_left
          · simp only [Act.put, List.setIfInBounds_toArray, List.set_cons_zero, List.set_cons_succ, i64_w, i32_w]
            rfl
          refine take_ (i := 5) (N := some 19) (v := ?_) (a' := ?_) #[true, true, true, true, true, true, true, false, false, false, false, false, false] rfl rfl (take_ofW HT_.out HW_.out (by kernel_rfl)) (fun _ _ _ h => h) (Or.inl ⟨by rfl, ?_⟩) hHeld ?_ ?_
          rotate_left
          · rintro w' ⟨s0, s1⟩
            go_simp
            with_reducible rfl
          rotate_left
          · simp only [Act.put, List.setIfInBounds_toArray, List.set_cons_zero, List.set_cons_succ, i64_w, i32_w]
            rfl
          refine one_ (i := 7) (N := some 21) #[true, true, true, true, true, true, true, true, false, false, false, false, false] rfl rfl (one_of HT_.out (by kernel_rfl)) (by decide) (fun K hK => ?_)
          refine goes_ Tryd.func71 (by kernel_rfl) rfl #[.int .i64 (rd l0 0), .int .i64 (rd l0 1), .slice A1 l1.length c1] (by rfl) rfl rfl (by (try simp only [List.map_toArray, List.map_cons, List.map_nil]); first | done | rfl | (simp only [List.length_drop, List.length_take]; rfl)) ?_
          with_reducible refine (excelize_CoordinatesToCellName.calls k (rd l0 0) (rd l0 1) _ _ l1 t114 (some q116) _ ?side1 ?side2 A6.out).mono ?_
          (case side1 => repeat (first | exact (Kd.C_below HR1.out HB.out) | (with_reducible refine Kd.C_alloc ?_ _) | (with_reducible refine Kd.C_drewN ?_ _) | (with_reducible refine Kd.C_drew ?_)))
          (case side2 => exact HC1.out)
          rintro e w21 ⟨rfl, hb⟩
          refine ⟨_, rfl, ?_⟩
          have n0_ := Aside0.mk (below_step (by repeat (first | (with_reducible first | exact HB.out | apply below_alloc | apply pw_below_drewN | apply below_drew1) | exact HB.out)) hb)
          clear HB
          have HB := n0_
          clear n0_
          (try clear hb)
          (try clear hb2)
          (try clear hk)
          (try clear hi)
          (try simp only [errW_none, errW_some])
          refine hK.out _ _ ⟨((HB.out.cell (World.block_lt_of_cell? w _ hw112_0)).trans hw112_0), ((HB.out.cell (World.block_lt_of_cell? w _ hw113_0)).trans hw113_0)⟩ (fun hHeld => ?_)
          clear hK K
          refine norm_ (a' := ?_) ?_ ?_
          rotate_left
          · show Act.put _ (some 21) _ = _
            simp only [Act.put, List.setIfInBounds_toArray, List.set_cons_zero, List.set_cons_succ, i64_w, i32_w]
            rfl
          refine pure_ (i := 8) (N := some 13) (v := ?_) (a' := ?_) #[true, true, true, true, true, true, true, true, true, false, false, false, false] rfl rfl (any_of HT_.out (by kernel_rfl)) (fun _ _ _ h => h) (Or.inl ⟨by rfl, ?_⟩) ?_ ?_
          rotate_left
          · intro w'
            go_simp
            with_reducible rfl
          rotate_left
          · simp only [Act.put, List.setIfInBounds_toArray, List.set_cons_zero, List.set_cons_succ, i64_w, i32_w]
            rfl
          refine pure_ (i := 9) (N := some 22) (v := ?_) (a' := ?_) #[true, true, true, true, true, true, true, true, true, true, false, false, false] rfl rfl (any_of HT_.out (by kernel_rfl)) (fun _ _ _ h => h) (Or.inl ⟨by rfl, ?_⟩) ?_ ?_
          rotate_left
          · intro w'
            go_simp
            with_reducible rfl
          rotate_left
          · simp only [Act.put, List.setIfInBounds_toArray, List.set_cons_zero, List.set_cons_succ, i64_w, i32_w]
            rfl
          refine pure_ (i := 10) (N := some 23) (v := ?_) (a' := ?_) #[true, true, true, true, true, true, true, true, true, true, true, false, false] rfl rfl (any_of HT_.out (by kernel_rfl)) (fun _ _ _ h => h) (Or.inl ⟨by rfl, ?_⟩) ?_ ?_
          rotate_left
          · intro w'
            go_simp
            with_reducible rfl
          rotate_left
          · simp only [Act.put, List.setIfInBounds_toArray, List.set_cons_zero, List.set_cons_succ, i64_w, i32_w]
            rfl
          refine pure_ (i := 11) (N := some 6) (v := ?_) (a' := ?_) #[true, true, true, true, true, true, true, true, true, true, true, true, false] rfl rfl (any_of HT_.out (by kernel_rfl)) (fun _ _ _ h => h) (Or.inl ⟨by rfl, ?_⟩) ?_ ?_
          rotate_left
          · intro w'
            go_simp
            with_reducible rfl
          rotate_left
          · simp only [Act.put, List.setIfInBounds_toArray, List.set_cons_zero, List.set_cons_succ, i64_w, i32_w]
            rfl
          refine pure_ (i := 12) (N := some 7) (v := ?_) (a' := ?_) #[true, true, true, true, true, true, true, true, true, true, true, true, true] rfl rfl (any_of HT_.out (by kernel_rfl)) (fun _ _ _ h => h) (Or.inl ⟨by rfl, ?_⟩) ?_ ?_
          rotate_left
          · intro w'
            go_simp
            with_reducible rfl
          rotate_left
          · simp only [Act.put, List.setIfInBounds_toArray, List.set_cons_zero, List.set_cons_succ, i64_w, i32_w]
            rfl
          refine done_ (done_of HT_.out (by kernel_rfl)) ?_
          try go_wp2
          go_ret2
          exact ⟨by first | rfl | (simp [errW_none, errW_some] <;> rfl) | (simp [*, errW_none, errW_some] <;> rfl), by repeat (first | (with_reducible first | exact HB.out | apply below_alloc | apply pw_below_drewN | apply below_drew1) | exact HB.out)⟩
      · rw [if_neg c5] at H
        exact absurd H (by simp)
    · rw [if_neg c4] at H
      exact absurd H (by simp)
  · rw [if_neg c3] at H
    exact absurd H (by simp)

end Go.Proofs.YtfbenlenihlpbaaDoor.PAc
end

section
namespace Go.Proofs.YtfbenlenihlpbaaDoor.PAc
open Go.RowKit Go.Proofs.YtfbenlenihlpbaaDoorW.PrintWords Go.Proofs.YtfbenlenihlpbaaDoorW.PrintLast Go.Proofs.YtfbenlenihlpbaaDoorW.PrintMore
attribute [local go_sem] max2_int min2_int max_two min_two max_three min_three max_four min_four   -- for this text's walks alone
set_option linter.unusedVariables false
set_option linter.unusedSimpArgs false

/-! ### excelize_zzContains: function 75 -/
def excelize_zzContains.f (k : Nat) (a0 : ByteArray) (a1 : ByteArray) : Option (Bool) := (Go.Proofs.YtfbenlenihlpbaaDoor.PFnCols.excelize_zzIndex.f k a0 a1).bind fun t122 => (some (decide (t122 ≥ 0)))
theorem excelize_zzContains.mono : ∀ a0 a1 k, LeO (excelize_zzContains.f k a0 a1) (excelize_zzContains.f (k + 1) a0 a1) := by
  intro a0 a1 k
  unfold excelize_zzContains.f
  repeat' first
      | (with_reducible exact Go.Proofs.YtfbenlenihlpbaaDoor.PFnCols.excelize_zzIndex.mono _ _ _)
      | (with_reducible exact LeO.refl _)
      | (with_reducible exact LeO.none _)
      | (with_reducible refine LeO.ite ?_ ?_)
      | (with_reducible refine LeO.bind ?_ (fun _ => ?_))
      | exact Go.Proofs.YtfbenlenihlpbaaDoor.PFnCols.excelize_zzIndex.mono _ _ _
      | exact LeO.none _
      | refine LeO.ite ?_ ?_
      | refine LeO.bind ?_ (fun _ => ?_)
set_option maxHeartbeats 8000000 in
set_option maxRecDepth 100000 in
theorem excelize_zzContains.calls (k : Nat) (a0 : ByteArray) (a1 : ByteArray) (r : Bool) (w : World) (h : excelize_zzContains.f k a0 a1 = some r) :
    Calls Tryd.prog 75 #[.string a0, .string a1] w fun e w' => e = .returned (.bool r) ∧ Drawn0 w w' := by
  have H : ((Go.Proofs.YtfbenlenihlpbaaDoor.PFnCols.excelize_zzIndex.f k a0 a1).bind fun t122 => (some (decide (t122 ≥ 0)))) = some r := h
  clear h
  replace H := Option.bind_eq_some_iff.mp H
  obtain ⟨t122, A30, H⟩ := H
  replace H : (some (decide (t122 ≥ 0))) = some r := H
  have A3 := Aside0.mk A30
  clear A30
  obtain rfl := Option.some.inj H
  go_enter Tryd.func75, Tryd.ntmps75
  go_wp2_with (first | ((with_reducible refine gate_callee (f := 85) rfl ?_); refine goesL_ (some 7) rfl rfl Tryd.func85 (by kernel_rfl) rfl #[.string a0, .string a1] rfl (by (try simp only [List.map_toArray, List.map_cons, List.map_nil]); first | done | rfl | (simp only [List.length_drop, List.length_take]; rfl)) ?_; (with_reducible refine (Go.Proofs.YtfbenlenihlpbaaDoor.PFnCols.excelize_zzIndex.calls k a0 a1 t122 _ A3.out).mono ?_); rintro e w' ⟨rfl, ⟨nd, rfl⟩⟩; refine ⟨_, rfl, ?_⟩))
  go_ret
  exact ⟨by first | rfl | (simp; done) | (simp [*]; done), by repeat (first | exact Drawn0.refl _ | apply Drawn0.step)⟩

end Go.Proofs.YtfbenlenihlpbaaDoor.PAc
end
