/- Contracts of functions that the text "Oa" uses: the call ends in what the plain Lean function says, where that says something. Written by a program of this session. No conditions. -/
import Derived.Test.YtfbenlenihlpbaaDoorProg
import Derived.Below
import Derived.Deep.Draws
import Derived.Deep.AppendLies
import Derived.Maps.AppendAt
import Derived.OwnWalk
import Derived.Laws.BytesArg
import Derived.Laws.MakeOwn
import Derived.Laws.OwnMore
import Derived.Deep.OwnRows
import Derived.Tactics
import Derived.Lib.ConvBytes
import Derived.Laws.Slices
import Derived.WalkKit
import Derived.KernelRfl
import Derived.RowKit3
import Derived.Deep.LoopGhost
import Derived.Deep.QuietTactic
import Derived.BigQuiet
import Derived.WideLaws
import Derived.Deep.DeepCutAuto
import Derived.Deep.CutBlock
import Derived.Deep.RegionHeld3
import Derived.Laws.Rows
import Derived.Lib.AppendStr
import Derived.ArgAppend
import Derived.Laws.IdiomCopy
import Derived.OrdersHeld
import Derived.Laws.BitsLemmas
import Derived.RowKit
import Derived.Test.YtfbenlenihlpbaaDoorGiven
import Derived.Test.YtfbenlenihlpbaaDoorGivenC
import Derived.Test.YtfbenlenihlpbaaDoorPColumnNamex1
import Derived.Test.YtfbenlenihlpbaaDoorPDigitsx1
import Derived.Test.YtfbenlenihlpbaaDoorPgridInx1
import Derived.Test.YtfbenlenihlpbaaDoorWWords
import Derived.Test.YtfbenlenihlpbaaDoorWLast
import Derived.Test.YtfbenlenihlpbaaDoorWTab
import Derived.Test.YtfbenlenihlpbaaDoorWFour
import Derived.Test.YtfbenlenihlpbaaDoorWQPut
import Derived.Test.YtfbenlenihlpbaaDoorWApart
import Derived.Test.YtfbenlenihlpbaaDoorWArr
import Derived.Test.YtfbenlenihlpbaaDoorWZeros
import Derived.Test.YtfbenlenihlpbaaDoorWFoot
import Derived.Test.YtfbenlenihlpbaaDoorWKept
import Derived.Test.YtfbenlenihlpbaaDoorWShare
import Derived.Test.YtfbenlenihlpbaaDoorWN
import Derived.Test.YtfbenlenihlpbaaDoorWFootNe
import Derived.Test.YtfbenlenihlpbaaDoorWAt
import Derived.Test.YtfbenlenihlpbaaDoorWEqStruct
import Derived.Test.YtfbenlenihlpbaaDoorWRepsOne
import Derived.Test.YtfbenlenihlpbaaDoorWInv
import Derived.Test.YtfbenlenihlpbaaDoorWInvWords
import Derived.Test.YtfbenlenihlpbaaDoorWGuard
import Derived.Test.YtfbenlenihlpbaaDoorWNEv
import Derived.Test.YtfbenlenihlpbaaDoorWMore
section
namespace Go.Proofs.YtfbenlenihlpbaaDoor.POa
open Go.RowKit Go.Proofs.YtfbenlenihlpbaaDoorW.PrintWords Go.Proofs.YtfbenlenihlpbaaDoorW.PrintLast Go.Proofs.YtfbenlenihlpbaaDoorW.PrintMore
attribute [local go_sem] max2_int min2_int max_two min_two max_three min_three max_four min_four   -- for this text's walks alone
set_option linter.unusedVariables false
set_option linter.unusedSimpArgs false



def errW : Option Int → Value
  | none => .nilIface
  | some c => .iface 0 (.int .i64 c)
theorem errW_none : errW none = .nilIface := rfl
theorem errW_some (c : Int) : errW (some c) = .iface 0 (.int .i64 c) := rfl

theorem info5 : (Tryd.prog.info? 5).map (fun i => (i.zero, i.size, i.bytes)) = some (some (.int .u8 0), 1, 1) := by kernel_rfl
-- the values' own types

end Go.Proofs.YtfbenlenihlpbaaDoor.POa
end

section
namespace Go.Proofs.YtfbenlenihlpbaaDoor.POa
open Go.RowKit Go.Proofs.YtfbenlenihlpbaaDoorW.PrintWords Go.Proofs.YtfbenlenihlpbaaDoorW.PrintLast Go.Proofs.YtfbenlenihlpbaaDoorW.PrintMore
attribute [local go_sem] max2_int min2_int max_two min_two max_three min_three max_four min_four   -- for this text's walks alone
set_option linter.unusedVariables false
set_option linter.unusedSimpArgs false

/-! ### excelize_zzColumnName: function 104 -/
mutual
def excelize_zzColumnName.l0 : Nat → Int → Int → Int → Option (ByteArray)
  | 0, _, _, _ => none
  | k + 1, x0, x3, x4 => if x4 > 0 then (excelize_zzColumnName.l0 k x0 (wrap64 (x3 + 1)) (wrap64 (Int.tdiv (wrap64 (x4 - 1)) 26))) else (if 0 ≤ x3 then (if (x3 : Int).toNat ≤ 281474976710656 then (excelize_zzColumnName.l1 k x0 x3 (List.replicate (x3 : Int).toNat 0)) else (none)) else (none))
def excelize_zzColumnName.l1 : Nat → Int → Int → List Int → Option (ByteArray)
  | 0, _, _, _ => none
  | k + 1, x0, x3, x5 => if x0 > 0 then (if 0 ≤ (wrap64 (x3 - 1)) then (if (wrap64 (x3 - 1)) < (x5.length : Int) then (excelize_zzColumnName.l1 k (wrap64 (Int.tdiv (wrap64 (x0 - 1)) 26)) (wrap64 (x3 - 1)) (x5.set ((wrap64 (x3 - 1)) : Int).toNat ((wrap64 ((Int.tmod (wrap64 (x0 - 1)) 26) + 65)) % 256))) else (none)) else (none)) else (some (strOfNums x5))
end
def excelize_zzColumnName.f (k : Nat) (a0 : Int) : Option (ByteArray) := excelize_zzColumnName.l0 k a0 0 a0
theorem excelize_zzColumnName.mono_l : ∀ k, (∀ y0 y1 y2, LeO (excelize_zzColumnName.l0 k y0 y1 y2) (excelize_zzColumnName.l0 (k + 1) y0 y1 y2)) ∧ (∀ y0 y1 y2, LeO (excelize_zzColumnName.l1 k y0 y1 y2) (excelize_zzColumnName.l1 (k + 1) y0 y1 y2))
  | 0 => ⟨fun _ _ _ r h => by simp [excelize_zzColumnName.l0] at h, fun _ _ _ r h => by simp [excelize_zzColumnName.l1] at h⟩
  | k + 1 => by
    obtain ⟨ih0, ih1⟩ := excelize_zzColumnName.mono_l k
    refine ⟨?_, ?_⟩
    · intro y0 y1 y2
      unfold excelize_zzColumnName.l0
      repeat' first
      | (with_reducible exact ih0 _ _ _)
      | (with_reducible exact ih1 _ _ _)
      | (with_reducible exact LeO.refl _)
      | (with_reducible exact LeO.none _)
      | (with_reducible refine LeO.ite ?_ ?_)
      | (with_reducible refine LeO.bind ?_ (fun _ => ?_))
      | exact ih0 _ _ _
      | exact ih1 _ _ _
      | exact LeO.none _
      | refine LeO.ite ?_ ?_
      | refine LeO.bind ?_ (fun _ => ?_)
    · intro y0 y1 y2
      unfold excelize_zzColumnName.l1
      repeat' first
      | (with_reducible exact ih0 _ _ _)
      | (with_reducible exact ih1 _ _ _)
      | (with_reducible exact LeO.refl _)
      | (with_reducible exact LeO.none _)
      | (with_reducible refine LeO.ite ?_ ?_)
      | (with_reducible refine LeO.bind ?_ (fun _ => ?_))
      | exact ih0 _ _ _
      | exact ih1 _ _ _
      | exact LeO.none _
      | refine LeO.ite ?_ ?_
      | refine LeO.bind ?_ (fun _ => ?_)
theorem excelize_zzColumnName.mono : ∀ a0 k, LeO (excelize_zzColumnName.f k a0) (excelize_zzColumnName.f (k + 1) a0) := by
  intro a0 k
  obtain ⟨ih0, ih1⟩ := excelize_zzColumnName.mono_l k
  unfold excelize_zzColumnName.f
  repeat' first
      | (with_reducible exact ih0 _ _ _)
      | (with_reducible exact ih1 _ _ _)
      | (with_reducible exact LeO.refl _)
      | (with_reducible exact LeO.none _)
      | (with_reducible refine LeO.ite ?_ ?_)
      | (with_reducible refine LeO.bind ?_ (fun _ => ?_))
      | exact ih0 _ _ _
      | exact ih1 _ _ _
      | exact LeO.none _
      | refine LeO.ite ?_ ?_
      | refine LeO.bind ?_ (fun _ => ?_)
set_option maxHeartbeats 8000000 in
set_option maxRecDepth 100000 in
theorem excelize_zzColumnName.calls (k : Nat) (a0 : Int) (r : ByteArray) (w : World) (h : excelize_zzColumnName.f k a0 = some r) :
    Calls Tryd.prog 104 #[.int .i64 a0] w fun e w' => e = .returned (.string r) ∧ Below w.heap.size w w' := by
  have HB := Aside0.mk (Below.refl w.heap.size w)
  have H : (excelize_zzColumnName.l0 k a0 0 a0) = some r := h
  clear h
  have H' := Aside0.mk H
  clear H
  go_enter Tryd.func104, Tryd.ntmps104
  go_wp2
  go_loopg [3, 4] k (fun kq v3 v4 w' => ∃ (x3_1 : Int) (x4_1 : Int), v3 = .int .i64 x3_1 ∧ v4 = .int .i64 x4_1 ∧ Aside0 (excelize_zzColumnName.l0 kq a0 x3_1 x4_1 = some r) ∧ Aside0 (kq ≤ k) ∧ Aside0 (Below w.heap.size w w'))
  case atStart => exact ⟨(0), (a0), (by first | rfl | (simp; done) | (simp [*]; done)), (by first | rfl | (simp; done) | (simp [*]; done)), H', ⟨Nat.le_refl _⟩, ⟨by repeat (first | (with_reducible first | exact HB.out | apply below_alloc | apply pw_below_drewN | apply below_drew1) | exact HB.out)⟩⟩
  case round =>
    clear H'
    try clear c1
    obtain ⟨x3_1, x4_1, rfl, rfl, HA, HK1, HB⟩ := hrel
    cases gk with
    | zero => exact absurd HA.out (by simp [excelize_zzColumnName.l0])
    | succ k1 =>
      have H := HA.out
      clear HA
      simp only [excelize_zzColumnName.l0] at H
      by_cases c2 : x4_1 > 0
      · rw [if_pos c2] at H
        have c2b0 : decide (0 < x4_1) = true := decide_eq_true c2
        clear c2
        have H' := Aside0.mk H
        clear H
        go_wp2
        go_roundg k1
        case measure => have := HK1.out; omega
        case rel => exact ⟨(wrap64 (x3_1 + 1)), (wrap64 (Int.tdiv (wrap64 (x4_1 - 1)) 26)), (by first | rfl | (simp; done) | (simp [*]; done)), (by first | rfl | (simp; done) | (simp [*]; done)), H', ⟨by have := HK1.out; omega⟩, ⟨by repeat (first | (with_reducible first | exact HB.out | apply below_alloc | apply pw_below_drewN | apply below_drew1) | exact HB.out)⟩⟩
      · rw [if_neg c2] at H
        have c2b0 : decide (0 < x4_1) = false := decide_eq_false c2
        clear c2
        by_cases c3 : 0 ≤ x3_1
        · rw [if_pos c3] at H
          have c3b0 := eq_true c3
          have c3b1 : decide (0 ≤ x3_1) = true := decide_eq_true c3
          clear c3
          by_cases c4 : (x3_1 : Int).toNat ≤ 281474976710656
          · rw [if_pos c4] at H
            have c4b0 := eq_true c4
            have c4b1 : decide ((x3_1 : Int).toNat ≤ 281474976710656) = true := decide_eq_true c4
            clear c4
            obtain ⟨y101, hy101⟩ : ∃ y_ : List Int, y_ = (List.replicate (x3_1 : Int).toNat 0) := ⟨_, rfl⟩
            replace H : (excelize_zzColumnName.l1 k1 a0 x3_1 y101) = some r := by first | (rw [hy101]; with_reducible exact H) | (have H2_ := (Option.bind_some _ _).symm.trans H; rw [hy101]; with_reducible exact H2_) | (have H2_ := (Option.bind_some _ _).symm.trans H; with_reducible exact H2_) | with_reducible exact H | (rw [hy101]; exact H) | exact H
            have Ny101 := Aside0.mk hy101
            clear hy101
            have H' := Aside0.mk H
            clear H
            go_wp2_with (first | ((with_reducible refine gate_dst (N := 15) rfl ?_); refine Kd.R_make (Kd.int .u8) _ 5 rfl (N := 15) rfl 65 _ _ rfl x3_1 rfl rfl Tryd.underlying65 (.int .u8 0) 1 info5 rfl (by decide) (by omega) 0 (ok := fun _ => True) (okp := fun _ => True) rfl (fun _ hk => hk) trivial (of_decide_eq_true (by first | (with_reducible assumption) | assumption)) (Nat.le_trans (Nat.mul_le_mul_right _ (of_decide_eq_true (by first | (with_reducible assumption) | assumption) : x3_1.toNat ≤ 281474976710656)) (by omega)) (Below.refl _ _) (Nat.le_refl _) ?_; intro v102 w5 ho6 hb hg_ hnew_; clear hg_ hnew_; (first | rw [← Ny101.out] at ho6 | (simp only [Int.reduceToNat] at ho6; rw [← Ny101.out] at ho6)); have n0_ := Aside0.mk (Kd.R_lower ho6 (below_size (by repeat (first | (with_reducible first | exact HB.out | apply below_alloc | apply pw_below_drewN | apply below_drew1) | exact HB.out)))); have n1_ := Aside0.mk (below_step (by repeat (first | (with_reducible first | exact HB.out | apply below_alloc | apply pw_below_drewN | apply below_drew1) | exact HB.out)) hb); clear HB; have HO103 := n0_; have HB := n1_; clear n0_ n1_; clear hb ho6))
            go_loopg [0, 3] k1 (fun kq v0 v3 w' => ∃ (x0_2 : Int) (x3_2 : Int) (x5_2 : List Int), v0 = .int .i64 x0_2 ∧ v3 = .int .i64 x3_2 ∧ Aside0 (excelize_zzColumnName.l1 kq x0_2 x3_2 x5_2 = some r) ∧ Aside0 (kq ≤ k1) ∧ Aside0 (Kd.R (Kd.int .u8) 5 w' w.heap.size (fun _ => True) v102 x5_2) ∧ Aside0 (Below w.heap.size w w'))
            case atStart => exact ⟨(a0), (x3_1), (y101), (by first | rfl | (simp; done) | (simp [*]; done)), (by first | rfl | (simp; done) | (simp [*]; done)), H', ⟨Nat.le_refl _⟩, ⟨by (with_reducible repeat (first | apply Kd.R_alloc | apply Kd.R_drewN | apply Kd.R_drew)); exact HO103.out⟩, ⟨by repeat (first | (with_reducible first | exact HB.out | apply below_alloc | apply pw_below_drewN | apply below_drew1) | exact HB.out)⟩⟩
            case round =>
              clear H'
              try clear c1
              try clear c2
              try clear c2b0
              try clear p2
              try clear c3
              try clear c3b0
              try clear c3b1
              try clear c4
              try clear c4b0
              try clear c4b1
              try clear p6
              obtain ⟨x0_2, x3_2, x5_2, rfl, rfl, HA, HK2, HO_5, HB⟩ := hrel
              cases gk with
              | zero => exact absurd HA.out (by simp [excelize_zzColumnName.l1])
              | succ k2 =>
                have H := HA.out
                clear HA
                simp only [excelize_zzColumnName.l1] at H
                by_cases c7 : x0_2 > 0
                · rw [if_pos c7] at H
                  have c7b0 : decide (0 < x0_2) = true := decide_eq_true c7
                  clear c7
                  obtain ⟨ji8, hji8⟩ : ∃ j_ : Int, (wrap64 (x3_2 - 1)) = j_ := ⟨_, rfl⟩
                  replace H : (if 0 ≤ (ji8) then (if (ji8) < (x5_2.length : Int) then (excelize_zzColumnName.l1 k2 (wrap64 (Int.tdiv (wrap64 (x0_2 - 1)) 26)) ji8 (x5_2.set ((ji8) : Int).toNat ((wrap64 ((Int.tmod (wrap64 (x0_2 - 1)) 26) + 65)) % 256))) else (none)) else (none)) = some r := by first | (rw [hji8] at H; exact H) | (simp only [hji8] at H ⊢; exact H)
                  have hji8w : (IntKind.i64.wrap (x3_2 - 1)) = ji8 := (i64_w _).trans hji8
                  by_cases c9 : 0 ≤ (ji8)
                  · rw [if_pos c9] at H
                    have c9b0 : decide (0 ≤ (ji8)) = true := decide_eq_true c9
                    clear c9
                    by_cases c10 : (ji8) < (x5_2.length : Int)
                    · rw [if_pos c10] at H
                      have c10b0 : decide ((ji8) < (x5_2.length : Int)) = true := decide_eq_true c10
                      clear c10
                      obtain ⟨y104, hy104⟩ : ∃ y_ : List Int, y_ = (x5_2.set ((ji8) : Int).toNat ((wrap64 ((Int.tmod (wrap64 (x0_2 - 1)) 26) + 65)) % 256)) := ⟨_, rfl⟩
                      replace H : (excelize_zzColumnName.l1 k2 (wrap64 (Int.tdiv (wrap64 (x0_2 - 1)) 26)) ji8 y104) = some r := by first | (rw [hy104]; with_reducible exact H) | (have H2_ := (Option.bind_some _ _).symm.trans H; rw [hy104]; with_reducible exact H2_) | (have H2_ := (Option.bind_some _ _).symm.trans H; with_reducible exact H2_) | with_reducible exact H | (rw [hy104]; exact H) | exact H
                      have Ny104 := Aside0.mk hy104
                      clear hy104
                      have H' := Aside0.mk H
                      clear H
                      have p11 : 0 ≤ ((ji8) : Int) := of_decide_eq_true (by first | (with_reducible assumption) | assumption)
                      have q11 : ((ji8) : Int) < ((x5_2.length : Int) : Int) := of_decide_eq_true (by first | (with_reducible assumption) | assumption)
                      obtain ⟨go11, co11, eo11, gb11, gl11, cl11, HG11⟩ := Kd.R_form HO_5.out (by omega)
                      (first | cases eo11 | (injection eo11 with ea_ en_ ec_; (first | subst ea_ | (injection ea_ with ea_; subst ea_)); subst ec_; clear en_))
                      have GB11 := Aside0.mk gb11
                      have GG11 := Aside0.mk HG11
                      clear gb11 gl11 HG11
                      obtain ⟨hx11_0, hf11_0⟩ := Kd.R_celln 0 HO_5.out ((ji8) : Int) p11 q11
                      replace p11 := eq_true p11
                      replace q11 := eq_true q11
                      have HP12 := Kd.R_putg HO_5.out ((ji8) : Int) ((wrap64 ((Int.tmod (wrap64 (x0_2 - 1)) 26) + 65)) % 256)
                      go_wp2_with (first | ((with_reducible refine gate_store (t := 5) (p := 27) rfl ?_); refine store_event (t := 5) (p := 27) (v := ?vo_w13) (w1 := (wr.setCell ⟨go11, ((ji8) : Int).toNat, none⟩ (.int .u8 ((wrap64 ((Int.tmod (wrap64 (x0_2 - 1)) 26) + 65)) % 256)))) ?hg ?ho ?hn ?hr ?_; (case ho => rfl); (case hg => rfl); (case hn => rfl); (case hr => first | (go_simp; done) | (go_simp; rfl)); intro w13 hw; have hg : wr.grownBy w13 (some go11) := (by rw [hw]; exact HP12.2); have hp_ : Kd.R (Kd.int .u8) 5 w13 w.heap.size (fun _ => True) (.slice (some ⟨go11, 0, none⟩) x5_2.length co11) y104 := (by rw [hw, Ny104.out]; exact HP12.1); clear HP12; have n0_ := Aside0.mk (hp_); have n1_ := Aside0.mk ((by rw [hw]; exact below_set (HB.out) GB11.out : Below w.heap.size w w13)); clear HO_5; clear HB; have HO_5 := n0_; have HB := n1_; clear n0_ n1_; clear hg hw hp_))
                      go_roundg k2
                      case measure => have := HK1.out; have := HK2.out; omega
                      case rel => exact ⟨(wrap64 (Int.tdiv (wrap64 (x0_2 - 1)) 26)), (ji8), (y104), (by first | rfl | (simp; done) | (simp [*]; done)), (by first | rfl | (simp; done) | (simp only [← hji8] <;> (first | rfl | simp)) | (simp [*]; done)), H', ⟨by have := HK1.out; have := HK2.out; omega⟩, ⟨by (with_reducible repeat (first | apply Kd.R_alloc | apply Kd.R_drewN | apply Kd.R_drew)); exact HO_5.out⟩, ⟨by repeat (first | (with_reducible first | exact HB.out | apply below_alloc | apply pw_below_drewN | apply below_drew1) | exact HB.out)⟩⟩
                    · rw [if_neg c10] at H
                      exact absurd H (by simp)
                  · rw [if_neg c9] at H
                    exact absurd H (by simp)
                · rw [if_neg c7] at H
                  have c7b0 : decide (0 < x0_2) = false := decide_eq_false c7
                  clear c7
                  obtain rfl := Option.some.inj H
                  have hcv14 := own_string (P := Tryd.prog) Tryd.underlying65 Tryd.underlying5 Tryd.underlying9 (Kd.own_of_R HO_5.out)
                  go_wp2
                  go_ret
                  exact ⟨by first | rfl | (simp [errW_none, errW_some] <;> rfl) | (simp [*, errW_none, errW_some] <;> rfl), by repeat (first | (with_reducible first | exact HB.out | apply below_alloc | apply pw_below_drewN | apply below_drew1) | exact HB.out)⟩
          · rw [if_neg c4] at H
            exact absurd H (by simp)
        · rw [if_neg c3] at H
          exact absurd H (by simp)

end Go.Proofs.YtfbenlenihlpbaaDoor.POa
end

section
namespace Go.Proofs.YtfbenlenihlpbaaDoor.POa
open Go.RowKit Go.Proofs.YtfbenlenihlpbaaDoorW.PrintWords Go.Proofs.YtfbenlenihlpbaaDoorW.PrintLast Go.Proofs.YtfbenlenihlpbaaDoorW.PrintMore
attribute [local go_sem] max2_int min2_int max_two min_two max_three min_three max_four min_four   -- for this text's walks alone
set_option linter.unusedVariables false
set_option linter.unusedSimpArgs false

/-! ### excelize_ColumnNumberToName: function 89 -/
def excelize_ColumnNumberToName.f (k : Nat) (a0 : Int) : Option (ByteArray × Option Int) := if a0 < 1 then (none) else (if a0 > 16384 then (none) else ((excelize_zzColumnName.f k a0).bind fun t105 => (some (t105, none))))
theorem excelize_ColumnNumberToName.mono : ∀ a0 k, LeO (excelize_ColumnNumberToName.f k a0) (excelize_ColumnNumberToName.f (k + 1) a0) := by
  intro a0 k
  unfold excelize_ColumnNumberToName.f
  repeat' first
      | (with_reducible exact excelize_zzColumnName.mono _ _)
      | (with_reducible exact LeO.refl _)
      | (with_reducible exact LeO.none _)
      | (with_reducible refine LeO.ite ?_ ?_)
      | (with_reducible refine LeO.bind ?_ (fun _ => ?_))
      | exact excelize_zzColumnName.mono _ _
      | exact LeO.none _
      | refine LeO.ite ?_ ?_
      | refine LeO.bind ?_ (fun _ => ?_)
set_option maxHeartbeats 8000000 in
set_option maxRecDepth 100000 in
theorem excelize_ColumnNumberToName.calls (k : Nat) (a0 : Int) (r1 : ByteArray) (r2 : Option Int) (w : World) (h : excelize_ColumnNumberToName.f k a0 = some (r1, r2)) :
    Calls Tryd.prog 89 #[.int .i64 a0] w fun e w' => e = .returned (.tuple #[.string r1, errW r2]) ∧ Below w.heap.size w w' := by
  have HB := Aside0.mk (Below.refl w.heap.size w)
  have H : (if a0 < 1 then (none) else (if a0 > 16384 then (none) else ((excelize_zzColumnName.f k a0).bind fun t105 => (some (t105, none))))) = some (r1, r2) := h
  clear h
  by_cases c2 : a0 < 1
  · rw [if_pos c2] at H
    exact absurd H (by simp)
  · rw [if_neg c2] at H
    have c2b0 : decide (a0 < 1) = false := decide_eq_false c2
    clear c2
    by_cases c3 : a0 > 16384
    · rw [if_pos c3] at H
      exact absurd H (by simp)
    · rw [if_neg c3] at H
      have c3b0 : decide (16384 < a0) = false := decide_eq_false c3
      clear c3
      replace H := Option.bind_eq_some_iff.mp H
      obtain ⟨t105, A40, H⟩ := H
      replace H : (some (t105, none)) = some (r1, r2) := H
      have A4 := Aside0.mk A40
      clear A40
      simp only [Option.some.injEq, Prod.mk.injEq] at H
      obtain ⟨rfl, rfl⟩ := H
      go_enter Tryd.func89, Tryd.ntmps89
      go_wp2_with (first | (go_at_call 104; (with_reducible refine (excelize_zzColumnName.calls k a0 t105 _ A4.out).mono ?_); rintro e w5 ⟨rfl, hb⟩; have n0_ := Aside0.mk (below_step (by repeat (first | (with_reducible first | exact HB.out | apply below_alloc | apply pw_below_drewN | apply below_drew1) | exact HB.out)) hb); clear HB; have HB := n0_; clear n0_; (try clear hb); (try clear hb2); (try clear hk); (try clear hi)))
      repeat (go_quiet (first | (go_at_call 104; (with_reducible refine (excelize_zzColumnName.calls k a0 t105 _ A4.out).mono ?_); rintro e w5 ⟨rfl, hb⟩; have n0_ := Aside0.mk (below_step (by repeat (first | (with_reducible first | exact HB.out | apply below_alloc | apply pw_below_drewN | apply below_drew1) | exact HB.out)) hb); clear HB; have HB := n0_; clear n0_; (try clear hb); (try clear hb2); (try clear hk); (try clear hi))); try go_wp2_with (first | (go_at_call 104; (with_reducible refine (excelize_zzColumnName.calls k a0 t105 _ A4.out).mono ?_); rintro e w5 ⟨rfl, hb⟩; have n0_ := Aside0.mk (below_step (by repeat (first | (with_reducible first | exact HB.out | apply below_alloc | apply pw_below_drewN | apply below_drew1) | exact HB.out)) hb); clear HB; have HB := n0_; clear n0_; (try clear hb); (try clear hb2); (try clear hk); (try clear hi))))
      go_ret2
      exact ⟨by first | rfl | (simp [errW_none, errW_some] <;> rfl) | (simp [*, errW_none, errW_some] <;> rfl), by repeat (first | (with_reducible first | exact HB.out | apply below_alloc | apply pw_below_drewN | apply below_drew1) | exact HB.out)⟩

end Go.Proofs.YtfbenlenihlpbaaDoor.POa
end

section
namespace Go.Proofs.YtfbenlenihlpbaaDoor.POa
open Go.RowKit Go.Proofs.YtfbenlenihlpbaaDoorW.PrintWords Go.Proofs.YtfbenlenihlpbaaDoorW.PrintLast Go.Proofs.YtfbenlenihlpbaaDoorW.PrintMore
attribute [local go_sem] max2_int min2_int max_two min_two max_three min_three max_four min_four   -- for this text's walks alone
set_option linter.unusedVariables false
set_option linter.unusedSimpArgs false

/-! ### excelize_adjustFormulaColumnName: function 78 -/
mutual
def excelize_adjustFormulaColumnName.j0 : Nat → ByteArray → ByteArray → Bool → Bool → Int → Int → Bool → Option (ByteArray × ByteArray × Bool × Option Int)
  | 0, _, _, _, _, _, _, _ => none
  | k + 1, x0, x1, x2, x4, x5, x6, x30 => if x30 = true then (if x1.size + x0.size ≤ 9223372036854775807 then (some ((⟨#[]⟩ : ByteArray), x1 ++ x0, x2, none)) else (none)) else ((Go.Proofs.YtfbenlenihlpbaaDoor.GivenC.excelize_ColumnNameToNumber.f x0).bind fun bt106 => (if bt106.2.isNone = true then (if (x4 == false) = true then (excelize_adjustFormulaColumnName.j1 k x0 x1 x6 bt106.1 (decide (bt106.1 ≥ x5))) else (excelize_adjustFormulaColumnName.j1 k x0 x1 x6 bt106.1 false)) else (some ((⟨#[]⟩ : ByteArray), x1, false, some (bt106.2.getD 0)))))
def excelize_adjustFormulaColumnName.j1 : Nat → ByteArray → ByteArray → Int → Int → Bool → Option (ByteArray × ByteArray × Bool × Option Int)
  | 0, _, _, _, _, _ => none
  | k + 1, x0, x1, x6, x18, x50 => if x50 = true then (if (wrap64 (x18 + x6)) < 1 then ((excelize_ColumnNumberToName.f k 1).bind fun bt109 => (if x1.size + bt109.1.size ≤ 9223372036854775807 then (some ((⟨#[]⟩ : ByteArray), x1 ++ bt109.1, false, bt109.2)) else (none))) else ((excelize_ColumnNumberToName.f k (wrap64 (x18 + x6))).bind fun bt111 => (if x1.size + bt111.1.size ≤ 9223372036854775807 then (some ((⟨#[]⟩ : ByteArray), x1 ++ bt111.1, false, bt111.2)) else (none)))) else (if x1.size + x0.size ≤ 9223372036854775807 then (some ((⟨#[]⟩ : ByteArray), x1 ++ x0, false, none)) else (none))
end
def excelize_adjustFormulaColumnName.f (k : Nat) (a0 : ByteArray) (a1 : ByteArray) (a2 : Bool) (a3 : Bool) (a4 : Bool) (a5 : Int) (a6 : Int) : Option (ByteArray × ByteArray × Bool × Option Int) := if a0.toList = ([] : List UInt8) then (excelize_adjustFormulaColumnName.j0 k a0 a1 a2 a4 a5 a6 true) else (if a2 = true then (excelize_adjustFormulaColumnName.j0 k a0 a1 a2 a4 a5 a6 false) else (excelize_adjustFormulaColumnName.j0 k a0 a1 a2 a4 a5 a6 a3))
theorem excelize_adjustFormulaColumnName.mono_l : ∀ k, (∀ y0 y1 y2 y3 y4 y5 y6, LeO (excelize_adjustFormulaColumnName.j0 k y0 y1 y2 y3 y4 y5 y6) (excelize_adjustFormulaColumnName.j0 (k + 1) y0 y1 y2 y3 y4 y5 y6)) ∧ (∀ y0 y1 y2 y3 y4, LeO (excelize_adjustFormulaColumnName.j1 k y0 y1 y2 y3 y4) (excelize_adjustFormulaColumnName.j1 (k + 1) y0 y1 y2 y3 y4))
  | 0 => ⟨fun _ _ _ _ _ _ _ r h => by simp [excelize_adjustFormulaColumnName.j0] at h, fun _ _ _ _ _ r h => by simp [excelize_adjustFormulaColumnName.j1] at h⟩
  | k + 1 => by
    obtain ⟨ih0, ih1⟩ := excelize_adjustFormulaColumnName.mono_l k
    refine ⟨?_, ?_⟩
    · intro y0 y1 y2 y3 y4 y5 y6
      unfold excelize_adjustFormulaColumnName.j0
      repeat' first
      | (with_reducible exact ih0 _ _ _ _ _ _ _)
      | (with_reducible exact ih1 _ _ _ _ _)
      | (with_reducible exact excelize_ColumnNumberToName.mono _ _)
      | (with_reducible exact LeO.refl _)
      | (with_reducible exact LeO.none _)
      | (with_reducible refine LeO.ite ?_ ?_)
      | (with_reducible refine LeO.bind ?_ (fun _ => ?_))
      | exact ih0 _ _ _ _ _ _ _
      | exact ih1 _ _ _ _ _
      | exact excelize_ColumnNumberToName.mono _ _
      | exact LeO.none _
      | refine LeO.ite ?_ ?_
      | refine LeO.bind ?_ (fun _ => ?_)
    · intro y0 y1 y2 y3 y4
      unfold excelize_adjustFormulaColumnName.j1
      repeat' first
      | (with_reducible exact ih0 _ _ _ _ _ _ _)
      | (with_reducible exact ih1 _ _ _ _ _)
      | (with_reducible exact excelize_ColumnNumberToName.mono _ _)
      | (with_reducible exact LeO.refl _)
      | (with_reducible exact LeO.none _)
      | (with_reducible refine LeO.ite ?_ ?_)
      | (with_reducible refine LeO.bind ?_ (fun _ => ?_))
      | exact ih0 _ _ _ _ _ _ _
      | exact ih1 _ _ _ _ _
      | exact excelize_ColumnNumberToName.mono _ _
      | exact LeO.none _
      | refine LeO.ite ?_ ?_
      | refine LeO.bind ?_ (fun _ => ?_)
theorem excelize_adjustFormulaColumnName.mono : ∀ a0 a1 a2 a3 a4 a5 a6 k, LeO (excelize_adjustFormulaColumnName.f k a0 a1 a2 a3 a4 a5 a6) (excelize_adjustFormulaColumnName.f (k + 1) a0 a1 a2 a3 a4 a5 a6) := by
  intro a0 a1 a2 a3 a4 a5 a6 k
  obtain ⟨ih0, ih1⟩ := excelize_adjustFormulaColumnName.mono_l k
  unfold excelize_adjustFormulaColumnName.f
  repeat' first
      | (with_reducible exact ih0 _ _ _ _ _ _ _)
      | (with_reducible exact ih1 _ _ _ _ _)
      | (with_reducible exact excelize_ColumnNumberToName.mono _ _)
      | (with_reducible exact LeO.refl _)
      | (with_reducible exact LeO.none _)
      | (with_reducible refine LeO.ite ?_ ?_)
      | (with_reducible refine LeO.bind ?_ (fun _ => ?_))
      | exact ih0 _ _ _ _ _ _ _
      | exact ih1 _ _ _ _ _
      | exact excelize_ColumnNumberToName.mono _ _
      | exact LeO.none _
      | refine LeO.ite ?_ ?_
      | refine LeO.bind ?_ (fun _ => ?_)
set_option maxHeartbeats 8000000 in
set_option maxRecDepth 100000 in
theorem excelize_adjustFormulaColumnName.calls (k : Nat) (a0 : ByteArray) (a1 : ByteArray) (a2 : Bool) (a3 : Bool) (a4 : Bool) (a5 : Int) (a6 : Int) (r1 : ByteArray) (r2 : ByteArray) (r3 : Bool) (r4 : Option Int) (w : World) (h : excelize_adjustFormulaColumnName.f k a0 a1 a2 a3 a4 a5 a6 = some (r1, r2, r3, r4)) :
    Calls Tryd.prog 78 #[.string a0, .string a1, .bool a2, .bool a3, .bool a4, .int .i64 a5, .int .i64 a6] w fun e w' => e = .returned (.tuple #[.string r1, .string r2, .bool r3, errW r4]) ∧ Below w.heap.size w w' := by
  have hu74 := Tryd.underlying74
  have HB := Aside0.mk (Below.refl w.heap.size w)
  have H : (if a0.toList = ([] : List UInt8) then (excelize_adjustFormulaColumnName.j0 k a0 a1 a2 a4 a5 a6 true) else (if a2 = true then (excelize_adjustFormulaColumnName.j0 k a0 a1 a2 a4 a5 a6 false) else (excelize_adjustFormulaColumnName.j0 k a0 a1 a2 a4 a5 a6 a3))) = some (r1, r2, r3, r4) := h
  clear h
  have HC8 := Aside0.mk H
  clear H
  go_enter Tryd.func78, Tryd.ntmps78
  go_upto_region 1 with (fail)
  go_cut [30] (fun v30 wc => ∃ (kq : Nat) (x30_7 : Bool), v30 = .bool x30_7 ∧ Aside0 (excelize_adjustFormulaColumnName.j0 kq a0 a1 a2 a4 a5 a6 x30_7 = some (r1, r2, r3, r4)) ∧ Aside0 (kq ≤ k) ∧ Aside0 (Below w.heap.size w wc))
  case first =>
    have H := HC8.out
    clear HC8
    by_cases c9 : a0.toList = ([] : List UInt8)
    · rw [if_pos c9] at H
      have c9b0 : (a0.toList == ([] : List UInt8)) = true := beq_iff_eq.mpr c9
      have c9b1 : (a0.toList != ([] : List UInt8)) = false := bne_eq_false_iff_eq.mpr c9
      clear c9
      (first | rw [c9b0] | (simp only [i64_w, i32_w]; rw [c9b0]) | skip)
      have H' := Aside0.mk H
      clear H
      go_wp2
      go_meet
      case rel => exact ⟨_, (true), (by first | rfl | (simp; done) | (simp [*]; done)), H', ⟨by first | omega | exact Nat.le_refl _⟩, ⟨by repeat (first | (with_reducible first | exact HB.out | apply below_alloc | apply pw_below_drewN | apply below_drew1) | exact HB.out)⟩⟩
    · rw [if_neg c9] at H
      have c9b0 : (a0.toList == ([] : List UInt8)) = false := beq_eq_false_iff_ne.mpr c9
      have c9b1 : (a0.toList != ([] : List UInt8)) = true := bne_iff_ne.mpr c9
      (first | rw [c9b0] | (simp only [i64_w, i32_w]; rw [c9b0]) | skip)
      by_cases c10 : a2 = true
      · subst c10
        have H1 : (excelize_adjustFormulaColumnName.j0 k a0 a1 true a4 a5 a6 false) = some (r1, r2, r3, r4) := by rw [if_pos rfl] at H; exact H
        clear H
        have H := H1
        clear H1
        have H' := Aside0.mk H
        clear H
        go_wp2
        go_meet
        case rel => exact ⟨_, (false), (by first | rfl | (simp; done) | (simp [*]; done)), H', ⟨by first | omega | exact Nat.le_refl _⟩, ⟨by repeat (first | (with_reducible first | exact HB.out | apply below_alloc | apply pw_below_drewN | apply below_drew1) | exact HB.out)⟩⟩
      · replace c10 := Bool.eq_false_iff.mpr c10
        subst c10
        have H1 : (excelize_adjustFormulaColumnName.j0 k a0 a1 false a4 a5 a6 a3) = some (r1, r2, r3, r4) := by rw [if_neg (show ¬ (false = true) by decide)] at H; exact H
        clear H
        have H := H1
        clear H1
        have H' := Aside0.mk H
        clear H
        go_wp2
        go_meet
        case rel => exact ⟨_, (a3), (by first | rfl | (simp; done) | (simp [*]; done)), H', ⟨by first | omega | exact Nat.le_refl _⟩, ⟨by repeat (first | (with_reducible first | exact HB.out | apply below_alloc | apply pw_below_drewN | apply below_drew1) | exact HB.out)⟩⟩
  case rest =>
    clear HC8
    try clear c1
    try clear p2
    try clear c7
    try clear c9
    try clear c9b0
    try clear c9b1
    try clear c10
    obtain ⟨kq, x30_7, rfl, HA, HJ7, HB⟩ := hcut
    cases kq with
    | zero => exact absurd HA.out (by simp [excelize_adjustFormulaColumnName.j0])
    | succ kj7 =>
      have H := HA.out
      clear HA
      simp only [excelize_adjustFormulaColumnName.j0] at H
      by_cases c11 : x30_7 = true
      · subst c11
        have H1 : (if a1.size + a0.size ≤ 9223372036854775807 then (some ((⟨#[]⟩ : ByteArray), a1 ++ a0, a2, none)) else (none)) = some (r1, r2, r3, r4) := by rw [if_pos rfl] at H; exact H
        clear H
        have H := H1
        clear H1
        by_cases c12 : a1.size + a0.size ≤ 9223372036854775807
        · rw [if_pos c12] at H
          have c12b0 := eq_true c12
          have c12b1 : decide (a1.size + a0.size ≤ 9223372036854775807) = true := decide_eq_true c12
          try have c12b2 : (9223372036854775807 < a1.size + a0.size) = False := eq_false (Nat.not_lt.2 c12)
          have c12z := c12
          (try simp only [ByteArray.size_append, show ∀ x_ : UInt8, (⟨#[x_]⟩ : ByteArray).size = 1 from fun _ => rfl] at c12z)
          simp only [Option.some.injEq, Prod.mk.injEq] at H
          obtain ⟨rfl, rfl, rfl, rfl⟩ := H
          go_wp2
          refine bodyPost_ret (results_list (rs := [.tmp 14, .tmp 15, .tmp 16, .tmp 17]) rfl (by simp) (.tmp (.tmp (.tmp (.tmp .nil))))) rfl ?_
          exact ⟨by first | rfl | (simp [errW_none, errW_some] <;> rfl) | (simp [*, errW_none, errW_some] <;> rfl), by repeat (first | (with_reducible first | exact HB.out | apply below_alloc | apply pw_below_drewN | apply below_drew1) | exact HB.out)⟩
        · rw [if_neg c12] at H
          exact absurd H (by simp)
      · replace c11 := Bool.eq_false_iff.mpr c11
        subst c11
        have H1 : ((Go.Proofs.YtfbenlenihlpbaaDoor.GivenC.excelize_ColumnNameToNumber.f a0).bind fun bt106 => (if bt106.2.isNone = true then (if (a4 == false) = true then (excelize_adjustFormulaColumnName.j1 kj7 a0 a1 a6 bt106.1 (decide (bt106.1 ≥ a5))) else (excelize_adjustFormulaColumnName.j1 kj7 a0 a1 a6 bt106.1 false)) else (some ((⟨#[]⟩ : ByteArray), a1, false, some (bt106.2.getD 0))))) = some (r1, r2, r3, r4) := by rw [if_neg (show ¬ (false = true) by decide)] at H; exact H
        clear H
        have H := H1
        clear H1
        replace H := Option.bind_eq_some_iff.mp H
        obtain ⟨⟨t106, t107⟩, A130, H⟩ := H
        replace H : (if t107.isNone = true then (if (a4 == false) = true then (excelize_adjustFormulaColumnName.j1 kj7 a0 a1 a6 t106 (decide (t106 ≥ a5))) else (excelize_adjustFormulaColumnName.j1 kj7 a0 a1 a6 t106 false)) else (some ((⟨#[]⟩ : ByteArray), a1, false, some (t107.getD 0)))) = some (r1, r2, r3, r4) := H
        have A13 := Aside0.mk A130
        clear A130
        rcases t107 with _ | q108
        · have H1 : (if (a4 == false) = true then (excelize_adjustFormulaColumnName.j1 kj7 a0 a1 a6 t106 (decide (t106 ≥ a5))) else (excelize_adjustFormulaColumnName.j1 kj7 a0 a1 a6 t106 false)) = some (r1, r2, r3, r4) := by rw [if_pos (show (none : Option Int).isNone = true by rfl)] at H; exact H
          clear H
          have H := H1
          clear H1
          try simp only [errW_none, errW_some]
          have HC14 := Aside0.mk H
          clear H
          go_upto_region 6 with (first | ((with_reducible refine gate_callee (f := 70) rfl ?_); refine goesL_ (some 37) rfl rfl Tryd.func70 (by kernel_rfl) rfl #[.string a0] rfl (by (try simp only [List.map_toArray, List.map_cons, List.map_nil]); first | done | rfl | (simp only [List.length_drop, List.length_take]; rfl)) ?_; (with_reducible refine (Go.Proofs.YtfbenlenihlpbaaDoor.GivenC.excelize_ColumnNameToNumber.calls a0 t106 none _ A13.out).mono ?_); rintro e w' ⟨rfl, ⟨nd, rfl⟩⟩; refine ⟨_, rfl, ?_⟩; (try simp only [errW_none, errW_some, Go.Proofs.YtfbenlenihlpbaaDoor.GivenC.errV_none, Go.Proofs.YtfbenlenihlpbaaDoor.GivenC.errV_some])))
          (try simp only [Act.put, List.setIfInBounds_toArray, List.set_cons_zero, List.set_cons_succ])
          go_cut [50] (fun v50 wc => ∃ (kq : Nat) (x50_13 : Bool), v50 = .bool x50_13 ∧ Aside0 (excelize_adjustFormulaColumnName.j1 kq a0 a1 a6 t106 x50_13 = some (r1, r2, r3, r4)) ∧ Aside0 (kq ≤ kj7) ∧ Aside0 (Below w.heap.size w wc))
          case first =>
            have H := HC14.out
            clear HC14
            by_cases c15 : (a4 == false) = true
            · rw [if_pos c15] at H
              have c15b0 : (a4 == false) = true := c15
              (try (have c15b1 : decide (a4 = false) = true := by simpa using c15))
              (try (have c15b2 : (a4 == false) = true := by simpa using c15))
              clear c15
              (first | rw [c15b0] | (simp only [i64_w, i32_w]; rw [c15b0]) | skip)
              have H' := Aside0.mk H
              clear H
              go_wp2
              go_meet
              case rel => exact ⟨_, (decide (t106 ≥ a5)), (by first | rfl | (simp; done) | (simp [*]; done)), H', ⟨by have := HJ7.out; first | omega | exact Nat.le_refl _⟩, ⟨by repeat (first | (with_reducible first | exact HB.out | apply below_alloc | apply pw_below_drewN | apply below_drew1) | exact HB.out)⟩⟩
            · rw [if_neg c15] at H
              have c15b0 : (a4 == false) = false := by simpa using c15
              (try (have c15b1 : decide (a4 = false) = false := by simpa using c15))
              (try (have c15b2 : (a4 == false) = false := by simpa using c15))
              (try (have c15b3 : ¬ (a4 = false) := by simpa using c15))
              clear c15
              (first | rw [c15b0] | (simp only [i64_w, i32_w]; rw [c15b0]) | skip)
              have H' := Aside0.mk H
              clear H
              go_wp2
              go_meet
              case rel => exact ⟨_, (false), (by first | rfl | (simp; done) | (simp [*]; done)), H', ⟨by have := HJ7.out; first | omega | exact Nat.le_refl _⟩, ⟨by repeat (first | (with_reducible first | exact HB.out | apply below_alloc | apply pw_below_drewN | apply below_drew1) | exact HB.out)⟩⟩
          case rest =>
            clear HC14
            try clear c1
            try clear q1
            try clear p2
            try clear c7
            try clear c9
            try clear c9b0
            try clear c9b1
            try clear c10
            try clear q10
            try clear c11
            try clear c12
            try clear c12b0
            try clear c12b1
            try clear c12b2
            try clear c15
            try clear c15b0
            try clear c15b1
            try clear c15b2
            try clear p2
            try clear q108
            obtain ⟨kq, x50_13, rfl, HA, HJ13, HB⟩ := hcut
            cases kq with
            | zero => exact absurd HA.out (by simp [excelize_adjustFormulaColumnName.j1])
            | succ kj13 =>
              have H := HA.out
              clear HA
              simp only [excelize_adjustFormulaColumnName.j1] at H
              by_cases c16 : x50_13 = true
              · subst c16
                have H1 : (if (wrap64 (t106 + a6)) < 1 then ((excelize_ColumnNumberToName.f kj13 1).bind fun bt109 => (if a1.size + bt109.1.size ≤ 9223372036854775807 then (some ((⟨#[]⟩ : ByteArray), a1 ++ bt109.1, false, bt109.2)) else (none))) else ((excelize_ColumnNumberToName.f kj13 (wrap64 (t106 + a6))).bind fun bt111 => (if a1.size + bt111.1.size ≤ 9223372036854775807 then (some ((⟨#[]⟩ : ByteArray), a1 ++ bt111.1, false, bt111.2)) else (none)))) = some (r1, r2, r3, r4) := by rw [if_pos rfl] at H; exact H
                clear H
                have H := H1
                clear H1
                by_cases c17 : (wrap64 (t106 + a6)) < 1
                · rw [if_pos c17] at H
                  have c17b0 : decide ((wrap64 (t106 + a6)) < 1) = true := decide_eq_true c17
                  clear c17
                  replace H := Option.bind_eq_some_iff.mp H
                  obtain ⟨⟨t109, t110⟩, A180, H⟩ := H
                  replace H : (if a1.size + t109.size ≤ 9223372036854775807 then (some ((⟨#[]⟩ : ByteArray), a1 ++ t109, false, t110)) else (none)) = some (r1, r2, r3, r4) := H
                  have A18 := Aside0.mk A180
                  clear A180
                  by_cases c19 : a1.size + t109.size ≤ 9223372036854775807
                  · rw [if_pos c19] at H
                    have c19b0 := eq_true c19
                    have c19b1 : decide (a1.size + t109.size ≤ 9223372036854775807) = true := decide_eq_true c19
                    try have c19b2 : (9223372036854775807 < a1.size + t109.size) = False := eq_false (Nat.not_lt.2 c19)
                    have c19z := c19
                    (try simp only [ByteArray.size_append, show ∀ x_ : UInt8, (⟨#[x_]⟩ : ByteArray).size = 1 from fun _ => rfl] at c19z)
                    simp only [Option.some.injEq, Prod.mk.injEq] at H
                    obtain ⟨rfl, rfl, rfl, rfl⟩ := H
                    go_wp2_with (first | ((with_reducible refine gate_callee (f := 89) rfl ?_); refine goesL_ (some 58) rfl rfl Tryd.func89 (by kernel_rfl) rfl #[.int .i64 1] rfl (by (try simp only [List.map_toArray, List.map_cons, List.map_nil]); first | done | rfl | (simp only [List.length_drop, List.length_take]; rfl)) ?_; (with_reducible refine (excelize_ColumnNumberToName.calls kj13 1 t109 t110 _ A18.out).mono ?_); rintro e w20 ⟨rfl, hb⟩; refine ⟨_, rfl, ?_⟩; have n0_ := Aside0.mk (below_step (by repeat (first | (with_reducible first | exact HB.out | apply below_alloc | apply pw_below_drewN | apply below_drew1) | exact HB.out)) hb); clear HB; have HB := n0_; clear n0_; (try clear hb); (try clear hb2); (try clear hk); (try clear hi); (try simp only [errW_none, errW_some, Go.Proofs.YtfbenlenihlpbaaDoor.GivenC.errV_none, Go.Proofs.YtfbenlenihlpbaaDoor.GivenC.errV_some])))
                    refine bodyPost_ret (results_list (rs := [.tmp 14, .tmp 15, .tmp 16, .tmp 17]) rfl (by simp) (.tmp (.tmp (.tmp (.tmp .nil))))) rfl ?_
                    exact ⟨by first | rfl | (simp [errW_none, errW_some] <;> rfl) | (simp [*, errW_none, errW_some] <;> rfl), by repeat (first | (with_reducible first | exact HB.out | apply below_alloc | apply pw_below_drewN | apply below_drew1) | exact HB.out)⟩
                  · rw [if_neg c19] at H
                    exact absurd H (by simp)
                · rw [if_neg c17] at H
                  have c17b0 : decide ((wrap64 (t106 + a6)) < 1) = false := decide_eq_false c17
                  clear c17
                  replace H := Option.bind_eq_some_iff.mp H
                  obtain ⟨⟨t111, t112⟩, A210, H⟩ := H
                  replace H : (if a1.size + t111.size ≤ 9223372036854775807 then (some ((⟨#[]⟩ : ByteArray), a1 ++ t111, false, t112)) else (none)) = some (r1, r2, r3, r4) := H
                  have A21 := Aside0.mk A210
                  clear A210
                  by_cases c22 : a1.size + t111.size ≤ 9223372036854775807
                  · rw [if_pos c22] at H
                    have c22b0 := eq_true c22
                    have c22b1 : decide (a1.size + t111.size ≤ 9223372036854775807) = true := decide_eq_true c22
                    try have c22b2 : (9223372036854775807 < a1.size + t111.size) = False := eq_false (Nat.not_lt.2 c22)
                    have c22z := c22
                    (try simp only [ByteArray.size_append, show ∀ x_ : UInt8, (⟨#[x_]⟩ : ByteArray).size = 1 from fun _ => rfl] at c22z)
                    simp only [Option.some.injEq, Prod.mk.injEq] at H
                    obtain ⟨rfl, rfl, rfl, rfl⟩ := H
                    go_wp2_with (first | ((with_reducible refine gate_callee (f := 89) rfl ?_); refine goesL_ (some 58) rfl rfl Tryd.func89 (by kernel_rfl) rfl #[.int .i64 (wrap64 (t106 + a6))] rfl (by (try simp only [List.map_toArray, List.map_cons, List.map_nil]); first | done | rfl | (simp only [List.length_drop, List.length_take]; rfl)) ?_; (with_reducible refine (excelize_ColumnNumberToName.calls kj13 (wrap64 (t106 + a6)) t111 t112 _ A21.out).mono ?_); rintro e w23 ⟨rfl, hb⟩; refine ⟨_, rfl, ?_⟩; have n0_ := Aside0.mk (below_step (by repeat (first | (with_reducible first | exact HB.out | apply below_alloc | apply pw_below_drewN | apply below_drew1) | exact HB.out)) hb); clear HB; have HB := n0_; clear n0_; (try clear hb); (try clear hb2); (try clear hk); (try clear hi); (try simp only [errW_none, errW_some, Go.Proofs.YtfbenlenihlpbaaDoor.GivenC.errV_none, Go.Proofs.YtfbenlenihlpbaaDoor.GivenC.errV_some])))
                    refine bodyPost_ret (results_list (rs := [.tmp 14, .tmp 15, .tmp 16, .tmp 17]) rfl (by simp) (.tmp (.tmp (.tmp (.tmp .nil))))) rfl ?_
                    exact ⟨by first | rfl | (simp [errW_none, errW_some] <;> rfl) | (simp [*, errW_none, errW_some] <;> rfl), by repeat (first | (with_reducible first | exact HB.out | apply below_alloc | apply pw_below_drewN | apply below_drew1) | exact HB.out)⟩
                  · rw [if_neg c22] at H
                    exact absurd H (by simp)
              · replace c16 := Bool.eq_false_iff.mpr c16
                subst c16
                have H1 : (if a1.size + a0.size ≤ 9223372036854775807 then (some ((⟨#[]⟩ : ByteArray), a1 ++ a0, false, none)) else (none)) = some (r1, r2, r3, r4) := by rw [if_neg (show ¬ (false = true) by decide)] at H; exact H
                clear H
                have H := H1
                clear H1
                by_cases c24 : a1.size + a0.size ≤ 9223372036854775807
                · rw [if_pos c24] at H
                  have c24b0 := eq_true c24
                  have c24b1 : decide (a1.size + a0.size ≤ 9223372036854775807) = true := decide_eq_true c24
                  try have c24b2 : (9223372036854775807 < a1.size + a0.size) = False := eq_false (Nat.not_lt.2 c24)
                  have c24z := c24
                  (try simp only [ByteArray.size_append, show ∀ x_ : UInt8, (⟨#[x_]⟩ : ByteArray).size = 1 from fun _ => rfl] at c24z)
                  simp only [Option.some.injEq, Prod.mk.injEq] at H
                  obtain ⟨rfl, rfl, rfl, rfl⟩ := H
                  go_wp2
                  refine bodyPost_ret (results_list (rs := [.tmp 14, .tmp 15, .tmp 16, .tmp 17]) rfl (by simp) (.tmp (.tmp (.tmp (.tmp .nil))))) rfl ?_
                  exact ⟨by first | rfl | (simp [errW_none, errW_some] <;> rfl) | (simp [*, errW_none, errW_some] <;> rfl), by repeat (first | (with_reducible first | exact HB.out | apply below_alloc | apply pw_below_drewN | apply below_drew1) | exact HB.out)⟩
                · rw [if_neg c24] at H
                  exact absurd H (by simp)
        · have H1 : (some ((⟨#[]⟩ : ByteArray), a1, false, some q108)) = some (r1, r2, r3, r4) := by rw [if_neg (show ¬ (some q108).isNone = true by simp)] at H; exact H
          clear H
          have H := H1
          clear H1
          try simp only [errW_none, errW_some]
          simp only [Option.some.injEq, Prod.mk.injEq] at H
          obtain ⟨rfl, rfl, rfl, rfl⟩ := H
          go_wp2_with (first | ((with_reducible refine gate_callee (f := 70) rfl ?_); refine goesL_ (some 37) rfl rfl Tryd.func70 (by kernel_rfl) rfl #[.string a0] rfl (by (try simp only [List.map_toArray, List.map_cons, List.map_nil]); first | done | rfl | (simp only [List.length_drop, List.length_take]; rfl)) ?_; (with_reducible refine (Go.Proofs.YtfbenlenihlpbaaDoor.GivenC.excelize_ColumnNameToNumber.calls a0 t106 (some q108) _ A13.out).mono ?_); rintro e w' ⟨rfl, ⟨nd, rfl⟩⟩; refine ⟨_, rfl, ?_⟩; (try simp only [errW_none, errW_some, Go.Proofs.YtfbenlenihlpbaaDoor.GivenC.errV_none, Go.Proofs.YtfbenlenihlpbaaDoor.GivenC.errV_some])))
          refine bodyPost_ret (results_list (rs := [.tmp 14, .tmp 15, .tmp 16, .tmp 17]) rfl (by simp) (.tmp (.tmp (.tmp (.tmp .nil))))) rfl ?_
          exact ⟨by first | rfl | (simp [errW_none, errW_some] <;> rfl) | (simp [*, errW_none, errW_some] <;> rfl), by repeat (first | (with_reducible first | exact HB.out | apply below_alloc | apply pw_below_drewN | apply below_drew1) | exact HB.out)⟩

end Go.Proofs.YtfbenlenihlpbaaDoor.POa
end

section
namespace Go.Proofs.YtfbenlenihlpbaaDoor.POa
open Go.RowKit Go.Proofs.YtfbenlenihlpbaaDoorW.PrintWords Go.Proofs.YtfbenlenihlpbaaDoorW.PrintLast Go.Proofs.YtfbenlenihlpbaaDoorW.PrintMore
attribute [local go_sem] max2_int min2_int max_two min_two max_three min_three max_four min_four   -- for this text's walks alone
set_option linter.unusedVariables false
set_option linter.unusedSimpArgs false

/-! ### excelize_adjustFormulaRowNumber: function 98 -/
mutual
def excelize_adjustFormulaRowNumber.j0 : Nat → ByteArray → ByteArray → Bool → Bool → Int → Int → Bool → Option (ByteArray × ByteArray × Bool × Option Int)
  | 0, _, _, _, _, _, _, _ => none
  | k + 1, x0, x1, x2, x4, x5, x6, x28 => if x28 = true then (if x1.size + x0.size ≤ 9223372036854775807 then (some ((⟨#[]⟩ : ByteArray), x1 ++ x0, x2, none)) else (none)) else ((Go.Proofs.YtfbenlenihlpbaaDoor.GivenC.strconv_Atoi.f x0).bind fun bt113 => (if (x4 == true) = true then (excelize_adjustFormulaRowNumber.j1 k x0 x1 x6 bt113.1 (decide (bt113.1 ≥ x5))) else (excelize_adjustFormulaRowNumber.j1 k x0 x1 x6 bt113.1 false)))
def excelize_adjustFormulaRowNumber.j1 : Nat → ByteArray → ByteArray → Int → Int → Bool → Option (ByteArray × ByteArray × Bool × Option Int)
  | 0, _, _, _, _, _ => none
  | k + 1, x0, x1, x6, x18, x44 => if x44 = true then (if (wrap64 (x18 + x6)) < 1 then (if 1 > 1048576 then (if x1.size + x0.size ≤ 9223372036854775807 then (none) else (none)) else ((Go.Proofs.YtfbenlenihlpbaaDoor.Given.strconv_Itoa.f 1).bind fun t115 => (if x1.size + t115.size ≤ 9223372036854775807 then (some ((⟨#[]⟩ : ByteArray), x1 ++ t115, false, none)) else (none)))) else (if (wrap64 (x18 + x6)) > 1048576 then (if x1.size + x0.size ≤ 9223372036854775807 then (none) else (none)) else ((Go.Proofs.YtfbenlenihlpbaaDoor.Given.strconv_Itoa.f (wrap64 (x18 + x6))).bind fun t116 => (if x1.size + t116.size ≤ 9223372036854775807 then (some ((⟨#[]⟩ : ByteArray), x1 ++ t116, false, none)) else (none))))) else (if x1.size + x0.size ≤ 9223372036854775807 then (some ((⟨#[]⟩ : ByteArray), x1 ++ x0, false, none)) else (none))
end
def excelize_adjustFormulaRowNumber.f (k : Nat) (a0 : ByteArray) (a1 : ByteArray) (a2 : Bool) (a3 : Bool) (a4 : Bool) (a5 : Int) (a6 : Int) : Option (ByteArray × ByteArray × Bool × Option Int) := if a0.toList = ([] : List UInt8) then (excelize_adjustFormulaRowNumber.j0 k a0 a1 a2 a4 a5 a6 true) else (if a2 = true then (excelize_adjustFormulaRowNumber.j0 k a0 a1 a2 a4 a5 a6 false) else (excelize_adjustFormulaRowNumber.j0 k a0 a1 a2 a4 a5 a6 a3))
theorem excelize_adjustFormulaRowNumber.mono_l : ∀ k, (∀ y0 y1 y2 y3 y4 y5 y6, LeO (excelize_adjustFormulaRowNumber.j0 k y0 y1 y2 y3 y4 y5 y6) (excelize_adjustFormulaRowNumber.j0 (k + 1) y0 y1 y2 y3 y4 y5 y6)) ∧ (∀ y0 y1 y2 y3 y4, LeO (excelize_adjustFormulaRowNumber.j1 k y0 y1 y2 y3 y4) (excelize_adjustFormulaRowNumber.j1 (k + 1) y0 y1 y2 y3 y4))
  | 0 => ⟨fun _ _ _ _ _ _ _ r h => by simp [excelize_adjustFormulaRowNumber.j0] at h, fun _ _ _ _ _ r h => by simp [excelize_adjustFormulaRowNumber.j1] at h⟩
  | k + 1 => by
    obtain ⟨ih0, ih1⟩ := excelize_adjustFormulaRowNumber.mono_l k
    refine ⟨?_, ?_⟩
    · intro y0 y1 y2 y3 y4 y5 y6
      unfold excelize_adjustFormulaRowNumber.j0
      repeat' first
      | (with_reducible exact ih0 _ _ _ _ _ _ _)
      | (with_reducible exact ih1 _ _ _ _ _)
      | (with_reducible exact LeO.refl _)
      | (with_reducible exact LeO.none _)
      | (with_reducible refine LeO.ite ?_ ?_)
      | (with_reducible refine LeO.bind ?_ (fun _ => ?_))
      | exact ih0 _ _ _ _ _ _ _
      | exact ih1 _ _ _ _ _
      | exact LeO.none _
      | refine LeO.ite ?_ ?_
      | refine LeO.bind ?_ (fun _ => ?_)
    · intro y0 y1 y2 y3 y4
      unfold excelize_adjustFormulaRowNumber.j1
      repeat' first
      | (with_reducible exact ih0 _ _ _ _ _ _ _)
      | (with_reducible exact ih1 _ _ _ _ _)
      | (with_reducible exact LeO.refl _)
      | (with_reducible exact LeO.none _)
      | (with_reducible refine LeO.ite ?_ ?_)
      | (with_reducible refine LeO.bind ?_ (fun _ => ?_))
      | exact ih0 _ _ _ _ _ _ _
      | exact ih1 _ _ _ _ _
      | exact LeO.none _
      | refine LeO.ite ?_ ?_
      | refine LeO.bind ?_ (fun _ => ?_)
theorem excelize_adjustFormulaRowNumber.mono : ∀ a0 a1 a2 a3 a4 a5 a6 k, LeO (excelize_adjustFormulaRowNumber.f k a0 a1 a2 a3 a4 a5 a6) (excelize_adjustFormulaRowNumber.f (k + 1) a0 a1 a2 a3 a4 a5 a6) := by
  intro a0 a1 a2 a3 a4 a5 a6 k
  obtain ⟨ih0, ih1⟩ := excelize_adjustFormulaRowNumber.mono_l k
  unfold excelize_adjustFormulaRowNumber.f
  repeat' first
      | (with_reducible exact ih0 _ _ _ _ _ _ _)
      | (with_reducible exact ih1 _ _ _ _ _)
      | (with_reducible exact LeO.refl _)
      | (with_reducible exact LeO.none _)
      | (with_reducible refine LeO.ite ?_ ?_)
      | (with_reducible refine LeO.bind ?_ (fun _ => ?_))
      | exact ih0 _ _ _ _ _ _ _
      | exact ih1 _ _ _ _ _
      | exact LeO.none _
      | refine LeO.ite ?_ ?_
      | refine LeO.bind ?_ (fun _ => ?_)
set_option maxHeartbeats 8000000 in
set_option maxRecDepth 100000 in
theorem excelize_adjustFormulaRowNumber.calls (k : Nat) (a0 : ByteArray) (a1 : ByteArray) (a2 : Bool) (a3 : Bool) (a4 : Bool) (a5 : Int) (a6 : Int) (r1 : ByteArray) (r2 : ByteArray) (r3 : Bool) (r4 : Option Int) (w : World) (h : excelize_adjustFormulaRowNumber.f k a0 a1 a2 a3 a4 a5 a6 = some (r1, r2, r3, r4)) :
    Calls Tryd.prog 98 #[.string a0, .string a1, .bool a2, .bool a3, .bool a4, .int .i64 a5, .int .i64 a6] w fun e w' => e = .returned (.tuple #[.string r1, .string r2, .bool r3, errW r4]) ∧ Below w.heap.size w w' := by
  have HB := Aside0.mk (Below.refl w.heap.size w)
  have H : (if a0.toList = ([] : List UInt8) then (excelize_adjustFormulaRowNumber.j0 k a0 a1 a2 a4 a5 a6 true) else (if a2 = true then (excelize_adjustFormulaRowNumber.j0 k a0 a1 a2 a4 a5 a6 false) else (excelize_adjustFormulaRowNumber.j0 k a0 a1 a2 a4 a5 a6 a3))) = some (r1, r2, r3, r4) := h
  clear h
  have HC8 := Aside0.mk H
  clear H
  go_enter Tryd.func98, Tryd.ntmps98
  go_upto_region 1 with (fail)
  repeat (go_quiet (fail); go_upto_region 1 with (fail))
  go_cut [28] (fun v28 wc => ∃ (kq : Nat) (x28_7 : Bool), v28 = .bool x28_7 ∧ Aside0 (excelize_adjustFormulaRowNumber.j0 kq a0 a1 a2 a4 a5 a6 x28_7 = some (r1, r2, r3, r4)) ∧ Aside0 (kq ≤ k) ∧ Aside0 (Below w.heap.size w wc))
  case first =>
    have H := HC8.out
    clear HC8
    by_cases c9 : a0.toList = ([] : List UInt8)
    · rw [if_pos c9] at H
      have c9b0 : (a0.toList == ([] : List UInt8)) = true := beq_iff_eq.mpr c9
      have c9b1 : (a0.toList != ([] : List UInt8)) = false := bne_eq_false_iff_eq.mpr c9
      clear c9
      (first | rw [c9b0] | (simp only [i64_w, i32_w]; rw [c9b0]) | skip)
      have H' := Aside0.mk H
      clear H
      go_wp2
      repeat (go_quiet (fail); try go_wp2)
      go_meet
      case rel => exact ⟨_, (true), (by first | rfl | (simp; done) | (simp [*]; done)), H', ⟨by first | omega | exact Nat.le_refl _⟩, ⟨by repeat (first | (with_reducible first | exact HB.out | apply below_alloc | apply pw_below_drewN | apply below_drew1) | exact HB.out)⟩⟩
    · rw [if_neg c9] at H
      have c9b0 : (a0.toList == ([] : List UInt8)) = false := beq_eq_false_iff_ne.mpr c9
      have c9b1 : (a0.toList != ([] : List UInt8)) = true := bne_iff_ne.mpr c9
      (first | rw [c9b0] | (simp only [i64_w, i32_w]; rw [c9b0]) | skip)
      by_cases c10 : a2 = true
      · subst c10
        have H1 : (excelize_adjustFormulaRowNumber.j0 k a0 a1 true a4 a5 a6 false) = some (r1, r2, r3, r4) := by rw [if_pos rfl] at H; exact H
        clear H
        have H := H1
        clear H1
        have H' := Aside0.mk H
        clear H
        go_wp2
        repeat (go_quiet (fail); try go_wp2)
        go_meet
        case rel => exact ⟨_, (false), (by first | rfl | (simp; done) | (simp [*]; done)), H', ⟨by first | omega | exact Nat.le_refl _⟩, ⟨by repeat (first | (with_reducible first | exact HB.out | apply below_alloc | apply pw_below_drewN | apply below_drew1) | exact HB.out)⟩⟩
      · replace c10 := Bool.eq_false_iff.mpr c10
        subst c10
        have H1 : (excelize_adjustFormulaRowNumber.j0 k a0 a1 false a4 a5 a6 a3) = some (r1, r2, r3, r4) := by rw [if_neg (show ¬ (false = true) by decide)] at H; exact H
        clear H
        have H := H1
        clear H1
        have H' := Aside0.mk H
        clear H
        go_wp2
        repeat (go_quiet (fail); try go_wp2)
        go_meet
        case rel => exact ⟨_, (a3), (by first | rfl | (simp; done) | (simp [*]; done)), H', ⟨by first | omega | exact Nat.le_refl _⟩, ⟨by repeat (first | (with_reducible first | exact HB.out | apply below_alloc | apply pw_below_drewN | apply below_drew1) | exact HB.out)⟩⟩
  case rest =>
    clear HC8
    try clear c1
    try clear p2
    try clear c9
    try clear c9b0
    try clear c9b1
    try clear c10
    obtain ⟨kq, x28_7, rfl, HA, HJ7, HB⟩ := hcut
    cases kq with
    | zero => exact absurd HA.out (by simp [excelize_adjustFormulaRowNumber.j0])
    | succ kj7 =>
      have H := HA.out
      clear HA
      simp only [excelize_adjustFormulaRowNumber.j0] at H
      by_cases c11 : x28_7 = true
      · subst c11
        have H1 : (if a1.size + a0.size ≤ 9223372036854775807 then (some ((⟨#[]⟩ : ByteArray), a1 ++ a0, a2, none)) else (none)) = some (r1, r2, r3, r4) := by rw [if_pos rfl] at H; exact H
        clear H
        have H := H1
        clear H1
        by_cases c12 : a1.size + a0.size ≤ 9223372036854775807
        · rw [if_pos c12] at H
          have c12b0 := eq_true c12
          have c12b1 : decide (a1.size + a0.size ≤ 9223372036854775807) = true := decide_eq_true c12
          try have c12b2 : (9223372036854775807 < a1.size + a0.size) = False := eq_false (Nat.not_lt.2 c12)
          have c12z := c12
          (try simp only [ByteArray.size_append, show ∀ x_ : UInt8, (⟨#[x_]⟩ : ByteArray).size = 1 from fun _ => rfl] at c12z)
          simp only [Option.some.injEq, Prod.mk.injEq] at H
          obtain ⟨rfl, rfl, rfl, rfl⟩ := H
          go_wp2
          repeat (go_quiet (fail); try go_wp2)
          refine bodyPost_ret (results_list (rs := [.tmp 14, .tmp 15, .tmp 16, .tmp 17]) rfl (by simp) (.tmp (.tmp (.tmp (.tmp .nil))))) rfl ?_
          exact ⟨by first | rfl | (simp [errW_none, errW_some] <;> rfl) | (simp [*, errW_none, errW_some] <;> rfl), by repeat (first | (with_reducible first | exact HB.out | apply below_alloc | apply pw_below_drewN | apply below_drew1) | exact HB.out)⟩
        · rw [if_neg c12] at H
          exact absurd H (by simp)
      · replace c11 := Bool.eq_false_iff.mpr c11
        subst c11
        have H1 : ((Go.Proofs.YtfbenlenihlpbaaDoor.GivenC.strconv_Atoi.f a0).bind fun bt113 => (if (a4 == true) = true then (excelize_adjustFormulaRowNumber.j1 kj7 a0 a1 a6 bt113.1 (decide (bt113.1 ≥ a5))) else (excelize_adjustFormulaRowNumber.j1 kj7 a0 a1 a6 bt113.1 false))) = some (r1, r2, r3, r4) := by rw [if_neg (show ¬ (false = true) by decide)] at H; exact H
        clear H
        have H := H1
        clear H1
        replace H := Option.bind_eq_some_iff.mp H
        obtain ⟨⟨t113, t114⟩, A130, H⟩ := H
        replace H : (if (a4 == true) = true then (excelize_adjustFormulaRowNumber.j1 kj7 a0 a1 a6 t113 (decide (t113 ≥ a5))) else (excelize_adjustFormulaRowNumber.j1 kj7 a0 a1 a6 t113 false)) = some (r1, r2, r3, r4) := H
        have A13 := Aside0.mk A130
        clear A130
        have HC14 := Aside0.mk H
        clear H
        go_upto_region 4 with (first | (go_at_call 110; (with_reducible refine (Go.Proofs.YtfbenlenihlpbaaDoor.GivenC.strconv_Atoi.calls a0 t113 t114 _ A13.out).mono ?_); rintro e w15 ⟨rfl, hb⟩; have n0_ := Aside0.mk (below_step (by repeat (first | (with_reducible first | exact HB.out | apply below_alloc | apply pw_below_drewN | apply below_drew1) | exact HB.out)) hb); clear HB; have HB := n0_; clear n0_; (try clear hb); (try clear hb2); (try clear hk); (try clear hi); (try simp only [errW_none, errW_some, Go.Proofs.YtfbenlenihlpbaaDoor.GivenC.errV_none, Go.Proofs.YtfbenlenihlpbaaDoor.GivenC.errV_some])))
        repeat (go_quiet (first | (go_at_call 110; (with_reducible refine (Go.Proofs.YtfbenlenihlpbaaDoor.GivenC.strconv_Atoi.calls a0 t113 t114 _ A13.out).mono ?_); rintro e w15 ⟨rfl, hb⟩; have n0_ := Aside0.mk (below_step (by repeat (first | (with_reducible first | exact HB.out | apply below_alloc | apply pw_below_drewN | apply below_drew1) | exact HB.out)) hb); clear HB; have HB := n0_; clear n0_; (try clear hb); (try clear hb2); (try clear hk); (try clear hi); (try simp only [errW_none, errW_some, Go.Proofs.YtfbenlenihlpbaaDoor.GivenC.errV_none, Go.Proofs.YtfbenlenihlpbaaDoor.GivenC.errV_some]))); go_upto_region 4 with (first | (go_at_call 110; (with_reducible refine (Go.Proofs.YtfbenlenihlpbaaDoor.GivenC.strconv_Atoi.calls a0 t113 t114 _ A13.out).mono ?_); rintro e w15 ⟨rfl, hb⟩; have n0_ := Aside0.mk (below_step (by repeat (first | (with_reducible first | exact HB.out | apply below_alloc | apply pw_below_drewN | apply below_drew1) | exact HB.out)) hb); clear HB; have HB := n0_; clear n0_; (try clear hb); (try clear hb2); (try clear hk); (try clear hi); (try simp only [errW_none, errW_some, Go.Proofs.YtfbenlenihlpbaaDoor.GivenC.errV_none, Go.Proofs.YtfbenlenihlpbaaDoor.GivenC.errV_some]))))
        (try simp only [Act.put, List.setIfInBounds_toArray, List.set_cons_zero, List.set_cons_succ])
        go_cut [44] (fun v44 wc => ∃ (kq : Nat) (x44_13 : Bool), v44 = .bool x44_13 ∧ Aside0 (excelize_adjustFormulaRowNumber.j1 kq a0 a1 a6 t113 x44_13 = some (r1, r2, r3, r4)) ∧ Aside0 (kq ≤ kj7) ∧ Aside0 (Below w.heap.size w wc))
        case first =>
          have H := HC14.out
          clear HC14
          by_cases c16 : (a4 == true) = true
          · rw [if_pos c16] at H
            have c16b0 : (a4 == true) = true := c16
            (try (have c16b1 : decide (a4 = true) = true := by simpa using c16))
            (try (have c16b2 : (a4 == true) = true := by simpa using c16))
            clear c16
            (first | rw [c16b0] | (simp only [i64_w, i32_w]; rw [c16b0]) | skip)
            have H' := Aside0.mk H
            clear H
            go_wp2
            repeat (go_quiet (fail); try go_wp2)
            go_meet
            case rel => exact ⟨_, (decide (t113 ≥ a5)), (by first | rfl | (simp; done) | (simp [*]; done)), H', ⟨by have := HJ7.out; first | omega | exact Nat.le_refl _⟩, ⟨by repeat (first | (with_reducible first | exact HB.out | apply below_alloc | apply pw_below_drewN | apply below_drew1) | exact HB.out)⟩⟩
          · rw [if_neg c16] at H
            have c16b0 : (a4 == true) = false := by simpa using c16
            (try (have c16b1 : decide (a4 = true) = false := by simpa using c16))
            (try (have c16b2 : (a4 == true) = false := by simpa using c16))
            (try (have c16b3 : ¬ (a4 = true) := by simpa using c16))
            clear c16
            (first | rw [c16b0] | (simp only [i64_w, i32_w]; rw [c16b0]) | skip)
            have H' := Aside0.mk H
            clear H
            go_wp2
            repeat (go_quiet (fail); try go_wp2)
            go_meet
            case rel => exact ⟨_, (false), (by first | rfl | (simp; done) | (simp [*]; done)), H', ⟨by have := HJ7.out; first | omega | exact Nat.le_refl _⟩, ⟨by repeat (first | (with_reducible first | exact HB.out | apply below_alloc | apply pw_below_drewN | apply below_drew1) | exact HB.out)⟩⟩
        case rest =>
          clear HC14
          try clear c1
          try clear p2
          try clear c9
          try clear c9b0
          try clear c9b1
          try clear c10
          try clear c11
          try clear c12
          try clear c12b0
          try clear c12b1
          try clear c12b2
          try clear c16
          try clear c16b0
          try clear c16b1
          try clear c16b2
          try clear p2
          obtain ⟨kq, x44_13, rfl, HA, HJ13, HB⟩ := hcut
          cases kq with
          | zero => exact absurd HA.out (by simp [excelize_adjustFormulaRowNumber.j1])
          | succ kj13 =>
            have H := HA.out
            clear HA
            simp only [excelize_adjustFormulaRowNumber.j1] at H
            by_cases c17 : x44_13 = true
            · subst c17
              have H1 : (if (wrap64 (t113 + a6)) < 1 then (if 1 > 1048576 then (if a1.size + a0.size ≤ 9223372036854775807 then (none) else (none)) else ((Go.Proofs.YtfbenlenihlpbaaDoor.Given.strconv_Itoa.f 1).bind fun t115 => (if a1.size + t115.size ≤ 9223372036854775807 then (some ((⟨#[]⟩ : ByteArray), a1 ++ t115, false, none)) else (none)))) else (if (wrap64 (t113 + a6)) > 1048576 then (if a1.size + a0.size ≤ 9223372036854775807 then (none) else (none)) else ((Go.Proofs.YtfbenlenihlpbaaDoor.Given.strconv_Itoa.f (wrap64 (t113 + a6))).bind fun t116 => (if a1.size + t116.size ≤ 9223372036854775807 then (some ((⟨#[]⟩ : ByteArray), a1 ++ t116, false, none)) else (none))))) = some (r1, r2, r3, r4) := by rw [if_pos rfl] at H; exact H
              clear H
              have H := H1
              clear H1
              by_cases c18 : (wrap64 (t113 + a6)) < 1
              · rw [if_pos c18] at H
                have c18b0 : decide ((wrap64 (t113 + a6)) < 1) = true := decide_eq_true c18
                clear c18
                by_cases c19 : 1 > 1048576
                · rw [if_pos c19] at H
                  have c19b0 : decide (1048576 < 1) = true := decide_eq_true c19
                  clear c19
                  by_cases c20 : a1.size + a0.size ≤ 9223372036854775807
                  · rw [if_pos c20] at H
                    exact absurd H (by simp)
                  · rw [if_neg c20] at H
                    exact absurd H (by simp)
                · rw [if_neg c19] at H
                  have c19b0 : decide (1048576 < 1) = false := decide_eq_false c19
                  clear c19
                  replace H := Option.bind_eq_some_iff.mp H
                  obtain ⟨t115, A210, H⟩ := H
                  replace H : (if a1.size + t115.size ≤ 9223372036854775807 then (some ((⟨#[]⟩ : ByteArray), a1 ++ t115, false, none)) else (none)) = some (r1, r2, r3, r4) := H
                  have A21 := Aside0.mk A210
                  clear A210
                  by_cases c22 : a1.size + t115.size ≤ 9223372036854775807
                  · rw [if_pos c22] at H
                    have c22b0 := eq_true c22
                    have c22b1 : decide (a1.size + t115.size ≤ 9223372036854775807) = true := decide_eq_true c22
                    try have c22b2 : (9223372036854775807 < a1.size + t115.size) = False := eq_false (Nat.not_lt.2 c22)
                    have c22z := c22
                    (try simp only [ByteArray.size_append, show ∀ x_ : UInt8, (⟨#[x_]⟩ : ByteArray).size = 1 from fun _ => rfl] at c22z)
                    simp only [Option.some.injEq, Prod.mk.injEq] at H
                    obtain ⟨rfl, rfl, rfl, rfl⟩ := H
                    go_wp2_with (first | (go_at_call 90; (with_reducible refine (Go.Proofs.YtfbenlenihlpbaaDoor.Given.strconv_Itoa.calls 1 t115 _ A21.out).mono ?_); rintro e w' ⟨rfl, ⟨nd, rfl⟩⟩; (try first | exact ⟨rfl, _, World.drewN_drewN _ _ _⟩ | exact ⟨rfl, _, Eq.trans (World.drewN_drewN _ _ _) (congrArg (World.drewN _) (Nat.add_assoc _ _ _))⟩)))
                    repeat (go_quiet (first | (go_at_call 90; (with_reducible refine (Go.Proofs.YtfbenlenihlpbaaDoor.Given.strconv_Itoa.calls 1 t115 _ A21.out).mono ?_); rintro e w' ⟨rfl, ⟨nd, rfl⟩⟩; (try first | exact ⟨rfl, _, World.drewN_drewN _ _ _⟩ | exact ⟨rfl, _, Eq.trans (World.drewN_drewN _ _ _) (congrArg (World.drewN _) (Nat.add_assoc _ _ _))⟩))); try go_wp2_with (first | (go_at_call 90; (with_reducible refine (Go.Proofs.YtfbenlenihlpbaaDoor.Given.strconv_Itoa.calls 1 t115 _ A21.out).mono ?_); rintro e w' ⟨rfl, ⟨nd, rfl⟩⟩; (try first | exact ⟨rfl, _, World.drewN_drewN _ _ _⟩ | exact ⟨rfl, _, Eq.trans (World.drewN_drewN _ _ _) (congrArg (World.drewN _) (Nat.add_assoc _ _ _))⟩))))
                    refine bodyPost_ret (results_list (rs := [.tmp 14, .tmp 15, .tmp 16, .tmp 17]) rfl (by simp) (.tmp (.tmp (.tmp (.tmp .nil))))) rfl ?_
                    exact ⟨by first | rfl | (simp [errW_none, errW_some] <;> rfl) | (simp [*, errW_none, errW_some] <;> rfl), by repeat (first | (with_reducible first | exact HB.out | apply below_alloc | apply pw_below_drewN | apply below_drew1) | exact HB.out)⟩
                  · rw [if_neg c22] at H
                    exact absurd H (by simp)
              · rw [if_neg c18] at H
                have c18b0 : decide ((wrap64 (t113 + a6)) < 1) = false := decide_eq_false c18
                clear c18
                by_cases c23 : (wrap64 (t113 + a6)) > 1048576
                · rw [if_pos c23] at H
                  have c23b0 : decide (1048576 < (wrap64 (t113 + a6))) = true := decide_eq_true c23
                  clear c23
                  by_cases c24 : a1.size + a0.size ≤ 9223372036854775807
                  · rw [if_pos c24] at H
                    exact absurd H (by simp)
                  · rw [if_neg c24] at H
                    exact absurd H (by simp)
                · rw [if_neg c23] at H
                  have c23b0 : decide (1048576 < (wrap64 (t113 + a6))) = false := decide_eq_false c23
                  clear c23
                  replace H := Option.bind_eq_some_iff.mp H
                  obtain ⟨t116, A250, H⟩ := H
                  replace H : (if a1.size + t116.size ≤ 9223372036854775807 then (some ((⟨#[]⟩ : ByteArray), a1 ++ t116, false, none)) else (none)) = some (r1, r2, r3, r4) := H
                  have A25 := Aside0.mk A250
                  clear A250
                  by_cases c26 : a1.size + t116.size ≤ 9223372036854775807
                  · rw [if_pos c26] at H
                    have c26b0 := eq_true c26
                    have c26b1 : decide (a1.size + t116.size ≤ 9223372036854775807) = true := decide_eq_true c26
                    try have c26b2 : (9223372036854775807 < a1.size + t116.size) = False := eq_false (Nat.not_lt.2 c26)
                    have c26z := c26
                    (try simp only [ByteArray.size_append, show ∀ x_ : UInt8, (⟨#[x_]⟩ : ByteArray).size = 1 from fun _ => rfl] at c26z)
                    simp only [Option.some.injEq, Prod.mk.injEq] at H
                    obtain ⟨rfl, rfl, rfl, rfl⟩ := H
                    go_wp2_with (first | (go_at_call 90; (with_reducible refine (Go.Proofs.YtfbenlenihlpbaaDoor.Given.strconv_Itoa.calls (wrap64 (t113 + a6)) t116 _ A25.out).mono ?_); rintro e w' ⟨rfl, ⟨nd, rfl⟩⟩; (try first | exact ⟨rfl, _, World.drewN_drewN _ _ _⟩ | exact ⟨rfl, _, Eq.trans (World.drewN_drewN _ _ _) (congrArg (World.drewN _) (Nat.add_assoc _ _ _))⟩)))
                    repeat (go_quiet (first | (go_at_call 90; (with_reducible refine (Go.Proofs.YtfbenlenihlpbaaDoor.Given.strconv_Itoa.calls (wrap64 (t113 + a6)) t116 _ A25.out).mono ?_); rintro e w' ⟨rfl, ⟨nd, rfl⟩⟩; (try first | exact ⟨rfl, _, World.drewN_drewN _ _ _⟩ | exact ⟨rfl, _, Eq.trans (World.drewN_drewN _ _ _) (congrArg (World.drewN _) (Nat.add_assoc _ _ _))⟩))); try go_wp2_with (first | (go_at_call 90; (with_reducible refine (Go.Proofs.YtfbenlenihlpbaaDoor.Given.strconv_Itoa.calls (wrap64 (t113 + a6)) t116 _ A25.out).mono ?_); rintro e w' ⟨rfl, ⟨nd, rfl⟩⟩; (try first | exact ⟨rfl, _, World.drewN_drewN _ _ _⟩ | exact ⟨rfl, _, Eq.trans (World.drewN_drewN _ _ _) (congrArg (World.drewN _) (Nat.add_assoc _ _ _))⟩))))
                    refine bodyPost_ret (results_list (rs := [.tmp 14, .tmp 15, .tmp 16, .tmp 17]) rfl (by simp) (.tmp (.tmp (.tmp (.tmp .nil))))) rfl ?_
                    exact ⟨by first | rfl | (simp [errW_none, errW_some] <;> rfl) | (simp [*, errW_none, errW_some] <;> rfl), by repeat (first | (with_reducible first | exact HB.out | apply below_alloc | apply pw_below_drewN | apply below_drew1) | exact HB.out)⟩
                  · rw [if_neg c26] at H
                    exact absurd H (by simp)
            · replace c17 := Bool.eq_false_iff.mpr c17
              subst c17
              have H1 : (if a1.size + a0.size ≤ 9223372036854775807 then (some ((⟨#[]⟩ : ByteArray), a1 ++ a0, false, none)) else (none)) = some (r1, r2, r3, r4) := by rw [if_neg (show ¬ (false = true) by decide)] at H; exact H
              clear H
              have H := H1
              clear H1
              by_cases c27 : a1.size + a0.size ≤ 9223372036854775807
              · rw [if_pos c27] at H
                have c27b0 := eq_true c27
                have c27b1 : decide (a1.size + a0.size ≤ 9223372036854775807) = true := decide_eq_true c27
                try have c27b2 : (9223372036854775807 < a1.size + a0.size) = False := eq_false (Nat.not_lt.2 c27)
                have c27z := c27
                (try simp only [ByteArray.size_append, show ∀ x_ : UInt8, (⟨#[x_]⟩ : ByteArray).size = 1 from fun _ => rfl] at c27z)
                simp only [Option.some.injEq, Prod.mk.injEq] at H
                obtain ⟨rfl, rfl, rfl, rfl⟩ := H
                go_wp2
                repeat (go_quiet (fail); try go_wp2)
                refine bodyPost_ret (results_list (rs := [.tmp 14, .tmp 15, .tmp 16, .tmp 17]) rfl (by simp) (.tmp (.tmp (.tmp (.tmp .nil))))) rfl ?_
                exact ⟨by first | rfl | (simp [errW_none, errW_some] <;> rfl) | (simp [*, errW_none, errW_some] <;> rfl), by repeat (first | (with_reducible first | exact HB.out | apply below_alloc | apply pw_below_drewN | apply below_drew1) | exact HB.out)⟩
              · rw [if_neg c27] at H
                exact absurd H (by simp)

end Go.Proofs.YtfbenlenihlpbaaDoor.POa
end

section
namespace Go.Proofs.YtfbenlenihlpbaaDoor.POa
open Go.RowKit Go.Proofs.YtfbenlenihlpbaaDoorW.PrintWords Go.Proofs.YtfbenlenihlpbaaDoorW.PrintLast Go.Proofs.YtfbenlenihlpbaaDoorW.PrintMore
attribute [local go_sem] max2_int min2_int max_two min_two max_three min_three max_four min_four   -- for this text's walks alone
set_option linter.unusedVariables false
set_option linter.unusedSimpArgs false

/-! ### excelize_adjustFormulaOperandRef: function 79 -/
def excelize_adjustFormulaOperandRef.f (k : Nat) (a0 : ByteArray) (a1 : ByteArray) (a2 : ByteArray) (a3 : Bool) (a4 : Bool) (a5 : Bool) (a6 : Int) (a7 : Int) : Option (ByteArray × ByteArray × ByteArray × Bool × Option Int) := (excelize_adjustFormulaColumnName.f k a1 a2 a3 a4 a5 a6 a7).bind fun bt117 => (if bt117.2.2.2.isNone = true then ((excelize_adjustFormulaRowNumber.f k a0 bt117.2.1 bt117.2.2.1 a4 a5 a6 a7).bind fun bt122 => (some (bt122.1, bt117.1, bt122.2.1, bt122.2.2.1, bt122.2.2.2))) else (some (a0, bt117.1, bt117.2.1, bt117.2.2.1, some (bt117.2.2.2.getD 0))))
theorem excelize_adjustFormulaOperandRef.mono : ∀ a0 a1 a2 a3 a4 a5 a6 a7 k, LeO (excelize_adjustFormulaOperandRef.f k a0 a1 a2 a3 a4 a5 a6 a7) (excelize_adjustFormulaOperandRef.f (k + 1) a0 a1 a2 a3 a4 a5 a6 a7) := by
  intro a0 a1 a2 a3 a4 a5 a6 a7 k
  unfold excelize_adjustFormulaOperandRef.f
  repeat' first
      | (with_reducible exact excelize_adjustFormulaColumnName.mono _ _ _ _ _ _ _ _)
      | (with_reducible exact excelize_adjustFormulaRowNumber.mono _ _ _ _ _ _ _ _)
      | (with_reducible exact LeO.refl _)
      | (with_reducible exact LeO.none _)
      | (with_reducible refine LeO.ite ?_ ?_)
      | (with_reducible refine LeO.bind ?_ (fun _ => ?_))
      | exact excelize_adjustFormulaColumnName.mono _ _ _ _ _ _ _ _
      | exact excelize_adjustFormulaRowNumber.mono _ _ _ _ _ _ _ _
      | exact LeO.none _
      | refine LeO.ite ?_ ?_
      | refine LeO.bind ?_ (fun _ => ?_)
set_option maxHeartbeats 8000000 in
set_option maxRecDepth 100000 in
theorem excelize_adjustFormulaOperandRef.calls (k : Nat) (a0 : ByteArray) (a1 : ByteArray) (a2 : ByteArray) (a3 : Bool) (a4 : Bool) (a5 : Bool) (a6 : Int) (a7 : Int) (r1 : ByteArray) (r2 : ByteArray) (r3 : ByteArray) (r4 : Bool) (r5 : Option Int) (w : World) (h : excelize_adjustFormulaOperandRef.f k a0 a1 a2 a3 a4 a5 a6 a7 = some (r1, r2, r3, r4, r5)) :
    Calls Tryd.prog 79 #[.string a0, .string a1, .string a2, .bool a3, .bool a4, .bool a5, .int .i64 a6, .int .i64 a7] w fun e w' => e = .returned (.tuple #[.string r1, .string r2, .string r3, .bool r4, errW r5]) ∧ Below w.heap.size w w' := by
  have hu74 := Tryd.underlying74
  have HB := Aside0.mk (Below.refl w.heap.size w)
  have H : ((excelize_adjustFormulaColumnName.f k a1 a2 a3 a4 a5 a6 a7).bind fun bt117 => (if bt117.2.2.2.isNone = true then ((excelize_adjustFormulaRowNumber.f k a0 bt117.2.1 bt117.2.2.1 a4 a5 a6 a7).bind fun bt122 => (some (bt122.1, bt117.1, bt122.2.1, bt122.2.2.1, bt122.2.2.2))) else (some (a0, bt117.1, bt117.2.1, bt117.2.2.1, some (bt117.2.2.2.getD 0))))) = some (r1, r2, r3, r4, r5) := h
  clear h
  replace H := Option.bind_eq_some_iff.mp H
  obtain ⟨⟨t117, t118, t119, t120⟩, A90, H⟩ := H
  replace H : (if t120.isNone = true then ((excelize_adjustFormulaRowNumber.f k a0 t118 t119 a4 a5 a6 a7).bind fun bt122 => (some (bt122.1, t117, bt122.2.1, bt122.2.2.1, bt122.2.2.2))) else (some (a0, t117, t118, t119, some (t120.getD 0)))) = some (r1, r2, r3, r4, r5) := H
  have A9 := Aside0.mk A90
  clear A90
  rcases t120 with _ | q121
  · have H1 : ((excelize_adjustFormulaRowNumber.f k a0 t118 t119 a4 a5 a6 a7).bind fun bt122 => (some (bt122.1, t117, bt122.2.1, bt122.2.2.1, bt122.2.2.2))) = some (r1, r2, r3, r4, r5) := by rw [if_pos (show (none : Option Int).isNone = true by rfl)] at H; exact H
    clear H
    have H := H1
    clear H1
    try simp only [errW_none, errW_some]
    replace H := Option.bind_eq_some_iff.mp H
    obtain ⟨⟨t122, t123, t124, t125⟩, A100, H⟩ := H
    replace H : (some (t122, t117, t123, t124, t125)) = some (r1, r2, r3, r4, r5) := H
    have A10 := Aside0.mk A100
    clear A100
    simp only [Option.some.injEq, Prod.mk.injEq] at H
    obtain ⟨rfl, rfl, rfl, rfl, rfl⟩ := H
    go_enter Tryd.func79, Tryd.ntmps79
    go_wp2_with (first | ((with_reducible refine gate_callee (f := 78) rfl ?_); refine goesL_ (some 30) rfl rfl Tryd.func78 (by kernel_rfl) rfl #[.string a1, .string a2, .bool a3, .bool a4, .bool a5, .int .i64 a6, .int .i64 a7] rfl (by (try simp only [List.map_toArray, List.map_cons, List.map_nil]); first | done | rfl | (simp only [List.length_drop, List.length_take]; rfl)) ?_; (with_reducible refine (excelize_adjustFormulaColumnName.calls k a1 a2 a3 a4 a5 a6 a7 t117 t118 t119 none _ A9.out).mono ?_); rintro e w11 ⟨rfl, hb⟩; refine ⟨_, rfl, ?_⟩; have n0_ := Aside0.mk (below_step (by repeat (first | (with_reducible first | exact HB.out | apply below_alloc | apply pw_below_drewN | apply below_drew1) | exact HB.out)) hb); clear HB; have HB := n0_; clear n0_; (try clear hb); (try clear hb2); (try clear hk); (try clear hi); (try simp only [errW_none, errW_some])) | ((with_reducible refine gate_callee (f := 98) rfl ?_); refine goesL_ (some 50) rfl rfl Tryd.func98 (by kernel_rfl) rfl #[.string a0, .string t118, .bool t119, .bool a4, .bool a5, .int .i64 a6, .int .i64 a7] rfl (by (try simp only [List.map_toArray, List.map_cons, List.map_nil]); first | done | rfl | (simp only [List.length_drop, List.length_take]; rfl)) ?_; (with_reducible refine (excelize_adjustFormulaRowNumber.calls k a0 t118 t119 a4 a5 a6 a7 t122 t123 t124 t125 _ A10.out).mono ?_); rintro e w12 ⟨rfl, hb⟩; refine ⟨_, rfl, ?_⟩; have n0_ := Aside0.mk (below_step (by repeat (first | (with_reducible first | exact HB.out | apply below_alloc | apply pw_below_drewN | apply below_drew1) | exact HB.out)) hb); clear HB; have HB := n0_; clear n0_; (try clear hb); (try clear hb2); (try clear hk); (try clear hi); (try simp only [errW_none, errW_some])))
    refine bodyPost_ret (results_list (rs := [.tmp 16, .tmp 17, .tmp 18, .tmp 19, .tmp 20]) rfl (by simp) (.tmp (.tmp (.tmp (.tmp (.tmp .nil)))))) rfl ?_
    exact ⟨by first | rfl | (simp [errW_none, errW_some] <;> rfl) | (simp [*, errW_none, errW_some] <;> rfl), by repeat (first | (with_reducible first | exact HB.out | apply below_alloc | apply pw_below_drewN | apply below_drew1) | exact HB.out)⟩
  · have H1 : (some (a0, t117, t118, t119, some q121)) = some (r1, r2, r3, r4, r5) := by rw [if_neg (show ¬ (some q121).isNone = true by simp)] at H; exact H
    clear H
    have H := H1
    clear H1
    try simp only [errW_none, errW_some]
    simp only [Option.some.injEq, Prod.mk.injEq] at H
    obtain ⟨rfl, rfl, rfl, rfl, rfl⟩ := H
    go_enter Tryd.func79, Tryd.ntmps79
    go_wp2_with (first | ((with_reducible refine gate_callee (f := 78) rfl ?_); refine goesL_ (some 30) rfl rfl Tryd.func78 (by kernel_rfl) rfl #[.string a1, .string a2, .bool a3, .bool a4, .bool a5, .int .i64 a6, .int .i64 a7] rfl (by (try simp only [List.map_toArray, List.map_cons, List.map_nil]); first | done | rfl | (simp only [List.length_drop, List.length_take]; rfl)) ?_; (with_reducible refine (excelize_adjustFormulaColumnName.calls k a1 a2 a3 a4 a5 a6 a7 t117 t118 t119 (some q121) _ A9.out).mono ?_); rintro e w13 ⟨rfl, hb⟩; refine ⟨_, rfl, ?_⟩; have n0_ := Aside0.mk (below_step (by repeat (first | (with_reducible first | exact HB.out | apply below_alloc | apply pw_below_drewN | apply below_drew1) | exact HB.out)) hb); clear HB; have HB := n0_; clear n0_; (try clear hb); (try clear hb2); (try clear hk); (try clear hi); (try simp only [errW_none, errW_some])))
    refine bodyPost_ret (results_list (rs := [.tmp 16, .tmp 17, .tmp 18, .tmp 19, .tmp 20]) rfl (by simp) (.tmp (.tmp (.tmp (.tmp (.tmp .nil)))))) rfl ?_
    exact ⟨by first | rfl | (simp [errW_none, errW_some] <;> rfl) | (simp [*, errW_none, errW_some] <;> rfl), by repeat (first | (with_reducible first | exact HB.out | apply below_alloc | apply pw_below_drewN | apply below_drew1) | exact HB.out)⟩

end Go.Proofs.YtfbenlenihlpbaaDoor.POa
end

section
namespace Go.Proofs.YtfbenlenihlpbaaDoor.POa
open Go.RowKit Go.Proofs.YtfbenlenihlpbaaDoorW.PrintWords Go.Proofs.YtfbenlenihlpbaaDoorW.PrintLast Go.Proofs.YtfbenlenihlpbaaDoorW.PrintMore
attribute [local go_sem] max2_int min2_int max_two min_two max_three min_three max_four min_four   -- for this text's walks alone
set_option linter.unusedVariables false
set_option linter.unusedSimpArgs false

/-! ### spec_corner: function 80 -/
def spec_corner.j0 : Nat → Int → Int → Bool → ByteArray → Option (ByteArray)
  | 0, _, _, _, _ => none
  | k + 1, x0, x1, x3, x9 => (Go.Proofs.YtfbenlenihlpbaaDoor.PColumnName.spec_ColumnName.f k x0).bind fun bt126 => (if x9.size + bt126.1.size ≤ 9223372036854775807 then (if x3 = true then (if (x9 ++ bt126.1).size + 1 ≤ 9223372036854775807 then ((Go.Proofs.YtfbenlenihlpbaaDoor.PDigits.spec_Digits.f k x1 10).bind fun t128 => (if ((x9 ++ bt126.1) ++ (⟨#[36]⟩ : ByteArray)).size + t128.size ≤ 9223372036854775807 then (some (((x9 ++ bt126.1) ++ (⟨#[36]⟩ : ByteArray)) ++ t128)) else (none))) else (none)) else ((Go.Proofs.YtfbenlenihlpbaaDoor.PDigits.spec_Digits.f k x1 10).bind fun t129 => (if (x9 ++ bt126.1).size + t129.size ≤ 9223372036854775807 then (some ((x9 ++ bt126.1) ++ t129)) else (none)))) else (none))
def spec_corner.f (k : Nat) (a0 : Int) (a1 : Int) (a2 : Bool) (a3 : Bool) : Option (ByteArray) := if a2 = true then (spec_corner.j0 k a0 a1 a3 (⟨#[36]⟩ : ByteArray)) else (spec_corner.j0 k a0 a1 a3 (⟨#[]⟩ : ByteArray))
theorem spec_corner.mono_l : ∀ k, (∀ y0 y1 y2 y3, LeO (spec_corner.j0 k y0 y1 y2 y3) (spec_corner.j0 (k + 1) y0 y1 y2 y3))
  | 0 => fun _ _ _ _ r h => by simp [spec_corner.j0] at h
  | k + 1 => by
    have ih0 := spec_corner.mono_l k
    · intro y0 y1 y2 y3
      unfold spec_corner.j0
      repeat' first
      | (with_reducible exact ih0 _ _ _ _)
      | (with_reducible exact Go.Proofs.YtfbenlenihlpbaaDoor.PColumnName.spec_ColumnName.mono _ _)
      | (with_reducible exact Go.Proofs.YtfbenlenihlpbaaDoor.PDigits.spec_Digits.mono _ _ _)
      | (with_reducible exact LeO.refl _)
      | (with_reducible exact LeO.none _)
      | (with_reducible refine LeO.ite ?_ ?_)
      | (with_reducible refine LeO.bind ?_ (fun _ => ?_))
      | exact ih0 _ _ _ _
      | exact Go.Proofs.YtfbenlenihlpbaaDoor.PColumnName.spec_ColumnName.mono _ _
      | exact Go.Proofs.YtfbenlenihlpbaaDoor.PDigits.spec_Digits.mono _ _ _
      | exact LeO.none _
      | refine LeO.ite ?_ ?_
      | refine LeO.bind ?_ (fun _ => ?_)
theorem spec_corner.mono : ∀ a0 a1 a2 a3 k, LeO (spec_corner.f k a0 a1 a2 a3) (spec_corner.f (k + 1) a0 a1 a2 a3) := by
  intro a0 a1 a2 a3 k
  have ih0 := spec_corner.mono_l k
  unfold spec_corner.f
  repeat' first
      | (with_reducible exact ih0 _ _ _ _)
      | (with_reducible exact Go.Proofs.YtfbenlenihlpbaaDoor.PColumnName.spec_ColumnName.mono _ _)
      | (with_reducible exact Go.Proofs.YtfbenlenihlpbaaDoor.PDigits.spec_Digits.mono _ _ _)
      | (with_reducible exact LeO.refl _)
      | (with_reducible exact LeO.none _)
      | (with_reducible refine LeO.ite ?_ ?_)
      | (with_reducible refine LeO.bind ?_ (fun _ => ?_))
      | exact ih0 _ _ _ _
      | exact Go.Proofs.YtfbenlenihlpbaaDoor.PColumnName.spec_ColumnName.mono _ _
      | exact Go.Proofs.YtfbenlenihlpbaaDoor.PDigits.spec_Digits.mono _ _ _
      | exact LeO.none _
      | refine LeO.ite ?_ ?_
      | refine LeO.bind ?_ (fun _ => ?_)
set_option maxHeartbeats 8000000 in
set_option maxRecDepth 100000 in
theorem spec_corner.calls (k : Nat) (a0 : Int) (a1 : Int) (a2 : Bool) (a3 : Bool) (r : ByteArray) (w : World) (h : spec_corner.f k a0 a1 a2 a3 = some r) :
    Calls Tryd.prog 80 #[.int .i64 a0, .int .i64 a1, .bool a2, .bool a3] w fun e w' => e = .returned (.string r) ∧ Below w.heap.size w w' := by
  have HB := Aside0.mk (Below.refl w.heap.size w)
  have H : (if a2 = true then (spec_corner.j0 k a0 a1 a3 (⟨#[36]⟩ : ByteArray)) else (spec_corner.j0 k a0 a1 a3 (⟨#[]⟩ : ByteArray))) = some r := h
  clear h
  have HC5 := Aside0.mk H
  clear H
  go_enter Tryd.func80, Tryd.ntmps80
  go_upto_if 12 with (fail)
  go_cut [9] (fun v9 wc => ∃ (kq : Nat) (x9_4 : ByteArray), v9 = .string x9_4 ∧ Aside0 (spec_corner.j0 kq a0 a1 a3 x9_4 = some r) ∧ Aside0 (kq ≤ k) ∧ Aside0 (Below w.heap.size w wc))
  case first =>
    have H := HC5.out
    clear HC5
    by_cases c6 : a2 = true
    · subst c6
      have H1 : (spec_corner.j0 k a0 a1 a3 (⟨#[36]⟩ : ByteArray)) = some r := by rw [if_pos rfl] at H; exact H
      clear H
      have H := H1
      clear H1
      have H' := Aside0.mk H
      clear H
      go_wp2
      go_meet
      case rel => exact ⟨_, ((⟨#[36]⟩ : ByteArray)), (by first | rfl | (simp; done) | (simp [*]; done)), H', ⟨by first | omega | exact Nat.le_refl _⟩, ⟨by repeat (first | (with_reducible first | exact HB.out | apply below_alloc | apply pw_below_drewN | apply below_drew1) | exact HB.out)⟩⟩
    · replace c6 := Bool.eq_false_iff.mpr c6
      subst c6
      have H1 : (spec_corner.j0 k a0 a1 a3 (⟨#[]⟩ : ByteArray)) = some r := by rw [if_neg (show ¬ (false = true) by decide)] at H; exact H
      clear H
      have H := H1
      clear H1
      have H' := Aside0.mk H
      clear H
      go_wp2
      go_meet
      case rel => exact ⟨_, ((⟨#[]⟩ : ByteArray)), (by first | rfl | (simp; done) | (simp [*]; done)), H', ⟨by first | omega | exact Nat.le_refl _⟩, ⟨by repeat (first | (with_reducible first | exact HB.out | apply below_alloc | apply pw_below_drewN | apply below_drew1) | exact HB.out)⟩⟩
  case rest =>
    clear HC5
    try clear p2
    try clear c6
    obtain ⟨kq, x9_4, rfl, HA, HJ4, HB⟩ := hcut
    cases kq with
    | zero => exact absurd HA.out (by simp [spec_corner.j0])
    | succ kj4 =>
      have H := HA.out
      clear HA
      simp only [spec_corner.j0] at H
      replace H := Option.bind_eq_some_iff.mp H
      obtain ⟨⟨t126, t127⟩, A70, H⟩ := H
      replace H : (if x9_4.size + t126.size ≤ 9223372036854775807 then (if a3 = true then (if (x9_4 ++ t126).size + 1 ≤ 9223372036854775807 then ((Go.Proofs.YtfbenlenihlpbaaDoor.PDigits.spec_Digits.f kj4 a1 10).bind fun t128 => (if ((x9_4 ++ t126) ++ (⟨#[36]⟩ : ByteArray)).size + t128.size ≤ 9223372036854775807 then (some (((x9_4 ++ t126) ++ (⟨#[36]⟩ : ByteArray)) ++ t128)) else (none))) else (none)) else ((Go.Proofs.YtfbenlenihlpbaaDoor.PDigits.spec_Digits.f kj4 a1 10).bind fun t129 => (if (x9_4 ++ t126).size + t129.size ≤ 9223372036854775807 then (some ((x9_4 ++ t126) ++ t129)) else (none)))) else (none)) = some r := H
      have A7 := Aside0.mk A70
      clear A70
      by_cases c8 : x9_4.size + t126.size ≤ 9223372036854775807
      · rw [if_pos c8] at H
        have c8b0 := eq_true c8
        have c8b1 : decide (x9_4.size + t126.size ≤ 9223372036854775807) = true := decide_eq_true c8
        try have c8b2 : (9223372036854775807 < x9_4.size + t126.size) = False := eq_false (Nat.not_lt.2 c8)
        have c8z := c8
        (try simp only [ByteArray.size_append, show ∀ x_ : UInt8, (⟨#[x_]⟩ : ByteArray).size = 1 from fun _ => rfl] at c8z)
        by_cases c9 : a3 = true
        · subst c9
          have H1 : (if (x9_4 ++ t126).size + 1 ≤ 9223372036854775807 then ((Go.Proofs.YtfbenlenihlpbaaDoor.PDigits.spec_Digits.f kj4 a1 10).bind fun t128 => (if ((x9_4 ++ t126) ++ (⟨#[36]⟩ : ByteArray)).size + t128.size ≤ 9223372036854775807 then (some (((x9_4 ++ t126) ++ (⟨#[36]⟩ : ByteArray)) ++ t128)) else (none))) else (none)) = some r := by rw [if_pos rfl] at H; exact H
          clear H
          have H := H1
          clear H1
          by_cases c10 : (x9_4 ++ t126).size + 1 ≤ 9223372036854775807
          · rw [if_pos c10] at H
            have c10b0 := eq_true c10
            have c10b1 : decide ((x9_4 ++ t126).size + 1 ≤ 9223372036854775807) = true := decide_eq_true c10
            try have c10b2 : (9223372036854775807 < (x9_4 ++ t126).size + 1) = False := eq_false (Nat.not_lt.2 c10)
            have c10z := c10
            (try simp only [ByteArray.size_append, show ∀ x_ : UInt8, (⟨#[x_]⟩ : ByteArray).size = 1 from fun _ => rfl] at c10z)
            replace H := Option.bind_eq_some_iff.mp H
            obtain ⟨t128, A110, H⟩ := H
            replace H : (if ((x9_4 ++ t126) ++ (⟨#[36]⟩ : ByteArray)).size + t128.size ≤ 9223372036854775807 then (some (((x9_4 ++ t126) ++ (⟨#[36]⟩ : ByteArray)) ++ t128)) else (none)) = some r := H
            have A11 := Aside0.mk A110
            clear A110
            by_cases c12 : ((x9_4 ++ t126) ++ (⟨#[36]⟩ : ByteArray)).size + t128.size ≤ 9223372036854775807
            · rw [if_pos c12] at H
              have c12b0 := eq_true c12
              have c12b1 : decide (((x9_4 ++ t126) ++ (⟨#[36]⟩ : ByteArray)).size + t128.size ≤ 9223372036854775807) = true := decide_eq_true c12
              try have c12b2 : (9223372036854775807 < ((x9_4 ++ t126) ++ (⟨#[36]⟩ : ByteArray)).size + t128.size) = False := eq_false (Nat.not_lt.2 c12)
              have c12z := c12
              (try simp only [ByteArray.size_append, show ∀ x_ : UInt8, (⟨#[x_]⟩ : ByteArray).size = 1 from fun _ => rfl] at c12z)
              obtain rfl := Option.some.inj H
              go_wp2_with (first | ((with_reducible refine gate_callee (f := 20) rfl ?_); refine goesL_ (some 15) rfl rfl Tryd.func20 (by kernel_rfl) rfl #[.int .i64 a0] rfl (by (try simp only [List.map_toArray, List.map_cons, List.map_nil]); first | done | rfl | (simp only [List.length_drop, List.length_take]; rfl)) ?_; (with_reducible refine (Go.Proofs.YtfbenlenihlpbaaDoor.PColumnName.spec_ColumnName.calls kj4 a0 t126 t127 _ A7.out).mono ?_); rintro e w13 ⟨rfl, hb⟩; refine ⟨_, rfl, ?_⟩; have n0_ := Aside0.mk (below_step (by repeat (first | (with_reducible first | exact HB.out | apply below_alloc | apply pw_below_drewN | apply below_drew1) | exact HB.out)) hb); clear HB; have HB := n0_; clear n0_; (try clear hb); (try clear hb2); (try clear hk); (try clear hi)) | ((with_reducible refine gate_callee (f := 36) rfl ?_); refine goesL_ (some 26) rfl rfl Tryd.func36 (by kernel_rfl) rfl #[.int .i64 a1, .int .i64 10] rfl (by (try simp only [List.map_toArray, List.map_cons, List.map_nil]); first | done | rfl | (simp only [List.length_drop, List.length_take]; rfl)) ?_; (with_reducible refine (Go.Proofs.YtfbenlenihlpbaaDoor.PDigits.spec_Digits.calls kj4 a1 10 t128 _ A11.out).mono ?_); rintro e w' ⟨rfl, ⟨nd, rfl⟩⟩; refine ⟨_, rfl, ?_⟩))
              go_ret
              exact ⟨by first | rfl | (simp [errW_none, errW_some] <;> rfl) | (simp [*, errW_none, errW_some] <;> rfl), by repeat (first | (with_reducible first | exact HB.out | apply below_alloc | apply pw_below_drewN | apply below_drew1) | exact HB.out)⟩
            · rw [if_neg c12] at H
              exact absurd H (by simp)
          · rw [if_neg c10] at H
            exact absurd H (by simp)
        · replace c9 := Bool.eq_false_iff.mpr c9
          subst c9
          have H1 : ((Go.Proofs.YtfbenlenihlpbaaDoor.PDigits.spec_Digits.f kj4 a1 10).bind fun t129 => (if (x9_4 ++ t126).size + t129.size ≤ 9223372036854775807 then (some ((x9_4 ++ t126) ++ t129)) else (none))) = some r := by rw [if_neg (show ¬ (false = true) by decide)] at H; exact H
          clear H
          have H := H1
          clear H1
          replace H := Option.bind_eq_some_iff.mp H
          obtain ⟨t129, A140, H⟩ := H
          replace H : (if (x9_4 ++ t126).size + t129.size ≤ 9223372036854775807 then (some ((x9_4 ++ t126) ++ t129)) else (none)) = some r := H
          have A14 := Aside0.mk A140
          clear A140
          by_cases c15 : (x9_4 ++ t126).size + t129.size ≤ 9223372036854775807
          · rw [if_pos c15] at H
            have c15b0 := eq_true c15
            have c15b1 : decide ((x9_4 ++ t126).size + t129.size ≤ 9223372036854775807) = true := decide_eq_true c15
            try have c15b2 : (9223372036854775807 < (x9_4 ++ t126).size + t129.size) = False := eq_false (Nat.not_lt.2 c15)
            have c15z := c15
            (try simp only [ByteArray.size_append, show ∀ x_ : UInt8, (⟨#[x_]⟩ : ByteArray).size = 1 from fun _ => rfl] at c15z)
            obtain rfl := Option.some.inj H
            go_wp2_with (first | ((with_reducible refine gate_callee (f := 20) rfl ?_); refine goesL_ (some 15) rfl rfl Tryd.func20 (by kernel_rfl) rfl #[.int .i64 a0] rfl (by (try simp only [List.map_toArray, List.map_cons, List.map_nil]); first | done | rfl | (simp only [List.length_drop, List.length_take]; rfl)) ?_; (with_reducible refine (Go.Proofs.YtfbenlenihlpbaaDoor.PColumnName.spec_ColumnName.calls kj4 a0 t126 t127 _ A7.out).mono ?_); rintro e w16 ⟨rfl, hb⟩; refine ⟨_, rfl, ?_⟩; have n0_ := Aside0.mk (below_step (by repeat (first | (with_reducible first | exact HB.out | apply below_alloc | apply pw_below_drewN | apply below_drew1) | exact HB.out)) hb); clear HB; have HB := n0_; clear n0_; (try clear hb); (try clear hb2); (try clear hk); (try clear hi)) | ((with_reducible refine gate_callee (f := 36) rfl ?_); refine goesL_ (some 26) rfl rfl Tryd.func36 (by kernel_rfl) rfl #[.int .i64 a1, .int .i64 10] rfl (by (try simp only [List.map_toArray, List.map_cons, List.map_nil]); first | done | rfl | (simp only [List.length_drop, List.length_take]; rfl)) ?_; (with_reducible refine (Go.Proofs.YtfbenlenihlpbaaDoor.PDigits.spec_Digits.calls kj4 a1 10 t129 _ A14.out).mono ?_); rintro e w' ⟨rfl, ⟨nd, rfl⟩⟩; refine ⟨_, rfl, ?_⟩))
            go_ret
            exact ⟨by first | rfl | (simp [errW_none, errW_some] <;> rfl) | (simp [*, errW_none, errW_some] <;> rfl), by repeat (first | (with_reducible first | exact HB.out | apply below_alloc | apply pw_below_drewN | apply below_drew1) | exact HB.out)⟩
          · rw [if_neg c15] at H
            exact absurd H (by simp)
      · rw [if_neg c8] at H
        exact absurd H (by simp)

end Go.Proofs.YtfbenlenihlpbaaDoor.POa
end

section
namespace Go.Proofs.YtfbenlenihlpbaaDoor.POa
open Go.RowKit Go.Proofs.YtfbenlenihlpbaaDoorW.PrintWords Go.Proofs.YtfbenlenihlpbaaDoorW.PrintLast Go.Proofs.YtfbenlenihlpbaaDoorW.PrintMore
attribute [local go_sem] max2_int min2_int max_two min_two max_three min_three max_four min_four   -- for this text's walks alone
set_option linter.unusedVariables false
set_option linter.unusedSimpArgs false

/-! ### spec_levels: function 59 -/
mutual
def spec_levels.j0 : Nat → ByteArray → Bool → Option (Int)
  | 0, _, _ => none
  | k + 1, x3, x4 => if x4 = true then (some 1) else (if x3.toList = ([38] : List UInt8) then (some 2) else (if x3.toList = ([43] : List UInt8) then (spec_levels.j1 k x3 (x3.toList == ([43] : List UInt8))) else (spec_levels.j1 k x3 (x3.toList == ([45] : List UInt8)))))
def spec_levels.j1 : Nat → ByteArray → Bool → Option (Int)
  | 0, _, _ => none
  | k + 1, x3, x13 => if x13 = true then (some 3) else (if x3.toList = ([42] : List UInt8) then (spec_levels.j2 k x3 (x3.toList == ([42] : List UInt8))) else (spec_levels.j2 k x3 (x3.toList == ([47] : List UInt8))))
def spec_levels.j2 : Nat → ByteArray → Bool → Option (Int)
  | 0, _, _ => none
  | k + 1, x3, x16 => if x16 = true then (some 4) else (if x3.toList = ([94] : List UInt8) then (some 5) else (if x3.toList = ([112, 101, 114, 99, 101, 110, 116] : List UInt8) then (some 6) else (if x3.toList = ([110, 101, 103] : List UInt8) then (some 7) else (if x3.toList = ([112, 108, 117, 115] : List UInt8) then (some 7) else (some 0)))))
end
def spec_levels.f (k : Nat) (a0 : ByteArray) : Option (Int) := if a0.toList = ([61] : List UInt8) then (spec_levels.j0 k a0 (a0.toList == ([61] : List UInt8))) else (if a0.toList = ([60, 62] : List UInt8) then (spec_levels.j0 k a0 (a0.toList == ([60, 62] : List UInt8))) else (if a0.toList = ([60] : List UInt8) then (spec_levels.j0 k a0 (a0.toList == ([60] : List UInt8))) else (if a0.toList = ([62] : List UInt8) then (spec_levels.j0 k a0 (a0.toList == ([62] : List UInt8))) else (if a0.toList = ([60, 61] : List UInt8) then (spec_levels.j0 k a0 (a0.toList == ([60, 61] : List UInt8))) else (spec_levels.j0 k a0 (a0.toList == ([62, 61] : List UInt8)))))))
theorem spec_levels.mono_l : ∀ k, (∀ y0 y1, LeO (spec_levels.j0 k y0 y1) (spec_levels.j0 (k + 1) y0 y1)) ∧ (∀ y0 y1, LeO (spec_levels.j1 k y0 y1) (spec_levels.j1 (k + 1) y0 y1)) ∧ (∀ y0 y1, LeO (spec_levels.j2 k y0 y1) (spec_levels.j2 (k + 1) y0 y1))
  | 0 => ⟨fun _ _ r h => by simp [spec_levels.j0] at h, fun _ _ r h => by simp [spec_levels.j1] at h, fun _ _ r h => by simp [spec_levels.j2] at h⟩
  | k + 1 => by
    obtain ⟨ih0, ih1, ih2⟩ := spec_levels.mono_l k
    refine ⟨?_, ?_, ?_⟩
    · intro y0 y1
      unfold spec_levels.j0
      repeat' first
      | (with_reducible exact ih0 _ _)
      | (with_reducible exact ih1 _ _)
      | (with_reducible exact ih2 _ _)
      | (with_reducible exact LeO.refl _)
      | (with_reducible exact LeO.none _)
      | (with_reducible refine LeO.ite ?_ ?_)
      | (with_reducible refine LeO.bind ?_ (fun _ => ?_))
      | exact ih0 _ _
      | exact ih1 _ _
      | exact ih2 _ _
      | exact LeO.none _
      | refine LeO.ite ?_ ?_
      | refine LeO.bind ?_ (fun _ => ?_)
    · intro y0 y1
      unfold spec_levels.j1
      repeat' first
      | (with_reducible exact ih0 _ _)
      | (with_reducible exact ih1 _ _)
      | (with_reducible exact ih2 _ _)
      | (with_reducible exact LeO.refl _)
      | (with_reducible exact LeO.none _)
      | (with_reducible refine LeO.ite ?_ ?_)
      | (with_reducible refine LeO.bind ?_ (fun _ => ?_))
      | exact ih0 _ _
      | exact ih1 _ _
      | exact ih2 _ _
      | exact LeO.none _
      | refine LeO.ite ?_ ?_
      | refine LeO.bind ?_ (fun _ => ?_)
    · intro y0 y1
      unfold spec_levels.j2
      repeat' first
      | (with_reducible exact ih0 _ _)
      | (with_reducible exact ih1 _ _)
      | (with_reducible exact ih2 _ _)
      | (with_reducible exact LeO.refl _)
      | (with_reducible exact LeO.none _)
      | (with_reducible refine LeO.ite ?_ ?_)
      | (with_reducible refine LeO.bind ?_ (fun _ => ?_))
      | exact ih0 _ _
      | exact ih1 _ _
      | exact ih2 _ _
      | exact LeO.none _
      | refine LeO.ite ?_ ?_
      | refine LeO.bind ?_ (fun _ => ?_)
theorem spec_levels.mono : ∀ a0 k, LeO (spec_levels.f k a0) (spec_levels.f (k + 1) a0) := by
  intro a0 k
  obtain ⟨ih0, ih1, ih2⟩ := spec_levels.mono_l k
  unfold spec_levels.f
  repeat' first
      | (with_reducible exact ih0 _ _)
      | (with_reducible exact ih1 _ _)
      | (with_reducible exact ih2 _ _)
      | (with_reducible exact LeO.refl _)
      | (with_reducible exact LeO.none _)
      | (with_reducible refine LeO.ite ?_ ?_)
      | (with_reducible refine LeO.bind ?_ (fun _ => ?_))
      | exact ih0 _ _
      | exact ih1 _ _
      | exact ih2 _ _
      | exact LeO.none _
      | refine LeO.ite ?_ ?_
      | refine LeO.bind ?_ (fun _ => ?_)
set_option maxHeartbeats 8000000 in
set_option maxRecDepth 100000 in
theorem spec_levels.calls (k : Nat) (a0 : ByteArray) (r : Int) (w : World) (h : spec_levels.f k a0 = some r) :
    Calls Tryd.prog 59 #[.string a0] w fun e w' => e = .returned (.int .i64 r) ∧ Drawn0 w w' := by
  have H : (if a0.toList = ([61] : List UInt8) then (spec_levels.j0 k a0 (a0.toList == ([61] : List UInt8))) else (if a0.toList = ([60, 62] : List UInt8) then (spec_levels.j0 k a0 (a0.toList == ([60, 62] : List UInt8))) else (if a0.toList = ([60] : List UInt8) then (spec_levels.j0 k a0 (a0.toList == ([60] : List UInt8))) else (if a0.toList = ([62] : List UInt8) then (spec_levels.j0 k a0 (a0.toList == ([62] : List UInt8))) else (if a0.toList = ([60, 61] : List UInt8) then (spec_levels.j0 k a0 (a0.toList == ([60, 61] : List UInt8))) else (spec_levels.j0 k a0 (a0.toList == ([62, 61] : List UInt8)))))))) = some r := h
  clear h
  have HC2 := Aside0.mk H
  clear H
  go_enter Tryd.func59, Tryd.ntmps59
  go_upto_if 4 with (fail)
  go_cut [4] (fun v4 wc => ∃ (kq : Nat) (x4_1 : Bool), v4 = .bool x4_1 ∧ Aside0 (spec_levels.j0 kq a0 x4_1 = some r) ∧ Aside0 (kq ≤ k) ∧ Drawn0 w wc)
  case first =>
    have H := HC2.out
    clear HC2
    by_cases c3 : a0.toList = ([61] : List UInt8)
    · rw [if_pos c3] at H
      have c3b0 : (a0.toList == ([61] : List UInt8)) = true := beq_iff_eq.mpr c3
      have c3b1 : (a0.toList != ([61] : List UInt8)) = false := bne_eq_false_iff_eq.mpr c3
      clear c3
      (first | rw [c3b0] | (simp only [i64_w, i32_w]; rw [c3b0]) | skip)
      have H' := Aside0.mk H
      clear H
      go_wp2
      go_meet
      case rel => exact ⟨_, ((a0.toList == ([61] : List UInt8))), (by first | rfl | (simp; done) | (simp [*]; done)), H', ⟨by first | omega | exact Nat.le_refl _⟩, by repeat (first | exact Drawn0.refl _ | apply Drawn0.step)⟩
    · rw [if_neg c3] at H
      have c3b0 : (a0.toList == ([61] : List UInt8)) = false := beq_eq_false_iff_ne.mpr c3
      have c3b1 : (a0.toList != ([61] : List UInt8)) = true := bne_iff_ne.mpr c3
      (first | rw [c3b0] | (simp only [i64_w, i32_w]; rw [c3b0]) | skip)
      by_cases c4 : a0.toList = ([60, 62] : List UInt8)
      · rw [if_pos c4] at H
        have c4b0 : (a0.toList == ([60, 62] : List UInt8)) = true := beq_iff_eq.mpr c4
        have c4b1 : (a0.toList != ([60, 62] : List UInt8)) = false := bne_eq_false_iff_eq.mpr c4
        clear c4
        have H' := Aside0.mk H
        clear H
        go_wp2
        go_meet
        case rel => exact ⟨_, ((a0.toList == ([60, 62] : List UInt8))), (by first | rfl | (simp; done) | (simp [*]; done)), H', ⟨by first | omega | exact Nat.le_refl _⟩, by repeat (first | exact Drawn0.refl _ | apply Drawn0.step)⟩
      · rw [if_neg c4] at H
        have c4b0 : (a0.toList == ([60, 62] : List UInt8)) = false := beq_eq_false_iff_ne.mpr c4
        have c4b1 : (a0.toList != ([60, 62] : List UInt8)) = true := bne_iff_ne.mpr c4
        by_cases c5 : a0.toList = ([60] : List UInt8)
        · rw [if_pos c5] at H
          have c5b0 : (a0.toList == ([60] : List UInt8)) = true := beq_iff_eq.mpr c5
          have c5b1 : (a0.toList != ([60] : List UInt8)) = false := bne_eq_false_iff_eq.mpr c5
          clear c5
          have H' := Aside0.mk H
          clear H
          go_wp2
          go_meet
          case rel => exact ⟨_, ((a0.toList == ([60] : List UInt8))), (by first | rfl | (simp; done) | (simp [*]; done)), H', ⟨by first | omega | exact Nat.le_refl _⟩, by repeat (first | exact Drawn0.refl _ | apply Drawn0.step)⟩
        · rw [if_neg c5] at H
          have c5b0 : (a0.toList == ([60] : List UInt8)) = false := beq_eq_false_iff_ne.mpr c5
          have c5b1 : (a0.toList != ([60] : List UInt8)) = true := bne_iff_ne.mpr c5
          by_cases c6 : a0.toList = ([62] : List UInt8)
          · rw [if_pos c6] at H
            have c6b0 : (a0.toList == ([62] : List UInt8)) = true := beq_iff_eq.mpr c6
            have c6b1 : (a0.toList != ([62] : List UInt8)) = false := bne_eq_false_iff_eq.mpr c6
            clear c6
            have H' := Aside0.mk H
            clear H
            go_wp2
            go_meet
            case rel => exact ⟨_, ((a0.toList == ([62] : List UInt8))), (by first | rfl | (simp; done) | (simp [*]; done)), H', ⟨by first | omega | exact Nat.le_refl _⟩, by repeat (first | exact Drawn0.refl _ | apply Drawn0.step)⟩
          · rw [if_neg c6] at H
            have c6b0 : (a0.toList == ([62] : List UInt8)) = false := beq_eq_false_iff_ne.mpr c6
            have c6b1 : (a0.toList != ([62] : List UInt8)) = true := bne_iff_ne.mpr c6
            by_cases c7 : a0.toList = ([60, 61] : List UInt8)
            · rw [if_pos c7] at H
              have c7b0 : (a0.toList == ([60, 61] : List UInt8)) = true := beq_iff_eq.mpr c7
              have c7b1 : (a0.toList != ([60, 61] : List UInt8)) = false := bne_eq_false_iff_eq.mpr c7
              clear c7
              have H' := Aside0.mk H
              clear H
              go_wp2
              go_meet
              case rel => exact ⟨_, ((a0.toList == ([60, 61] : List UInt8))), (by first | rfl | (simp; done) | (simp [*]; done)), H', ⟨by first | omega | exact Nat.le_refl _⟩, by repeat (first | exact Drawn0.refl _ | apply Drawn0.step)⟩
            · rw [if_neg c7] at H
              have c7b0 : (a0.toList == ([60, 61] : List UInt8)) = false := beq_eq_false_iff_ne.mpr c7
              have c7b1 : (a0.toList != ([60, 61] : List UInt8)) = true := bne_iff_ne.mpr c7
              have H' := Aside0.mk H
              clear H
              go_wp2
              go_meet
              case rel => exact ⟨_, ((a0.toList == ([62, 61] : List UInt8))), (by first | rfl | (simp; done) | (simp [*]; done)), H', ⟨by first | omega | exact Nat.le_refl _⟩, by repeat (first | exact Drawn0.refl _ | apply Drawn0.step)⟩
  case rest =>
    clear HC2
    try clear p2
    try clear c3
    try clear c3b0
    try clear c3b1
    try clear c4
    try clear c4b0
    try clear c4b1
    try clear c5
    try clear c5b0
    try clear c5b1
    try clear c6
    try clear c6b0
    try clear c6b1
    try clear c7
    try clear c7b0
    try clear c7b1
    obtain ⟨kq, x4_1, rfl, HA, HJ1, ⟨mc1, rfl⟩⟩ := hcut
    cases kq with
    | zero => exact absurd HA.out (by simp [spec_levels.j0])
    | succ kj1 =>
      have H := HA.out
      clear HA
      simp only [spec_levels.j0] at H
      by_cases c8 : x4_1 = true
      · subst c8
        have H1 : (some 1) = some r := by rw [if_pos rfl] at H; exact H
        clear H
        have H := H1
        clear H1
        obtain rfl := Option.some.inj H
        go_wp2
        go_ret
        exact ⟨by first | rfl | (simp; done) | (simp [*]; done), by repeat (first | exact Drawn0.refl _ | apply Drawn0.step)⟩
      · replace c8 := Bool.eq_false_iff.mpr c8
        subst c8
        have H1 : (if a0.toList = ([38] : List UInt8) then (some 2) else (if a0.toList = ([43] : List UInt8) then (spec_levels.j1 kj1 a0 (a0.toList == ([43] : List UInt8))) else (spec_levels.j1 kj1 a0 (a0.toList == ([45] : List UInt8))))) = some r := by rw [if_neg (show ¬ (false = true) by decide)] at H; exact H
        clear H
        have H := H1
        clear H1
        by_cases c9 : a0.toList = ([38] : List UInt8)
        · rw [if_pos c9] at H
          have c9b0 : (a0.toList == ([38] : List UInt8)) = true := beq_iff_eq.mpr c9
          have c9b1 : (a0.toList != ([38] : List UInt8)) = false := bne_eq_false_iff_eq.mpr c9
          clear c9
          obtain rfl := Option.some.inj H
          go_wp2
          go_ret
          exact ⟨by first | rfl | (simp; done) | (simp [*]; done), by repeat (first | exact Drawn0.refl _ | apply Drawn0.step)⟩
        · rw [if_neg c9] at H
          have c9b0 : (a0.toList == ([38] : List UInt8)) = false := beq_eq_false_iff_ne.mpr c9
          have c9b1 : (a0.toList != ([38] : List UInt8)) = true := bne_iff_ne.mpr c9
          have HC10 := Aside0.mk H
          clear H
          go_upto_if 13 with (fail)
          go_cut [13] (fun v13 wc => ∃ (kq : Nat) (x13_9 : Bool), v13 = .bool x13_9 ∧ Aside0 (spec_levels.j1 kq a0 x13_9 = some r) ∧ Aside0 (kq ≤ kj1) ∧ Drawn0 w wc)
          case first =>
            have H := HC10.out
            clear HC10
            by_cases c11 : a0.toList = ([43] : List UInt8)
            · rw [if_pos c11] at H
              have c11b0 : (a0.toList == ([43] : List UInt8)) = true := beq_iff_eq.mpr c11
              have c11b1 : (a0.toList != ([43] : List UInt8)) = false := bne_eq_false_iff_eq.mpr c11
              clear c11
              (first | rw [c11b0] | (simp only [i64_w, i32_w]; rw [c11b0]) | skip)
              have H' := Aside0.mk H
              clear H
              go_wp2
              go_meet
              case rel => exact ⟨_, ((a0.toList == ([43] : List UInt8))), (by first | rfl | (simp; done) | (simp [*]; done)), H', ⟨by have := HJ1.out; first | omega | exact Nat.le_refl _⟩, by repeat (first | exact Drawn0.refl _ | apply Drawn0.step)⟩
            · rw [if_neg c11] at H
              have c11b0 : (a0.toList == ([43] : List UInt8)) = false := beq_eq_false_iff_ne.mpr c11
              have c11b1 : (a0.toList != ([43] : List UInt8)) = true := bne_iff_ne.mpr c11
              (first | rw [c11b0] | (simp only [i64_w, i32_w]; rw [c11b0]) | skip)
              have H' := Aside0.mk H
              clear H
              go_wp2
              go_meet
              case rel => exact ⟨_, ((a0.toList == ([45] : List UInt8))), (by first | rfl | (simp; done) | (simp [*]; done)), H', ⟨by have := HJ1.out; first | omega | exact Nat.le_refl _⟩, by repeat (first | exact Drawn0.refl _ | apply Drawn0.step)⟩
          case rest =>
            clear HC10
            try clear c1
            try clear p2
            try clear c3
            try clear c3b0
            try clear c3b1
            try clear c4
            try clear c4b0
            try clear c4b1
            try clear c5
            try clear c5b0
            try clear c5b1
            try clear c6
            try clear c6b0
            try clear c6b1
            try clear c7
            try clear c7b0
            try clear c7b1
            try clear c8
            try clear c9
            try clear c9b0
            try clear c9b1
            try clear c11
            try clear c11b0
            try clear c11b1
            try clear p2
            obtain ⟨kq, x13_9, rfl, HA, HJ9, ⟨mc9, rfl⟩⟩ := hcut
            cases kq with
            | zero => exact absurd HA.out (by simp [spec_levels.j1])
            | succ kj9 =>
              have H := HA.out
              clear HA
              simp only [spec_levels.j1] at H
              by_cases c12 : x13_9 = true
              · subst c12
                have H1 : (some 3) = some r := by rw [if_pos rfl] at H; exact H
                clear H
                have H := H1
                clear H1
                obtain rfl := Option.some.inj H
                go_wp2
                go_ret
                exact ⟨by first | rfl | (simp; done) | (simp [*]; done), by repeat (first | exact Drawn0.refl _ | apply Drawn0.step)⟩
              · replace c12 := Bool.eq_false_iff.mpr c12
                subst c12
                have H1 : (if a0.toList = ([42] : List UInt8) then (spec_levels.j2 kj9 a0 (a0.toList == ([42] : List UInt8))) else (spec_levels.j2 kj9 a0 (a0.toList == ([47] : List UInt8)))) = some r := by rw [if_neg (show ¬ (false = true) by decide)] at H; exact H
                clear H
                have H := H1
                clear H1
                have HC13 := Aside0.mk H
                clear H
                go_upto_if 16 with (fail)
                go_cut [16] (fun v16 wc => ∃ (kq : Nat) (x16_12 : Bool), v16 = .bool x16_12 ∧ Aside0 (spec_levels.j2 kq a0 x16_12 = some r) ∧ Aside0 (kq ≤ kj9) ∧ Drawn0 w wc)
                case first =>
                  have H := HC13.out
                  clear HC13
                  by_cases c14 : a0.toList = ([42] : List UInt8)
                  · rw [if_pos c14] at H
                    have c14b0 : (a0.toList == ([42] : List UInt8)) = true := beq_iff_eq.mpr c14
                    have c14b1 : (a0.toList != ([42] : List UInt8)) = false := bne_eq_false_iff_eq.mpr c14
                    clear c14
                    (first | rw [c14b0] | (simp only [i64_w, i32_w]; rw [c14b0]) | skip)
                    have H' := Aside0.mk H
                    clear H
                    go_wp2
                    go_meet
                    case rel => exact ⟨_, ((a0.toList == ([42] : List UInt8))), (by first | rfl | (simp; done) | (simp [*]; done)), H', ⟨by have := HJ1.out; have := HJ9.out; first | omega | exact Nat.le_refl _⟩, by repeat (first | exact Drawn0.refl _ | apply Drawn0.step)⟩
                  · rw [if_neg c14] at H
                    have c14b0 : (a0.toList == ([42] : List UInt8)) = false := beq_eq_false_iff_ne.mpr c14
                    have c14b1 : (a0.toList != ([42] : List UInt8)) = true := bne_iff_ne.mpr c14
                    (first | rw [c14b0] | (simp only [i64_w, i32_w]; rw [c14b0]) | skip)
                    have H' := Aside0.mk H
                    clear H
                    go_wp2
                    go_meet
                    case rel => exact ⟨_, ((a0.toList == ([47] : List UInt8))), (by first | rfl | (simp; done) | (simp [*]; done)), H', ⟨by have := HJ1.out; have := HJ9.out; first | omega | exact Nat.le_refl _⟩, by repeat (first | exact Drawn0.refl _ | apply Drawn0.step)⟩
                case rest =>
                  clear HC13
                  try clear c1
                  try clear p2
                  try clear c3
                  try clear c3b0
                  try clear c3b1
                  try clear c4
                  try clear c4b0
                  try clear c4b1
                  try clear c5
                  try clear c5b0
                  try clear c5b1
                  try clear c6
                  try clear c6b0
                  try clear c6b1
                  try clear c7
                  try clear c7b0
                  try clear c7b1
                  try clear c8
                  try clear c9
                  try clear c9b0
                  try clear c9b1
                  try clear c11
                  try clear c11b0
                  try clear c11b1
                  try clear c12
                  try clear c14
                  try clear c14b0
                  try clear c14b1
                  try clear p2
                  obtain ⟨kq, x16_12, rfl, HA, HJ12, ⟨mc12, rfl⟩⟩ := hcut
                  cases kq with
                  | zero => exact absurd HA.out (by simp [spec_levels.j2])
                  | succ kj12 =>
                    have H := HA.out
                    clear HA
                    simp only [spec_levels.j2] at H
                    by_cases c15 : x16_12 = true
                    · subst c15
                      have H1 : (some 4) = some r := by rw [if_pos rfl] at H; exact H
                      clear H
                      have H := H1
                      clear H1
                      obtain rfl := Option.some.inj H
                      go_wp2
                      go_ret
                      exact ⟨by first | rfl | (simp; done) | (simp [*]; done), by repeat (first | exact Drawn0.refl _ | apply Drawn0.step)⟩
                    · replace c15 := Bool.eq_false_iff.mpr c15
                      subst c15
                      have H1 : (if a0.toList = ([94] : List UInt8) then (some 5) else (if a0.toList = ([112, 101, 114, 99, 101, 110, 116] : List UInt8) then (some 6) else (if a0.toList = ([110, 101, 103] : List UInt8) then (some 7) else (if a0.toList = ([112, 108, 117, 115] : List UInt8) then (some 7) else (some 0))))) = some r := by rw [if_neg (show ¬ (false = true) by decide)] at H; exact H
                      clear H
                      have H := H1
                      clear H1
                      by_cases c16 : a0.toList = ([94] : List UInt8)
                      · rw [if_pos c16] at H
                        have c16b0 : (a0.toList == ([94] : List UInt8)) = true := beq_iff_eq.mpr c16
                        have c16b1 : (a0.toList != ([94] : List UInt8)) = false := bne_eq_false_iff_eq.mpr c16
                        clear c16
                        obtain rfl := Option.some.inj H
                        go_wp2
                        go_ret
                        exact ⟨by first | rfl | (simp; done) | (simp [*]; done), by repeat (first | exact Drawn0.refl _ | apply Drawn0.step)⟩
                      · rw [if_neg c16] at H
                        have c16b0 : (a0.toList == ([94] : List UInt8)) = false := beq_eq_false_iff_ne.mpr c16
                        have c16b1 : (a0.toList != ([94] : List UInt8)) = true := bne_iff_ne.mpr c16
                        by_cases c17 : a0.toList = ([112, 101, 114, 99, 101, 110, 116] : List UInt8)
                        · rw [if_pos c17] at H
                          have c17b0 : (a0.toList == ([112, 101, 114, 99, 101, 110, 116] : List UInt8)) = true := beq_iff_eq.mpr c17
                          have c17b1 : (a0.toList != ([112, 101, 114, 99, 101, 110, 116] : List UInt8)) = false := bne_eq_false_iff_eq.mpr c17
                          clear c17
                          obtain rfl := Option.some.inj H
                          go_wp2
                          go_ret
                          exact ⟨by first | rfl | (simp; done) | (simp [*]; done), by repeat (first | exact Drawn0.refl _ | apply Drawn0.step)⟩
                        · rw [if_neg c17] at H
                          have c17b0 : (a0.toList == ([112, 101, 114, 99, 101, 110, 116] : List UInt8)) = false := beq_eq_false_iff_ne.mpr c17
                          have c17b1 : (a0.toList != ([112, 101, 114, 99, 101, 110, 116] : List UInt8)) = true := bne_iff_ne.mpr c17
                          by_cases c18 : a0.toList = ([110, 101, 103] : List UInt8)
                          · rw [if_pos c18] at H
                            have c18b0 : (a0.toList == ([110, 101, 103] : List UInt8)) = true := beq_iff_eq.mpr c18
                            have c18b1 : (a0.toList != ([110, 101, 103] : List UInt8)) = false := bne_eq_false_iff_eq.mpr c18
                            clear c18
                            obtain rfl := Option.some.inj H
                            go_wp2
                            go_ret
                            exact ⟨by first | rfl | (simp; done) | (simp [*]; done), by repeat (first | exact Drawn0.refl _ | apply Drawn0.step)⟩
                          · rw [if_neg c18] at H
                            have c18b0 : (a0.toList == ([110, 101, 103] : List UInt8)) = false := beq_eq_false_iff_ne.mpr c18
                            have c18b1 : (a0.toList != ([110, 101, 103] : List UInt8)) = true := bne_iff_ne.mpr c18
                            by_cases c19 : a0.toList = ([112, 108, 117, 115] : List UInt8)
                            · rw [if_pos c19] at H
                              have c19b0 : (a0.toList == ([112, 108, 117, 115] : List UInt8)) = true := beq_iff_eq.mpr c19
                              have c19b1 : (a0.toList != ([112, 108, 117, 115] : List UInt8)) = false := bne_eq_false_iff_eq.mpr c19
                              clear c19
                              obtain rfl := Option.some.inj H
                              go_wp2
                              go_ret
                              exact ⟨by first | rfl | (simp; done) | (simp [*]; done), by repeat (first | exact Drawn0.refl _ | apply Drawn0.step)⟩
                            · rw [if_neg c19] at H
                              have c19b0 : (a0.toList == ([112, 108, 117, 115] : List UInt8)) = false := beq_eq_false_iff_ne.mpr c19
                              have c19b1 : (a0.toList != ([112, 108, 117, 115] : List UInt8)) = true := bne_iff_ne.mpr c19
                              obtain rfl := Option.some.inj H
                              go_wp2
                              go_ret
                              exact ⟨by first | rfl | (simp; done) | (simp [*]; done), by repeat (first | exact Drawn0.refl _ | apply Drawn0.step)⟩

end Go.Proofs.YtfbenlenihlpbaaDoor.POa
end

section
namespace Go.Proofs.YtfbenlenihlpbaaDoor.POa
open Go.RowKit Go.Proofs.YtfbenlenihlpbaaDoorW.PrintWords Go.Proofs.YtfbenlenihlpbaaDoorW.PrintLast Go.Proofs.YtfbenlenihlpbaaDoorW.PrintMore
attribute [local go_sem] max2_int min2_int max_two min_two max_three min_three max_four min_four   -- for this text's walks alone
set_option linter.unusedVariables false
set_option linter.unusedSimpArgs false

/-! ### spec_alpha: function 81 -/
def spec_alpha.f (a0 : Int) : Option (Bool) := if a0 ≥ 65 then (if a0 ≤ 90 then (some true) else (if a0 ≥ 97 then (some (decide (a0 ≤ 122))) else (some false))) else (if a0 ≥ 97 then (some (decide (a0 ≤ 122))) else (some false))
set_option maxHeartbeats 8000000 in
set_option maxRecDepth 100000 in
theorem spec_alpha.calls (a0 : Int) (r : Bool) (w : World) (h : spec_alpha.f a0 = some r) :
    Calls Tryd.prog 81 #[.int .u8 a0] w fun e w' => e = .returned (.bool r) ∧ Drawn0 w w' := by
  have H : (if a0 ≥ 65 then (if a0 ≤ 90 then (some true) else (if a0 ≥ 97 then (some (decide (a0 ≤ 122))) else (some false))) else (if a0 ≥ 97 then (some (decide (a0 ≤ 122))) else (some false))) = some r := h
  clear h
  by_cases c2 : a0 ≥ 65
  · rw [if_pos c2] at H
    have c2b0 : decide (65 ≤ a0) = true := decide_eq_true c2
    clear c2
    by_cases c3 : a0 ≤ 90
    · rw [if_pos c3] at H
      have c3b0 : decide (a0 ≤ 90) = true := decide_eq_true c3
      clear c3
      obtain rfl := Option.some.inj H
      go_enter Tryd.func81, Tryd.ntmps81
      go_wp2
      go_ret
      exact ⟨by first | rfl | (simp; done) | (simp [*]; done), by repeat (first | exact Drawn0.refl _ | apply Drawn0.step)⟩
    · rw [if_neg c3] at H
      have c3b0 : decide (a0 ≤ 90) = false := decide_eq_false c3
      clear c3
      by_cases c4 : a0 ≥ 97
      · rw [if_pos c4] at H
        have c4b0 : decide (97 ≤ a0) = true := decide_eq_true c4
        clear c4
        obtain rfl := Option.some.inj H
        go_enter Tryd.func81, Tryd.ntmps81
        go_wp2
        go_ret
        exact ⟨by first | rfl | (simp; done) | (simp [*]; done), by repeat (first | exact Drawn0.refl _ | apply Drawn0.step)⟩
      · rw [if_neg c4] at H
        have c4b0 : decide (97 ≤ a0) = false := decide_eq_false c4
        clear c4
        obtain rfl := Option.some.inj H
        go_enter Tryd.func81, Tryd.ntmps81
        go_wp2
        go_ret
        exact ⟨by first | rfl | (simp; done) | (simp [*]; done), by repeat (first | exact Drawn0.refl _ | apply Drawn0.step)⟩
  · rw [if_neg c2] at H
    have c2b0 : decide (65 ≤ a0) = false := decide_eq_false c2
    clear c2
    by_cases c5 : a0 ≥ 97
    · rw [if_pos c5] at H
      have c5b0 : decide (97 ≤ a0) = true := decide_eq_true c5
      clear c5
      obtain rfl := Option.some.inj H
      go_enter Tryd.func81, Tryd.ntmps81
      go_wp2
      go_ret
      exact ⟨by first | rfl | (simp; done) | (simp [*]; done), by repeat (first | exact Drawn0.refl _ | apply Drawn0.step)⟩
    · rw [if_neg c5] at H
      have c5b0 : decide (97 ≤ a0) = false := decide_eq_false c5
      clear c5
      obtain rfl := Option.some.inj H
      go_enter Tryd.func81, Tryd.ntmps81
      go_wp2
      go_ret
      exact ⟨by first | rfl | (simp; done) | (simp [*]; done), by repeat (first | exact Drawn0.refl _ | apply Drawn0.step)⟩

end Go.Proofs.YtfbenlenihlpbaaDoor.POa
end

section
namespace Go.Proofs.YtfbenlenihlpbaaDoor.POa
open Go.RowKit Go.Proofs.YtfbenlenihlpbaaDoorW.PrintWords Go.Proofs.YtfbenlenihlpbaaDoorW.PrintLast Go.Proofs.YtfbenlenihlpbaaDoorW.PrintMore
attribute [local go_sem] max2_int min2_int max_two min_two max_three min_three max_four min_four   -- for this text's walks alone
set_option linter.unusedVariables false
set_option linter.unusedSimpArgs false

/-! ### spec_numeral: function 82 -/
def spec_numeral.f (a0 : Int) : Option (Bool) := if a0 ≥ 48 then (some (decide (a0 ≤ 57))) else (some false)
set_option maxHeartbeats 8000000 in
set_option maxRecDepth 100000 in
theorem spec_numeral.calls (a0 : Int) (r : Bool) (w : World) (h : spec_numeral.f a0 = some r) :
    Calls Tryd.prog 82 #[.int .u8 a0] w fun e w' => e = .returned (.bool r) ∧ Drawn0 w w' := by
  have H : (if a0 ≥ 48 then (some (decide (a0 ≤ 57))) else (some false)) = some r := h
  clear h
  by_cases c2 : a0 ≥ 48
  · rw [if_pos c2] at H
    have c2b0 : decide (48 ≤ a0) = true := decide_eq_true c2
    clear c2
    obtain rfl := Option.some.inj H
    go_enter Tryd.func82, Tryd.ntmps82
    go_wp2
    go_ret
    exact ⟨by first | rfl | (simp; done) | (simp [*]; done), by repeat (first | exact Drawn0.refl _ | apply Drawn0.step)⟩
  · rw [if_neg c2] at H
    have c2b0 : decide (48 ≤ a0) = false := decide_eq_false c2
    clear c2
    obtain rfl := Option.some.inj H
    go_enter Tryd.func82, Tryd.ntmps82
    go_wp2
    go_ret
    exact ⟨by first | rfl | (simp; done) | (simp [*]; done), by repeat (first | exact Drawn0.refl _ | apply Drawn0.step)⟩

end Go.Proofs.YtfbenlenihlpbaaDoor.POa
end

section
namespace Go.Proofs.YtfbenlenihlpbaaDoor.POa
open Go.RowKit Go.Proofs.YtfbenlenihlpbaaDoorW.PrintWords Go.Proofs.YtfbenlenihlpbaaDoorW.PrintLast Go.Proofs.YtfbenlenihlpbaaDoorW.PrintMore
attribute [local go_sem] max2_int min2_int max_two min_two max_three min_three max_four min_four   -- for this text's walks alone
set_option linter.unusedVariables false
set_option linter.unusedSimpArgs false

/-! ### spec_GridArea: function 15 -/
def spec_GridArea.j0 : Nat → Int → Int → Int → Int → Bool → Option (Int × Int × Int × Int)
  | 0, _, _, _, _, _ => none
  | k + 1, x3, x4, x5, x6, x38 => if x38 = true then (if x6 < 60 then (some (x3, x4, x5, wrap64 (x6 + 1))) else (some (x3, wrap64 (x4 - 1), x5, x6))) else (some (x3, x4, x5, x6))
def spec_GridArea.f (k : Nat) (a0_0 : Int) (a0_1 : Int) (a0_2 : Int) (a0_3 : Int) : Option (Int × Int × Int × Int) := (Go.Proofs.YtfbenlenihlpbaaDoor.PgridIn.spec_gridIn.f a0_0 30).bind fun t132 => ((Go.Proofs.YtfbenlenihlpbaaDoor.PgridIn.spec_gridIn.f a0_1 60).bind fun t133 => ((Go.Proofs.YtfbenlenihlpbaaDoor.PgridIn.spec_gridIn.f a0_2 30).bind fun t134 => ((Go.Proofs.YtfbenlenihlpbaaDoor.PgridIn.spec_gridIn.f a0_3 60).bind fun t135 => (if (mn t132 t134) = (mx t132 t134) then (spec_GridArea.j0 k (mn t132 t134) (mn t133 t135) (mx t132 t134) (mx t133 t135) ((mn t133 t135) == (mx t133 t135))) else (spec_GridArea.j0 k (mn t132 t134) (mn t133 t135) (mx t132 t134) (mx t133 t135) false)))))
theorem spec_GridArea.mono_l : ∀ k, (∀ y0 y1 y2 y3 y4, LeO (spec_GridArea.j0 k y0 y1 y2 y3 y4) (spec_GridArea.j0 (k + 1) y0 y1 y2 y3 y4))
  | 0 => fun _ _ _ _ _ r h => by simp [spec_GridArea.j0] at h
  | k + 1 => by
    have ih0 := spec_GridArea.mono_l k
    · intro y0 y1 y2 y3 y4
      unfold spec_GridArea.j0
      repeat' first
      | (with_reducible exact ih0 _ _ _ _ _)
      | (with_reducible exact LeO.refl _)
      | (with_reducible exact LeO.none _)
      | (with_reducible refine LeO.ite ?_ ?_)
      | (with_reducible refine LeO.bind ?_ (fun _ => ?_))
      | exact ih0 _ _ _ _ _
      | exact LeO.none _
      | refine LeO.ite ?_ ?_
      | refine LeO.bind ?_ (fun _ => ?_)
theorem spec_GridArea.mono : ∀ a0 a1 a2 a3 k, LeO (spec_GridArea.f k a0 a1 a2 a3) (spec_GridArea.f (k + 1) a0 a1 a2 a3) := by
  intro a0 a1 a2 a3 k
  have ih0 := spec_GridArea.mono_l k
  unfold spec_GridArea.f
  repeat' first
      | (with_reducible exact ih0 _ _ _ _ _)
      | (with_reducible exact LeO.refl _)
      | (with_reducible exact LeO.none _)
      | (with_reducible refine LeO.ite ?_ ?_)
      | (with_reducible refine LeO.bind ?_ (fun _ => ?_))
      | exact ih0 _ _ _ _ _
      | exact LeO.none _
      | refine LeO.ite ?_ ?_
      | refine LeO.bind ?_ (fun _ => ?_)
set_option maxHeartbeats 8000000 in
set_option maxRecDepth 100000 in
theorem spec_GridArea.calls (k : Nat) (a0_0 : Int) (a0_1 : Int) (a0_2 : Int) (a0_3 : Int) (r1 : Int) (r2 : Int) (r3 : Int) (r4 : Int) (w : World) (h : spec_GridArea.f k a0_0 a0_1 a0_2 a0_3 = some (r1, r2, r3, r4)) :
    Calls Tryd.prog 15 #[.agg #[.int .i64 a0_0, .int .i64 a0_1, .int .i64 a0_2, .int .i64 a0_3]] w fun e w' => e = .returned (.agg #[.int .i64 r1, .int .i64 r2, .int .i64 r3, .int .i64 r4]) ∧ Below w.heap.size w w' := by
  have hu22 := Tryd.underlying22
  have HB := Aside0.mk (Below.refl w.heap.size w)
  have H : ((Go.Proofs.YtfbenlenihlpbaaDoor.PgridIn.spec_gridIn.f a0_0 30).bind fun t132 => ((Go.Proofs.YtfbenlenihlpbaaDoor.PgridIn.spec_gridIn.f a0_1 60).bind fun t133 => ((Go.Proofs.YtfbenlenihlpbaaDoor.PgridIn.spec_gridIn.f a0_2 30).bind fun t134 => ((Go.Proofs.YtfbenlenihlpbaaDoor.PgridIn.spec_gridIn.f a0_3 60).bind fun t135 => (if (mn t132 t134) = (mx t132 t134) then (spec_GridArea.j0 k (mn t132 t134) (mn t133 t135) (mx t132 t134) (mx t133 t135) ((mn t133 t135) == (mx t133 t135))) else (spec_GridArea.j0 k (mn t132 t134) (mn t133 t135) (mx t132 t134) (mx t133 t135) false)))))) = some (r1, r2, r3, r4) := h
  clear h
  replace H := Option.bind_eq_some_iff.mp H
  obtain ⟨t132, A20, H⟩ := H
  replace H : ((Go.Proofs.YtfbenlenihlpbaaDoor.PgridIn.spec_gridIn.f a0_1 60).bind fun t133 => ((Go.Proofs.YtfbenlenihlpbaaDoor.PgridIn.spec_gridIn.f a0_2 30).bind fun t134 => ((Go.Proofs.YtfbenlenihlpbaaDoor.PgridIn.spec_gridIn.f a0_3 60).bind fun t135 => (if (mn t132 t134) = (mx t132 t134) then (spec_GridArea.j0 k (mn t132 t134) (mn t133 t135) (mx t132 t134) (mx t133 t135) ((mn t133 t135) == (mx t133 t135))) else (spec_GridArea.j0 k (mn t132 t134) (mn t133 t135) (mx t132 t134) (mx t133 t135) false))))) = some (r1, r2, r3, r4) := H
  have A2 := Aside0.mk A20
  clear A20
  replace H := Option.bind_eq_some_iff.mp H
  obtain ⟨t133, A30, H⟩ := H
  replace H : ((Go.Proofs.YtfbenlenihlpbaaDoor.PgridIn.spec_gridIn.f a0_2 30).bind fun t134 => ((Go.Proofs.YtfbenlenihlpbaaDoor.PgridIn.spec_gridIn.f a0_3 60).bind fun t135 => (if (mn t132 t134) = (mx t132 t134) then (spec_GridArea.j0 k (mn t132 t134) (mn t133 t135) (mx t132 t134) (mx t133 t135) ((mn t133 t135) == (mx t133 t135))) else (spec_GridArea.j0 k (mn t132 t134) (mn t133 t135) (mx t132 t134) (mx t133 t135) false)))) = some (r1, r2, r3, r4) := H
  have A3 := Aside0.mk A30
  clear A30
  replace H := Option.bind_eq_some_iff.mp H
  obtain ⟨t134, A40, H⟩ := H
  replace H : ((Go.Proofs.YtfbenlenihlpbaaDoor.PgridIn.spec_gridIn.f a0_3 60).bind fun t135 => (if (mn t132 t134) = (mx t132 t134) then (spec_GridArea.j0 k (mn t132 t134) (mn t133 t135) (mx t132 t134) (mx t133 t135) ((mn t133 t135) == (mx t133 t135))) else (spec_GridArea.j0 k (mn t132 t134) (mn t133 t135) (mx t132 t134) (mx t133 t135) false))) = some (r1, r2, r3, r4) := H
  have A4 := Aside0.mk A40
  clear A40
  replace H := Option.bind_eq_some_iff.mp H
  obtain ⟨t135, A50, H⟩ := H
  replace H : (if (mn t132 t134) = (mx t132 t134) then (spec_GridArea.j0 k (mn t132 t134) (mn t133 t135) (mx t132 t134) (mx t133 t135) ((mn t133 t135) == (mx t133 t135))) else (spec_GridArea.j0 k (mn t132 t134) (mn t133 t135) (mx t132 t134) (mx t133 t135) false)) = some (r1, r2, r3, r4) := H
  have A5 := Aside0.mk A50
  clear A50
  obtain ⟨ji6, hji6⟩ : ∃ j_ : Int, (mn t132 t134) = j_ := ⟨_, rfl⟩
  replace H : (if (ji6) = (mx t132 t134) then (spec_GridArea.j0 k ji6 (mn t133 t135) (mx t132 t134) (mx t133 t135) ((mn t133 t135) == (mx t133 t135))) else (spec_GridArea.j0 k ji6 (mn t133 t135) (mx t132 t134) (mx t133 t135) false)) = some (r1, r2, r3, r4) := by first | (rw [hji6] at H; exact H) | (simp only [hji6] at H ⊢; exact H)
  (try rw [hji6] at A2)
  (try rw [hji6] at A3)
  (try rw [hji6] at A4)
  (try rw [hji6] at A5)
  have hji6_ : (if t134 < t132 then t134 else t132) = ji6 := hji6
  obtain ⟨ji7, hji7⟩ : ∃ j_ : Int, (mx t132 t134) = j_ := ⟨_, rfl⟩
  replace H : (if (ji6) = (ji7) then (spec_GridArea.j0 k ji6 (mn t133 t135) ji7 (mx t133 t135) ((mn t133 t135) == (mx t133 t135))) else (spec_GridArea.j0 k ji6 (mn t133 t135) ji7 (mx t133 t135) false)) = some (r1, r2, r3, r4) := by first | (rw [hji7] at H; exact H) | (simp only [hji7] at H ⊢; exact H)
  (try rw [hji7] at A2)
  (try rw [hji7] at A3)
  (try rw [hji7] at A4)
  (try rw [hji7] at A5)
  have hji7_ : (if t132 < t134 then t134 else t132) = ji7 := hji7
  obtain ⟨ji8, hji8⟩ : ∃ j_ : Int, (mn t133 t135) = j_ := ⟨_, rfl⟩
  replace H : (if (ji6) = (ji7) then (spec_GridArea.j0 k ji6 ji8 ji7 (mx t133 t135) ((ji8) == (mx t133 t135))) else (spec_GridArea.j0 k ji6 ji8 ji7 (mx t133 t135) false)) = some (r1, r2, r3, r4) := by first | (rw [hji8] at H; exact H) | (simp only [hji8] at H ⊢; exact H)
  (try rw [hji8] at A2)
  (try rw [hji8] at A3)
  (try rw [hji8] at A4)
  (try rw [hji8] at A5)
  have hji8_ : (if t135 < t133 then t135 else t133) = ji8 := hji8
  obtain ⟨ji9, hji9⟩ : ∃ j_ : Int, (mx t133 t135) = j_ := ⟨_, rfl⟩
  replace H : (if (ji6) = (ji7) then (spec_GridArea.j0 k ji6 ji8 ji7 ji9 ((ji8) == (ji9))) else (spec_GridArea.j0 k ji6 ji8 ji7 ji9 false)) = some (r1, r2, r3, r4) := by first | (rw [hji9] at H; exact H) | (simp only [hji9] at H ⊢; exact H)
  (try rw [hji9] at A2)
  (try rw [hji9] at A3)
  (try rw [hji9] at A4)
  (try rw [hji9] at A5)
  have hji9_ : (if t133 < t135 then t135 else t133) = ji9 := hji9
  have HC10 := Aside0.mk H
  clear H
  go_enter Tryd.func15, Tryd.ntmps15
  go_upto_region 4 with (first | ((with_reducible refine gate_dst (N := 1) rfl ?_); refine box_event ?hg (N := 1) ?hd (cs := #[.int .i64 a0_0, .int .i64 a0_1, .int .i64 a0_2, .int .i64 a0_3]) (t := 22) ?hr ?_; (case hd => rfl); (case hg => rfl); (case hr => first | (go_simp; done) | (go_simp; rfl)); intro gb130 hg w11 hbox hb; have n0_ := Aside0.mk (below_step (by repeat (first | (with_reducible first | exact HB.out | apply below_alloc | apply pw_below_drewN | apply below_drew1) | exact HB.out)) hb); have n1_ := Aside0.mk (hbox); have n2_ := Aside0.mk ((by rw [hg]; exact (below_size (by repeat (first | (with_reducible first | exact HB.out | apply below_alloc | apply pw_below_drewN | apply below_drew1) | exact HB.out))) : w.heap.size ≤ gb130)); have n3_ := Aside0.mk ((by rw [hg]; exact (below_size (by repeat (first | (with_reducible first | exact HB.out | apply below_alloc | apply pw_below_drewN | apply below_drew1) | exact HB.out))) : w.heap.size ≤ gb130)); clear HB; have HB := n0_; have BK130 := n1_; have GW130 := n2_; have GE130 := n3_; clear n0_ n1_ n2_ n3_; clear hb hbox hg) | ((with_reducible refine gate_dst (N := 2) rfl ?_); refine box_event ?hg (N := 2) ?hd (cs := #[.int .i64 0, .int .i64 0, .int .i64 0, .int .i64 0]) (t := 22) ?hr ?_; (case hd => rfl); (case hg => rfl); (case hr => first | (go_simp; done) | (go_simp; rfl)); intro gb131 hg w12 hbox hb; have n0_ := Aside0.mk (blk_below (g := gb130) (o := .cells #[.int .i64 a0_0, .int .i64 a0_1, .int .i64 a0_2, .int .i64 a0_3] 22 (0, 0)) (by (with_reducible repeat (first | refine blk_drewN ?_ _ | refine blk_drew ?_ | refine blk_alloc ?_ _)); exact BK130.out) hb); have n1_ := Aside0.mk (below_step (by repeat (first | (with_reducible first | exact HB.out | apply below_alloc | apply pw_below_drewN | apply below_drew1 | refine below_set ?_ GE130.out) | exact HB.out)) hb); have n2_ := Aside0.mk (hbox); have n3_ := Aside0.mk ((by rw [hg]; exact (below_size (by repeat (first | (with_reducible first | exact HB.out | apply below_alloc | apply pw_below_drewN | apply below_drew1 | refine below_set ?_ GE130.out) | exact HB.out))) : w.heap.size ≤ gb131)); have n4_ := Aside0.mk ((by rw [hg]; exact (below_size (by repeat (first | (with_reducible first | exact HB.out | apply below_alloc | apply pw_below_drewN | apply below_drew1 | refine below_set ?_ GE130.out) | exact HB.out))) : w.heap.size ≤ gb131)); have n5_ := Aside0.mk ((by rw [hg]; exact Nat.ne_of_lt (blk_lt (g := gb130) (o := .cells #[.int .i64 a0_0, .int .i64 a0_1, .int .i64 a0_2, .int .i64 a0_3] 22 (0, 0)) (by (with_reducible repeat (first | refine blk_drewN ?_ _ | refine blk_drew ?_ | refine blk_alloc ?_ _)); exact BK130.out)) : gb130 ≠ gb131)); have n6_ := Aside0.mk ((by rw [hg]; exact Nat.ne_of_gt (blk_lt (g := gb130) (o := .cells #[.int .i64 a0_0, .int .i64 a0_1, .int .i64 a0_2, .int .i64 a0_3] 22 (0, 0)) (by (with_reducible repeat (first | refine blk_drewN ?_ _ | refine blk_drew ?_ | refine blk_alloc ?_ _)); exact BK130.out)) : gb131 ≠ gb130)); clear BK130; clear HB; have BK130 := n0_; have HB := n1_; have BK131 := n2_; have GW131 := n3_; have GE131 := n4_; have NB130_131 := n5_; have NB131_130 := n6_; clear n0_ n1_ n2_ n3_ n4_ n5_ n6_; clear hb hbox hg; have hnb13 := NB130_131.out; have hnc13 := NB131_130.out; have hcz14_0 : w12.cell? ⟨gb130, 0, none⟩ = some (.int .i64 a0_0) := (blk_cell BK130.out 0).trans rfl; have hcz14_1 : w12.cell? ⟨gb130, 1, none⟩ = some (.int .i64 a0_1) := (blk_cell BK130.out 1).trans rfl; have hcz14_2 : w12.cell? ⟨gb130, 2, none⟩ = some (.int .i64 a0_2) := (blk_cell BK130.out 2).trans rfl; have hcz14_3 : w12.cell? ⟨gb130, 3, none⟩ = some (.int .i64 a0_3) := (blk_cell BK130.out 3).trans rfl; have hfz14_0 := blk_frozen BK130.out 0; have hfz14_1 := blk_frozen BK130.out 1; have hfz14_2 := blk_frozen BK130.out 2; have hfz14_3 := blk_frozen BK130.out 3) | (go_at_call 38; (with_reducible refine (Go.Proofs.YtfbenlenihlpbaaDoor.PgridIn.spec_gridIn.calls a0_0 30 t132 _ A2.out).mono ?_); rintro e w' ⟨rfl, ⟨nd, rfl⟩⟩; (try first | exact ⟨rfl, _, World.drewN_drewN _ _ _⟩ | exact ⟨rfl, _, Eq.trans (World.drewN_drewN _ _ _) (congrArg (World.drewN _) (Nat.add_assoc _ _ _))⟩)) | (go_at_call 38; (with_reducible refine (Go.Proofs.YtfbenlenihlpbaaDoor.PgridIn.spec_gridIn.calls a0_1 60 t133 _ A3.out).mono ?_); rintro e w' ⟨rfl, ⟨nd, rfl⟩⟩; (try first | exact ⟨rfl, _, World.drewN_drewN _ _ _⟩ | exact ⟨rfl, _, Eq.trans (World.drewN_drewN _ _ _) (congrArg (World.drewN _) (Nat.add_assoc _ _ _))⟩)) | (go_at_call 38; (with_reducible refine (Go.Proofs.YtfbenlenihlpbaaDoor.PgridIn.spec_gridIn.calls a0_2 30 t134 _ A4.out).mono ?_); rintro e w' ⟨rfl, ⟨nd, rfl⟩⟩; (try first | exact ⟨rfl, _, World.drewN_drewN _ _ _⟩ | exact ⟨rfl, _, Eq.trans (World.drewN_drewN _ _ _) (congrArg (World.drewN _) (Nat.add_assoc _ _ _))⟩)) | (go_at_call 38; (with_reducible refine (Go.Proofs.YtfbenlenihlpbaaDoor.PgridIn.spec_gridIn.calls a0_3 60 t135 _ A5.out).mono ?_); rintro e w' ⟨rfl, ⟨nd, rfl⟩⟩; (try first | exact ⟨rfl, _, World.drewN_drewN _ _ _⟩ | exact ⟨rfl, _, Eq.trans (World.drewN_drewN _ _ _) (congrArg (World.drewN _) (Nat.add_assoc _ _ _))⟩)))
  repeat (go_quiet (first | ((with_reducible refine gate_dst (N := 1) rfl ?_); refine box_event ?hg (N := 1) ?hd (cs := #[.int .i64 a0_0, .int .i64 a0_1, .int .i64 a0_2, .int .i64 a0_3]) (t := 22) ?hr ?_; (case hd => rfl); (case hg => rfl); (case hr => first | (go_simp; done) | (go_simp; rfl)); intro gb130 hg w11 hbox hb; have n0_ := Aside0.mk (below_step (by repeat (first | (with_reducible first | exact HB.out | apply below_alloc | apply pw_below_drewN | apply below_drew1) | exact HB.out)) hb); have n1_ := Aside0.mk (hbox); have n2_ := Aside0.mk ((by rw [hg]; exact (below_size (by repeat (first | (with_reducible first | exact HB.out | apply below_alloc | apply pw_below_drewN | apply below_drew1) | exact HB.out))) : w.heap.size ≤ gb130)); have n3_ := Aside0.mk ((by rw [hg]; exact (below_size (by repeat (first | (with_reducible first | exact HB.out | apply below_alloc | apply pw_below_drewN | apply below_drew1) | exact HB.out))) : w.heap.size ≤ gb130)); clear HB; have HB := n0_; have BK130 := n1_; have GW130 := n2_; have GE130 := n3_; clear n0_ n1_ n2_ n3_; clear hb hbox hg) | ((with_reducible refine gate_dst (N := 2) rfl ?_); refine box_event ?hg (N := 2) ?hd (cs := #[.int .i64 0, .int .i64 0, .int .i64 0, .int .i64 0]) (t := 22) ?hr ?_; (case hd => rfl); (case hg => rfl); (case hr => first | (go_simp; done) | (go_simp; rfl)); intro gb131 hg w12 hbox hb; have n0_ := Aside0.mk (blk_below (g := gb130) (o := .cells #[.int .i64 a0_0, .int .i64 a0_1, .int .i64 a0_2, .int .i64 a0_3] 22 (0, 0)) (by (with_reducible repeat (first | refine blk_drewN ?_ _ | refine blk_drew ?_ | refine blk_alloc ?_ _)); exact BK130.out) hb); have n1_ := Aside0.mk (below_step (by repeat (first | (with_reducible first | exact HB.out | apply below_alloc | apply pw_below_drewN | apply below_drew1 | refine below_set ?_ GE130.out) | exact HB.out)) hb); have n2_ := Aside0.mk (hbox); have n3_ := Aside0.mk ((by rw [hg]; exact (below_size (by repeat (first | (with_reducible first | exact HB.out | apply below_alloc | apply pw_below_drewN | apply below_drew1 | refine below_set ?_ GE130.out) | exact HB.out))) : w.heap.size ≤ gb131)); have n4_ := Aside0.mk ((by rw [hg]; exact (below_size (by repeat (first | (with_reducible first | exact HB.out | apply below_alloc | apply pw_below_drewN | apply below_drew1 | refine below_set ?_ GE130.out) | exact HB.out))) : w.heap.size ≤ gb131)); have n5_ := Aside0.mk ((by rw [hg]; exact Nat.ne_of_lt (blk_lt (g := gb130) (o := .cells #[.int .i64 a0_0, .int .i64 a0_1, .int .i64 a0_2, .int .i64 a0_3] 22 (0, 0)) (by (with_reducible repeat (first | refine blk_drewN ?_ _ | refine blk_drew ?_ | refine blk_alloc ?_ _)); exact BK130.out)) : gb130 ≠ gb131)); have n6_ := Aside0.mk ((by rw [hg]; exact Nat.ne_of_gt (blk_lt (g := gb130) (o := .cells #[.int .i64 a0_0, .int .i64 a0_1, .int .i64 a0_2, .int .i64 a0_3] 22 (0, 0)) (by (with_reducible repeat (first | refine blk_drewN ?_ _ | refine blk_drew ?_ | refine blk_alloc ?_ _)); exact BK130.out)) : gb131 ≠ gb130)); clear BK130; clear HB; have BK130 := n0_; have HB := n1_; have BK131 := n2_; have GW131 := n3_; have GE131 := n4_; have NB130_131 := n5_; have NB131_130 := n6_; clear n0_ n1_ n2_ n3_ n4_ n5_ n6_; clear hb hbox hg; have hnb13 := NB130_131.out; have hnc13 := NB131_130.out; have hcz14_0 : w12.cell? ⟨gb130, 0, none⟩ = some (.int .i64 a0_0) := (blk_cell BK130.out 0).trans rfl; have hcz14_1 : w12.cell? ⟨gb130, 1, none⟩ = some (.int .i64 a0_1) := (blk_cell BK130.out 1).trans rfl; have hcz14_2 : w12.cell? ⟨gb130, 2, none⟩ = some (.int .i64 a0_2) := (blk_cell BK130.out 2).trans rfl; have hcz14_3 : w12.cell? ⟨gb130, 3, none⟩ = some (.int .i64 a0_3) := (blk_cell BK130.out 3).trans rfl; have hfz14_0 := blk_frozen BK130.out 0; have hfz14_1 := blk_frozen BK130.out 1; have hfz14_2 := blk_frozen BK130.out 2; have hfz14_3 := blk_frozen BK130.out 3) | (go_at_call 38; (with_reducible refine (Go.Proofs.YtfbenlenihlpbaaDoor.PgridIn.spec_gridIn.calls a0_0 30 t132 _ A2.out).mono ?_); rintro e w' ⟨rfl, ⟨nd, rfl⟩⟩; (try first | exact ⟨rfl, _, World.drewN_drewN _ _ _⟩ | exact ⟨rfl, _, Eq.trans (World.drewN_drewN _ _ _) (congrArg (World.drewN _) (Nat.add_assoc _ _ _))⟩)) | (go_at_call 38; (with_reducible refine (Go.Proofs.YtfbenlenihlpbaaDoor.PgridIn.spec_gridIn.calls a0_1 60 t133 _ A3.out).mono ?_); rintro e w' ⟨rfl, ⟨nd, rfl⟩⟩; (try first | exact ⟨rfl, _, World.drewN_drewN _ _ _⟩ | exact ⟨rfl, _, Eq.trans (World.drewN_drewN _ _ _) (congrArg (World.drewN _) (Nat.add_assoc _ _ _))⟩)) | (go_at_call 38; (with_reducible refine (Go.Proofs.YtfbenlenihlpbaaDoor.PgridIn.spec_gridIn.calls a0_2 30 t134 _ A4.out).mono ?_); rintro e w' ⟨rfl, ⟨nd, rfl⟩⟩; (try first | exact ⟨rfl, _, World.drewN_drewN _ _ _⟩ | exact ⟨rfl, _, Eq.trans (World.drewN_drewN _ _ _) (congrArg (World.drewN _) (Nat.add_assoc _ _ _))⟩)) | (go_at_call 38; (with_reducible refine (Go.Proofs.YtfbenlenihlpbaaDoor.PgridIn.spec_gridIn.calls a0_3 60 t135 _ A5.out).mono ?_); rintro e w' ⟨rfl, ⟨nd, rfl⟩⟩; (try first | exact ⟨rfl, _, World.drewN_drewN _ _ _⟩ | exact ⟨rfl, _, Eq.trans (World.drewN_drewN _ _ _) (congrArg (World.drewN _) (Nat.add_assoc _ _ _))⟩))); go_upto_region 4 with (first | ((with_reducible refine gate_dst (N := 1) rfl ?_); refine box_event ?hg (N := 1) ?hd (cs := #[.int .i64 a0_0, .int .i64 a0_1, .int .i64 a0_2, .int .i64 a0_3]) (t := 22) ?hr ?_; (case hd => rfl); (case hg => rfl); (case hr => first | (go_simp; done) | (go_simp; rfl)); intro gb130 hg w11 hbox hb; have n0_ := Aside0.mk (below_step (by repeat (first | (with_reducible first | exact HB.out | apply below_alloc | apply pw_below_drewN | apply below_drew1) | exact HB.out)) hb); have n1_ := Aside0.mk (hbox); have n2_ := Aside0.mk ((by rw [hg]; exact (below_size (by repeat (first | (with_reducible first | exact HB.out | apply below_alloc | apply pw_below_drewN | apply below_drew1) | exact HB.out))) : w.heap.size ≤ gb130)); have n3_ := Aside0.mk ((by rw [hg]; exact (below_size (by repeat (first | (with_reducible first | exact HB.out | apply below_alloc | apply pw_below_drewN | apply below_drew1) | exact HB.out))) : w.heap.size ≤ gb130)); clear HB; have HB := n0_; have BK130 := n1_; have GW130 := n2_; have GE130 := n3_; clear n0_ n1_ n2_ n3_; clear hb hbox hg) | ((with_reducible refine gate_dst (N := 2) rfl ?_); refine box_event ?hg (N := 2) ?hd (cs := #[.int .i64 0, .int .i64 0, .int .i64 0, .int .i64 0]) (t := 22) ?hr ?_; (case hd => rfl); (case hg => rfl); (case hr => first | (go_simp; done) | (go_simp; rfl)); intro gb131 hg w12 hbox hb; have n0_ := Aside0.mk (blk_below (g := gb130) (o := .cells #[.int .i64 a0_0, .int .i64 a0_1, .int .i64 a0_2, .int .i64 a0_3] 22 (0, 0)) (by (with_reducible repeat (first | refine blk_drewN ?_ _ | refine blk_drew ?_ | refine blk_alloc ?_ _)); exact BK130.out) hb); have n1_ := Aside0.mk (below_step (by repeat (first | (with_reducible first | exact HB.out | apply below_alloc | apply pw_below_drewN | apply below_drew1 | refine below_set ?_ GE130.out) | exact HB.out)) hb); have n2_ := Aside0.mk (hbox); have n3_ := Aside0.mk ((by rw [hg]; exact (below_size (by repeat (first | (with_reducible first | exact HB.out | apply below_alloc | apply pw_below_drewN | apply below_drew1 | refine below_set ?_ GE130.out) | exact HB.out))) : w.heap.size ≤ gb131)); have n4_ := Aside0.mk ((by rw [hg]; exact (below_size (by repeat (first | (with_reducible first | exact HB.out | apply below_alloc | apply pw_below_drewN | apply below_drew1 | refine below_set ?_ GE130.out) | exact HB.out))) : w.heap.size ≤ gb131)); have n5_ := Aside0.mk ((by rw [hg]; exact Nat.ne_of_lt (blk_lt (g := gb130) (o := .cells #[.int .i64 a0_0, .int .i64 a0_1, .int .i64 a0_2, .int .i64 a0_3] 22 (0, 0)) (by (with_reducible repeat (first | refine blk_drewN ?_ _ | refine blk_drew ?_ | refine blk_alloc ?_ _)); exact BK130.out)) : gb130 ≠ gb131)); have n6_ := Aside0.mk ((by rw [hg]; exact Nat.ne_of_gt (blk_lt (g := gb130) (o := .cells #[.int .i64 a0_0, .int .i64 a0_1, .int .i64 a0_2, .int .i64 a0_3] 22 (0, 0)) (by (with_reducible repeat (first | refine blk_drewN ?_ _ | refine blk_drew ?_ | refine blk_alloc ?_ _)); exact BK130.out)) : gb131 ≠ gb130)); clear BK130; clear HB; have BK130 := n0_; have HB := n1_; have BK131 := n2_; have GW131 := n3_; have GE131 := n4_; have NB130_131 := n5_; have NB131_130 := n6_; clear n0_ n1_ n2_ n3_ n4_ n5_ n6_; clear hb hbox hg; have hnb13 := NB130_131.out; have hnc13 := NB131_130.out; have hcz14_0 : w12.cell? ⟨gb130, 0, none⟩ = some (.int .i64 a0_0) := (blk_cell BK130.out 0).trans rfl; have hcz14_1 : w12.cell? ⟨gb130, 1, none⟩ = some (.int .i64 a0_1) := (blk_cell BK130.out 1).trans rfl; have hcz14_2 : w12.cell? ⟨gb130, 2, none⟩ = some (.int .i64 a0_2) := (blk_cell BK130.out 2).trans rfl; have hcz14_3 : w12.cell? ⟨gb130, 3, none⟩ = some (.int .i64 a0_3) := (blk_cell BK130.out 3).trans rfl; have hfz14_0 := blk_frozen BK130.out 0; have hfz14_1 := blk_frozen BK130.out 1; have hfz14_2 := blk_frozen BK130.out 2; have hfz14_3 := blk_frozen BK130.out 3) | (go_at_call 38; (with_reducible refine (Go.Proofs.YtfbenlenihlpbaaDoor.PgridIn.spec_gridIn.calls a0_0 30 t132 _ A2.out).mono ?_); rintro e w' ⟨rfl, ⟨nd, rfl⟩⟩; (try first | exact ⟨rfl, _, World.drewN_drewN _ _ _⟩ | exact ⟨rfl, _, Eq.trans (World.drewN_drewN _ _ _) (congrArg (World.drewN _) (Nat.add_assoc _ _ _))⟩)) | (go_at_call 38; (with_reducible refine (Go.Proofs.YtfbenlenihlpbaaDoor.PgridIn.spec_gridIn.calls a0_1 60 t133 _ A3.out).mono ?_); rintro e w' ⟨rfl, ⟨nd, rfl⟩⟩; (try first | exact ⟨rfl, _, World.drewN_drewN _ _ _⟩ | exact ⟨rfl, _, Eq.trans (World.drewN_drewN _ _ _) (congrArg (World.drewN _) (Nat.add_assoc _ _ _))⟩)) | (go_at_call 38; (with_reducible refine (Go.Proofs.YtfbenlenihlpbaaDoor.PgridIn.spec_gridIn.calls a0_2 30 t134 _ A4.out).mono ?_); rintro e w' ⟨rfl, ⟨nd, rfl⟩⟩; (try first | exact ⟨rfl, _, World.drewN_drewN _ _ _⟩ | exact ⟨rfl, _, Eq.trans (World.drewN_drewN _ _ _) (congrArg (World.drewN _) (Nat.add_assoc _ _ _))⟩)) | (go_at_call 38; (with_reducible refine (Go.Proofs.YtfbenlenihlpbaaDoor.PgridIn.spec_gridIn.calls a0_3 60 t135 _ A5.out).mono ?_); rintro e w' ⟨rfl, ⟨nd, rfl⟩⟩; (try first | exact ⟨rfl, _, World.drewN_drewN _ _ _⟩ | exact ⟨rfl, _, Eq.trans (World.drewN_drewN _ _ _) (congrArg (World.drewN _) (Nat.add_assoc _ _ _))⟩))))
  (try simp only [Act.put, List.setIfInBounds_toArray, List.set_cons_zero, List.set_cons_succ])
  go_cut [38] (fun v38 wc => ∃ (kq : Nat) (x38_9 : Bool), v38 = .bool x38_9 ∧ Aside0 (spec_GridArea.j0 kq ji6 ji8 ji7 ji9 x38_9 = some (r1, r2, r3, r4)) ∧ Aside0 (kq ≤ k) ∧ Aside0 (wc.heap[gb130]? = some (.cells #[.int .i64 a0_0, .int .i64 a0_1, .int .i64 a0_2, .int .i64 a0_3] 22 (0, 0))) ∧ Aside0 (wc.heap[gb131]? = some (.cells #[.int .i64 0, .int .i64 0, .int .i64 0, .int .i64 0] 22 (0, 0))) ∧ Aside0 (Below w.heap.size w wc))
  case first =>
    have H := HC10.out
    clear HC10
    by_cases c15 : (ji6) = (ji7)
    · rw [if_pos c15] at H
      have c15b0 : ((ji6) == (ji7)) = true := beq_iff_eq.mpr c15
      have c15b1 : ((ji6) != (ji7)) = false := bne_eq_false_iff_eq.mpr c15
      clear c15
      (first | rw [c15b0] | (simp only [i64_w, i32_w]; rw [c15b0]) | skip)
      have H' := Aside0.mk H
      clear H
      go_wp2
      repeat (go_quiet (fail); try go_wp2)
      go_meet
      case rel => exact ⟨_, (((ji8) == (ji9))), (by first | rfl | (simp; done) | (simp only [← hji8, ← hji9] <;> (first | rfl | simp)) | (simp [*]; done)), H', ⟨by first | omega | exact Nat.le_refl _⟩, ⟨by (with_reducible repeat (first | refine blk_drewN ?_ _ | refine blk_drew ?_ | refine blk_alloc ?_ _)); exact BK130.out⟩, ⟨by (with_reducible repeat (first | refine blk_drewN ?_ _ | refine blk_drew ?_ | refine blk_alloc ?_ _)); exact BK131.out⟩, ⟨by repeat (first | (with_reducible first | exact HB.out | apply below_alloc | apply pw_below_drewN | apply below_drew1 | refine below_set ?_ GE130.out | refine below_set ?_ GE131.out) | exact HB.out)⟩⟩
    · rw [if_neg c15] at H
      have c15b0 : ((ji6) == (ji7)) = false := beq_eq_false_iff_ne.mpr c15
      have c15b1 : ((ji6) != (ji7)) = true := bne_iff_ne.mpr c15
      (first | rw [c15b0] | (simp only [i64_w, i32_w]; rw [c15b0]) | skip)
      have H' := Aside0.mk H
      clear H
      go_wp2
      repeat (go_quiet (fail); try go_wp2)
      go_meet
      case rel => exact ⟨_, (false), (by first | rfl | (simp; done) | (simp [*]; done)), H', ⟨by first | omega | exact Nat.le_refl _⟩, ⟨by (with_reducible repeat (first | refine blk_drewN ?_ _ | refine blk_drew ?_ | refine blk_alloc ?_ _)); exact BK130.out⟩, ⟨by (with_reducible repeat (first | refine blk_drewN ?_ _ | refine blk_drew ?_ | refine blk_alloc ?_ _)); exact BK131.out⟩, ⟨by repeat (first | (with_reducible first | exact HB.out | apply below_alloc | apply pw_below_drewN | apply below_drew1 | refine below_set ?_ GE130.out | refine below_set ?_ GE131.out) | exact HB.out)⟩⟩
  case rest =>
    clear HC10
    try clear c1
    try clear p2
    try clear c13
    try clear c15
    try clear c15b0
    try clear c15b1
    try clear hcz14_0
    try clear hcz14_1
    try clear hcz14_2
    try clear hcz14_3
    try clear hfz14_0
    try clear hfz14_1
    try clear hfz14_2
    try clear hfz14_3
    obtain ⟨kq, x38_9, rfl, HA, HJ9, BK130, BK131, HB⟩ := hcut
    cases kq with
    | zero => exact absurd HA.out (by simp [spec_GridArea.j0])
    | succ kj9 =>
      have H := HA.out
      clear HA
      simp only [spec_GridArea.j0] at H
      by_cases c16 : x38_9 = true
      · subst c16
        have H1 : (if ji9 < 60 then (some (ji6, ji8, ji7, wrap64 (ji9 + 1))) else (some (ji6, wrap64 (ji8 - 1), ji7, ji9))) = some (r1, r2, r3, r4) := by rw [if_pos rfl] at H; exact H
        clear H
        have H := H1
        clear H1
        by_cases c17 : ji9 < 60
        · rw [if_pos c17] at H
          have c17b0 : decide (ji9 < 60) = true := decide_eq_true c17
          clear c17
          simp only [Option.some.injEq, Prod.mk.injEq] at H
          obtain ⟨rfl, rfl, rfl, rfl⟩ := H
          have hnb18 := NB131_130.out
          have hnc18 := NB130_131.out
          have hcz19_0 : wc.cell? ⟨gb131, 0, none⟩ = some (.int .i64 0) := (blk_cell BK131.out 0).trans rfl
          have hcz19_1 : wc.cell? ⟨gb131, 1, none⟩ = some (.int .i64 0) := (blk_cell BK131.out 1).trans rfl
          have hcz19_2 : wc.cell? ⟨gb131, 2, none⟩ = some (.int .i64 0) := (blk_cell BK131.out 2).trans rfl
          have hcz19_3 : wc.cell? ⟨gb131, 3, none⟩ = some (.int .i64 0) := (blk_cell BK131.out 3).trans rfl
          have hfz19_0 := blk_frozen BK131.out 0
          have hfz19_1 := blk_frozen BK131.out 1
          have hfz19_2 := blk_frozen BK131.out 2
          have hfz19_3 := blk_frozen BK131.out 3
          go_wp2
          repeat (go_quiet (fail); try go_wp2)
          refine bodyPost_ret (results_cell_row rfl _ _ gb131 22 #[.int .i64 ji6, .int .i64 ji8, .int .i64 ji7, .int .i64 (wrap64 (ji9 + 1))] (0, 0) _ rfl (by (with_reducible repeat (first | refine blk_drewN ?_ _ | refine blk_drew ?_ | refine blk_alloc ?_ _)); refine blk_put (cs := #[.int .i64 ji6, .int .i64 ji8, .int .i64 ji7, .int .i64 0]) ?_ 3 _ rfl; (with_reducible repeat (first | refine blk_drewN ?_ _ | refine blk_drew ?_ | refine blk_alloc ?_ _)); refine blk_put (cs := #[.int .i64 ji6, .int .i64 ji8, .int .i64 0, .int .i64 0]) ?_ 2 _ rfl; (with_reducible repeat (first | refine blk_drewN ?_ _ | refine blk_drew ?_ | refine blk_alloc ?_ _)); refine blk_put (cs := #[.int .i64 ji6, .int .i64 0, .int .i64 0, .int .i64 0]) ?_ 1 _ rfl; (with_reducible repeat (first | refine blk_drewN ?_ _ | refine blk_drew ?_ | refine blk_alloc ?_ _)); refine blk_put (cs := #[.int .i64 0, .int .i64 0, .int .i64 0, .int .i64 0]) ?_ 0 _ rfl; (with_reducible repeat (first | refine blk_drewN ?_ _ | refine blk_drew ?_ | refine blk_alloc ?_ _)); exact BK131.out) Tryd.underlying22 rfl (by kernel_rfl)) rfl ?_
          exact ⟨by first | rfl | (simp [errW_none, errW_some] <;> rfl) | (simp only [← hji6, ← hji7, ← hji8, ← hji9]; first | rfl | (simp [errW_none, errW_some] <;> rfl)) | (simp [*, errW_none, errW_some] <;> rfl), by repeat (first | (with_reducible first | exact HB.out | apply below_alloc | apply pw_below_drewN | apply below_drew1 | refine below_set ?_ GE130.out | refine below_set ?_ GE131.out) | exact HB.out)⟩
        · rw [if_neg c17] at H
          have c17b0 : decide (ji9 < 60) = false := decide_eq_false c17
          clear c17
          simp only [Option.some.injEq, Prod.mk.injEq] at H
          obtain ⟨rfl, rfl, rfl, rfl⟩ := H
          have hnb20 := NB131_130.out
          have hnc20 := NB130_131.out
          have hcz21_0 : wc.cell? ⟨gb131, 0, none⟩ = some (.int .i64 0) := (blk_cell BK131.out 0).trans rfl
          have hcz21_1 : wc.cell? ⟨gb131, 1, none⟩ = some (.int .i64 0) := (blk_cell BK131.out 1).trans rfl
          have hcz21_2 : wc.cell? ⟨gb131, 2, none⟩ = some (.int .i64 0) := (blk_cell BK131.out 2).trans rfl
          have hcz21_3 : wc.cell? ⟨gb131, 3, none⟩ = some (.int .i64 0) := (blk_cell BK131.out 3).trans rfl
          have hfz21_0 := blk_frozen BK131.out 0
          have hfz21_1 := blk_frozen BK131.out 1
          have hfz21_2 := blk_frozen BK131.out 2
          have hfz21_3 := blk_frozen BK131.out 3
          go_wp2
          repeat (go_quiet (fail); try go_wp2)
          refine bodyPost_ret (results_cell_row rfl _ _ gb131 22 #[.int .i64 ji6, .int .i64 (wrap64 (ji8 - 1)), .int .i64 ji7, .int .i64 ji9] (0, 0) _ rfl (by (with_reducible repeat (first | refine blk_drewN ?_ _ | refine blk_drew ?_ | refine blk_alloc ?_ _)); refine blk_put (cs := #[.int .i64 ji6, .int .i64 (wrap64 (ji8 - 1)), .int .i64 ji7, .int .i64 0]) ?_ 3 _ rfl; (with_reducible repeat (first | refine blk_drewN ?_ _ | refine blk_drew ?_ | refine blk_alloc ?_ _)); refine blk_put (cs := #[.int .i64 ji6, .int .i64 (wrap64 (ji8 - 1)), .int .i64 0, .int .i64 0]) ?_ 2 _ rfl; (with_reducible repeat (first | refine blk_drewN ?_ _ | refine blk_drew ?_ | refine blk_alloc ?_ _)); refine blk_put (cs := #[.int .i64 ji6, .int .i64 0, .int .i64 0, .int .i64 0]) ?_ 1 _ rfl; (with_reducible repeat (first | refine blk_drewN ?_ _ | refine blk_drew ?_ | refine blk_alloc ?_ _)); refine blk_put (cs := #[.int .i64 0, .int .i64 0, .int .i64 0, .int .i64 0]) ?_ 0 _ rfl; (with_reducible repeat (first | refine blk_drewN ?_ _ | refine blk_drew ?_ | refine blk_alloc ?_ _)); exact BK131.out) Tryd.underlying22 rfl (by kernel_rfl)) rfl ?_
          exact ⟨by first | rfl | (simp [errW_none, errW_some] <;> rfl) | (simp only [← hji6, ← hji7, ← hji8, ← hji9]; first | rfl | (simp [errW_none, errW_some] <;> rfl)) | (simp [*, errW_none, errW_some] <;> rfl), by repeat (first | (with_reducible first | exact HB.out | apply below_alloc | apply pw_below_drewN | apply below_drew1 | refine below_set ?_ GE130.out | refine below_set ?_ GE131.out) | exact HB.out)⟩
      · replace c16 := Bool.eq_false_iff.mpr c16
        subst c16
        have H1 : (some (ji6, ji8, ji7, ji9)) = some (r1, r2, r3, r4) := by rw [if_neg (show ¬ (false = true) by decide)] at H; exact H
        clear H
        have H := H1
        clear H1
        simp only [Option.some.injEq, Prod.mk.injEq] at H
        obtain ⟨rfl, rfl, rfl, rfl⟩ := H
        have hnb22 := NB131_130.out
        have hnc22 := NB130_131.out
        have hcz23_0 : wc.cell? ⟨gb131, 0, none⟩ = some (.int .i64 0) := (blk_cell BK131.out 0).trans rfl
        have hcz23_1 : wc.cell? ⟨gb131, 1, none⟩ = some (.int .i64 0) := (blk_cell BK131.out 1).trans rfl
        have hcz23_2 : wc.cell? ⟨gb131, 2, none⟩ = some (.int .i64 0) := (blk_cell BK131.out 2).trans rfl
        have hcz23_3 : wc.cell? ⟨gb131, 3, none⟩ = some (.int .i64 0) := (blk_cell BK131.out 3).trans rfl
        have hfz23_0 := blk_frozen BK131.out 0
        have hfz23_1 := blk_frozen BK131.out 1
        have hfz23_2 := blk_frozen BK131.out 2
        have hfz23_3 := blk_frozen BK131.out 3
        go_wp2
        repeat (go_quiet (fail); try go_wp2)
        refine bodyPost_ret (results_cell_row rfl _ _ gb131 22 #[.int .i64 ji6, .int .i64 ji8, .int .i64 ji7, .int .i64 ji9] (0, 0) _ rfl (by (with_reducible repeat (first | refine blk_drewN ?_ _ | refine blk_drew ?_ | refine blk_alloc ?_ _)); refine blk_put (cs := #[.int .i64 ji6, .int .i64 ji8, .int .i64 ji7, .int .i64 0]) ?_ 3 _ rfl; (with_reducible repeat (first | refine blk_drewN ?_ _ | refine blk_drew ?_ | refine blk_alloc ?_ _)); refine blk_put (cs := #[.int .i64 ji6, .int .i64 ji8, .int .i64 0, .int .i64 0]) ?_ 2 _ rfl; (with_reducible repeat (first | refine blk_drewN ?_ _ | refine blk_drew ?_ | refine blk_alloc ?_ _)); refine blk_put (cs := #[.int .i64 ji6, .int .i64 0, .int .i64 0, .int .i64 0]) ?_ 1 _ rfl; (with_reducible repeat (first | refine blk_drewN ?_ _ | refine blk_drew ?_ | refine blk_alloc ?_ _)); refine blk_put (cs := #[.int .i64 0, .int .i64 0, .int .i64 0, .int .i64 0]) ?_ 0 _ rfl; (with_reducible repeat (first | refine blk_drewN ?_ _ | refine blk_drew ?_ | refine blk_alloc ?_ _)); exact BK131.out) Tryd.underlying22 rfl (by kernel_rfl)) rfl ?_
        exact ⟨by first | rfl | (simp [errW_none, errW_some] <;> rfl) | (simp only [← hji6, ← hji7, ← hji8, ← hji9]; first | rfl | (simp [errW_none, errW_some] <;> rfl)) | (simp [*, errW_none, errW_some] <;> rfl), by repeat (first | (with_reducible first | exact HB.out | apply below_alloc | apply pw_below_drewN | apply below_drew1 | refine below_set ?_ GE130.out | refine below_set ?_ GE131.out) | exact HB.out)⟩

end Go.Proofs.YtfbenlenihlpbaaDoor.POa
end

section
namespace Go.Proofs.YtfbenlenihlpbaaDoor.POa
open Go.RowKit Go.Proofs.YtfbenlenihlpbaaDoorW.PrintWords Go.Proofs.YtfbenlenihlpbaaDoorW.PrintLast Go.Proofs.YtfbenlenihlpbaaDoorW.PrintMore
attribute [local go_sem] max2_int min2_int max_two min_two max_three min_three max_four min_four   -- for this text's walks alone
set_option linter.unusedVariables false
set_option linter.unusedSimpArgs false

/-! ### spec_GridMove_Index: function 56 -/
def spec_GridMove_Index.f (a0_0 : Bool) (a0_1 : Int) (a0_2 : Int) (a1 : Int) : Option (Int) := if a1 < a0_1 then (some a1) else (some (mx 1 (wrap64 (a1 + a0_2))))
set_option maxHeartbeats 8000000 in
set_option maxRecDepth 100000 in
theorem spec_GridMove_Index.calls (a0_0 : Bool) (a0_1 : Int) (a0_2 : Int) (a1 : Int) (r : Int) (w : World) (h : spec_GridMove_Index.f a0_0 a0_1 a0_2 a1 = some r) :
    Calls Tryd.prog 56 #[.agg #[.bool a0_0, .int .i64 a0_1, .int .i64 a0_2], .int .i64 a1] w fun e w' => e = .returned (.int .i64 r) ∧ Below w.heap.size w w' := by
  have hu46 := Tryd.underlying46
  have HB := Aside0.mk (Below.refl w.heap.size w)
  have H : (if a1 < a0_1 then (some a1) else (some (mx 1 (wrap64 (a1 + a0_2))))) = some r := h
  clear h
  by_cases c3 : a1 < a0_1
  · rw [if_pos c3] at H
    have c3b0 : decide (a1 < a0_1) = true := decide_eq_true c3
    clear c3
    obtain rfl := Option.some.inj H
    go_enter Tryd.func56, Tryd.ntmps56
    go_wp2_with (first | ((with_reducible refine gate_dst (N := 2) rfl ?_); refine box_event ?hg (N := 2) ?hd (cs := #[.bool a0_0, .int .i64 a0_1, .int .i64 a0_2]) (t := 46) ?hr ?_; (case hd => rfl); (case hg => rfl); (case hr => first | (go_simp; done) | (go_simp; rfl)); intro gb136 hg w4 hbox hb; have n0_ := Aside0.mk (below_step (by repeat (first | (with_reducible first | exact HB.out | apply below_alloc | apply pw_below_drewN | apply below_drew1) | exact HB.out)) hb); have n1_ := Aside0.mk (hbox); have n2_ := Aside0.mk ((by rw [hg]; exact (below_size (by repeat (first | (with_reducible first | exact HB.out | apply below_alloc | apply pw_below_drewN | apply below_drew1) | exact HB.out))) : w.heap.size ≤ gb136)); have n3_ := Aside0.mk ((by rw [hg]; exact (below_size (by repeat (first | (with_reducible first | exact HB.out | apply below_alloc | apply pw_below_drewN | apply below_drew1) | exact HB.out))) : w.heap.size ≤ gb136)); clear HB; have HB := n0_; have BK136 := n1_; have GW136 := n2_; have GE136 := n3_; clear n0_ n1_ n2_ n3_; clear hb hbox hg; have hcz5_0 : w4.cell? ⟨gb136, 0, none⟩ = some (.bool a0_0) := (blk_cell BK136.out 0).trans rfl; have hcz5_1 : w4.cell? ⟨gb136, 1, none⟩ = some (.int .i64 a0_1) := (blk_cell BK136.out 1).trans rfl; have hcz5_2 : w4.cell? ⟨gb136, 2, none⟩ = some (.int .i64 a0_2) := (blk_cell BK136.out 2).trans rfl; have hfz5_0 := blk_frozen BK136.out 0; have hfz5_1 := blk_frozen BK136.out 1; have hfz5_2 := blk_frozen BK136.out 2))
    go_ret
    exact ⟨by first | rfl | (simp [errW_none, errW_some] <;> rfl) | (simp [*, errW_none, errW_some] <;> rfl), by repeat (first | (with_reducible first | exact HB.out | apply below_alloc | apply pw_below_drewN | apply below_drew1 | refine below_set ?_ GE136.out) | exact HB.out)⟩
  · rw [if_neg c3] at H
    have c3b0 : decide (a1 < a0_1) = false := decide_eq_false c3
    clear c3
    obtain ⟨ji6, hji6⟩ : ∃ j_ : Int, (mx 1 (wrap64 (a1 + a0_2))) = j_ := ⟨_, rfl⟩
    replace H : (some ji6) = some r := by first | (rw [hji6] at H; exact H) | (simp only [hji6] at H ⊢; exact H)
    (try (have hji6l : 1 ≤ ji6 := by (rw [← hji6]; unfold mx; (repeat' split) <;> omega)))
    (try (have hji6m : 0 ≤ ji6 := by omega))
    have hji6_ : (if 1 < (wrap64 (a1 + a0_2)) then (wrap64 (a1 + a0_2)) else 1) = ji6 := hji6
    obtain rfl := Option.some.inj H
    go_enter Tryd.func56, Tryd.ntmps56
    go_wp2_with (first | ((with_reducible refine gate_dst (N := 2) rfl ?_); refine box_event ?hg (N := 2) ?hd (cs := #[.bool a0_0, .int .i64 a0_1, .int .i64 a0_2]) (t := 46) ?hr ?_; (case hd => rfl); (case hg => rfl); (case hr => first | (go_simp; done) | (go_simp; rfl)); intro gb136 hg w7 hbox hb; have n0_ := Aside0.mk (below_step (by repeat (first | (with_reducible first | exact HB.out | apply below_alloc | apply pw_below_drewN | apply below_drew1) | exact HB.out)) hb); have n1_ := Aside0.mk (hbox); have n2_ := Aside0.mk ((by rw [hg]; exact (below_size (by repeat (first | (with_reducible first | exact HB.out | apply below_alloc | apply pw_below_drewN | apply below_drew1) | exact HB.out))) : w.heap.size ≤ gb136)); have n3_ := Aside0.mk ((by rw [hg]; exact (below_size (by repeat (first | (with_reducible first | exact HB.out | apply below_alloc | apply pw_below_drewN | apply below_drew1) | exact HB.out))) : w.heap.size ≤ gb136)); clear HB; have HB := n0_; have BK136 := n1_; have GW136 := n2_; have GE136 := n3_; clear n0_ n1_ n2_ n3_; clear hb hbox hg; have hcz8_0 : w7.cell? ⟨gb136, 0, none⟩ = some (.bool a0_0) := (blk_cell BK136.out 0).trans rfl; have hcz8_1 : w7.cell? ⟨gb136, 1, none⟩ = some (.int .i64 a0_1) := (blk_cell BK136.out 1).trans rfl; have hcz8_2 : w7.cell? ⟨gb136, 2, none⟩ = some (.int .i64 a0_2) := (blk_cell BK136.out 2).trans rfl; have hfz8_0 := blk_frozen BK136.out 0; have hfz8_1 := blk_frozen BK136.out 1; have hfz8_2 := blk_frozen BK136.out 2))
    go_ret
    exact ⟨by first | rfl | (simp [errW_none, errW_some] <;> rfl) | (simp only [← hji6]; first | rfl | (simp [errW_none, errW_some] <;> rfl)) | (simp [*, errW_none, errW_some] <;> rfl), by repeat (first | (with_reducible first | exact HB.out | apply below_alloc | apply pw_below_drewN | apply below_drew1 | refine below_set ?_ GE136.out) | exact HB.out)⟩

end Go.Proofs.YtfbenlenihlpbaaDoor.POa
end

section
namespace Go.Proofs.YtfbenlenihlpbaaDoor.POa
open Go.RowKit Go.Proofs.YtfbenlenihlpbaaDoorW.PrintWords Go.Proofs.YtfbenlenihlpbaaDoorW.PrintLast Go.Proofs.YtfbenlenihlpbaaDoorW.PrintMore
attribute [local go_sem] max2_int min2_int max_two min_two max_three min_three max_four min_four   -- for this text's walks alone
set_option linter.unusedVariables false
set_option linter.unusedSimpArgs false

/-! ### spec_GridMove_Place: function 44 -/
def spec_GridMove_Place.f (a0_0 : Bool) (a0_1 : Int) (a0_2 : Int) (a1 : Int) (a2 : Int) : Option (Int × Int) := if a0_0 = true then ((spec_GridMove_Index.f a0_0 a0_1 a0_2 a2).bind fun t138 => (some (a1, t138))) else ((spec_GridMove_Index.f a0_0 a0_1 a0_2 a1).bind fun t139 => (some (t139, a2)))
set_option maxHeartbeats 8000000 in
set_option maxRecDepth 100000 in
theorem spec_GridMove_Place.calls (a0_0 : Bool) (a0_1 : Int) (a0_2 : Int) (a1 : Int) (a2 : Int) (r1 : Int) (r2 : Int) (w : World) (h : spec_GridMove_Place.f a0_0 a0_1 a0_2 a1 a2 = some (r1, r2)) :
    Calls Tryd.prog 44 #[.agg #[.bool a0_0, .int .i64 a0_1, .int .i64 a0_2], .int .i64 a1, .int .i64 a2] w fun e w' => e = .returned (.tuple #[.int .i64 r1, .int .i64 r2]) ∧ Below w.heap.size w w' := by
  have hu46 := Tryd.underlying46
  have HB := Aside0.mk (Below.refl w.heap.size w)
  have H : (if a0_0 = true then ((spec_GridMove_Index.f a0_0 a0_1 a0_2 a2).bind fun t138 => (some (a1, t138))) else ((spec_GridMove_Index.f a0_0 a0_1 a0_2 a1).bind fun t139 => (some (t139, a2)))) = some (r1, r2) := h
  clear h
  by_cases c4 : a0_0 = true
  · subst c4
    have H1 : ((spec_GridMove_Index.f true a0_1 a0_2 a2).bind fun t138 => (some (a1, t138))) = some (r1, r2) := by rw [if_pos rfl] at H; exact H
    clear H
    have H := H1
    clear H1
    replace H := Option.bind_eq_some_iff.mp H
    obtain ⟨t138, A50, H⟩ := H
    replace H : (some (a1, t138)) = some (r1, r2) := H
    have A5 := Aside0.mk A50
    clear A50
    simp only [Option.some.injEq, Prod.mk.injEq] at H
    obtain ⟨rfl, rfl⟩ := H
    go_enter Tryd.func44, Tryd.ntmps44
    go_wp2_with (first | ((with_reducible refine gate_dst (N := 3) rfl ?_); refine box_event ?hg (N := 3) ?hd (cs := #[.bool true, .int .i64 a0_1, .int .i64 a0_2]) (t := 46) ?hr ?_; (case hd => rfl); (case hg => rfl); (case hr => first | (go_simp; done) | (go_simp; rfl)); intro gb137 hg w6 hbox hb; have n0_ := Aside0.mk (below_step (by repeat (first | (with_reducible first | exact HB.out | apply below_alloc | apply pw_below_drewN | apply below_drew1) | exact HB.out)) hb); have n1_ := Aside0.mk (hbox); have n2_ := Aside0.mk ((by rw [hg]; exact (below_size (by repeat (first | (with_reducible first | exact HB.out | apply below_alloc | apply pw_below_drewN | apply below_drew1) | exact HB.out))) : w.heap.size ≤ gb137)); have n3_ := Aside0.mk ((by rw [hg]; exact (below_size (by repeat (first | (with_reducible first | exact HB.out | apply below_alloc | apply pw_below_drewN | apply below_drew1) | exact HB.out))) : w.heap.size ≤ gb137)); clear HB; have HB := n0_; have BK137 := n1_; have GW137 := n2_; have GE137 := n3_; clear n0_ n1_ n2_ n3_; clear hb hbox hg; have hcz7_0 : w6.cell? ⟨gb137, 0, none⟩ = some (.bool true) := (blk_cell BK137.out 0).trans rfl; have hcz7_1 : w6.cell? ⟨gb137, 1, none⟩ = some (.int .i64 a0_1) := (blk_cell BK137.out 1).trans rfl; have hcz7_2 : w6.cell? ⟨gb137, 2, none⟩ = some (.int .i64 a0_2) := (blk_cell BK137.out 2).trans rfl; have hfz7_0 := blk_frozen BK137.out 0; have hfz7_1 := blk_frozen BK137.out 1; have hfz7_2 := blk_frozen BK137.out 2) | ((with_reducible refine gate_callee (f := 56) rfl ?_); refine goesL_ (some 13) rfl rfl Tryd.func56 (by kernel_rfl) rfl #[.agg #[.bool true, .int .i64 a0_1, .int .i64 a0_2], .int .i64 a2] rfl (by (try simp only [List.map_toArray, List.map_cons, List.map_nil]); first | done | rfl | (simp only [List.length_drop, List.length_take]; rfl)) ?_; (with_reducible refine (spec_GridMove_Index.calls true a0_1 a0_2 a2 t138 _ A5.out).mono ?_); rintro e w8 ⟨rfl, hb⟩; refine ⟨_, rfl, ?_⟩; have n0_ := Aside0.mk (blk_below (g := gb137) (o := .cells #[.bool true, .int .i64 a0_1, .int .i64 a0_2] 46 (0, 0)) (by (with_reducible repeat (first | refine blk_drewN ?_ _ | refine blk_drew ?_ | refine blk_alloc ?_ _)); exact BK137.out) hb); have n1_ := Aside0.mk (below_step (by repeat (first | (with_reducible first | exact HB.out | apply below_alloc | apply pw_below_drewN | apply below_drew1 | refine below_set ?_ GE137.out) | exact HB.out)) hb); clear BK137; clear HB; have BK137 := n0_; have HB := n1_; clear n0_ n1_; (try clear hb); (try clear hb2); (try clear hk); (try clear hi)))
    go_ret2
    exact ⟨by first | rfl | (simp [errW_none, errW_some] <;> rfl) | (simp [*, errW_none, errW_some] <;> rfl), by repeat (first | (with_reducible first | exact HB.out | apply below_alloc | apply pw_below_drewN | apply below_drew1 | refine below_set ?_ GE137.out) | exact HB.out)⟩
  · replace c4 := Bool.eq_false_iff.mpr c4
    subst c4
    have H1 : ((spec_GridMove_Index.f false a0_1 a0_2 a1).bind fun t139 => (some (t139, a2))) = some (r1, r2) := by rw [if_neg (show ¬ (false = true) by decide)] at H; exact H
    clear H
    have H := H1
    clear H1
    replace H := Option.bind_eq_some_iff.mp H
    obtain ⟨t139, A90, H⟩ := H
    replace H : (some (t139, a2)) = some (r1, r2) := H
    have A9 := Aside0.mk A90
    clear A90
    simp only [Option.some.injEq, Prod.mk.injEq] at H
    obtain ⟨rfl, rfl⟩ := H
    go_enter Tryd.func44, Tryd.ntmps44
    go_wp2_with (first | ((with_reducible refine gate_dst (N := 3) rfl ?_); refine box_event ?hg (N := 3) ?hd (cs := #[.bool false, .int .i64 a0_1, .int .i64 a0_2]) (t := 46) ?hr ?_; (case hd => rfl); (case hg => rfl); (case hr => first | (go_simp; done) | (go_simp; rfl)); intro gb137 hg w10 hbox hb; have n0_ := Aside0.mk (below_step (by repeat (first | (with_reducible first | exact HB.out | apply below_alloc | apply pw_below_drewN | apply below_drew1) | exact HB.out)) hb); have n1_ := Aside0.mk (hbox); have n2_ := Aside0.mk ((by rw [hg]; exact (below_size (by repeat (first | (with_reducible first | exact HB.out | apply below_alloc | apply pw_below_drewN | apply below_drew1) | exact HB.out))) : w.heap.size ≤ gb137)); have n3_ := Aside0.mk ((by rw [hg]; exact (below_size (by repeat (first | (with_reducible first | exact HB.out | apply below_alloc | apply pw_below_drewN | apply below_drew1) | exact HB.out))) : w.heap.size ≤ gb137)); clear HB; have HB := n0_; have BK137 := n1_; have GW137 := n2_; have GE137 := n3_; clear n0_ n1_ n2_ n3_; clear hb hbox hg; have hcz11_0 : w10.cell? ⟨gb137, 0, none⟩ = some (.bool false) := (blk_cell BK137.out 0).trans rfl; have hcz11_1 : w10.cell? ⟨gb137, 1, none⟩ = some (.int .i64 a0_1) := (blk_cell BK137.out 1).trans rfl; have hcz11_2 : w10.cell? ⟨gb137, 2, none⟩ = some (.int .i64 a0_2) := (blk_cell BK137.out 2).trans rfl; have hfz11_0 := blk_frozen BK137.out 0; have hfz11_1 := blk_frozen BK137.out 1; have hfz11_2 := blk_frozen BK137.out 2) | ((with_reducible refine gate_callee (f := 56) rfl ?_); refine goesL_ (some 16) rfl rfl Tryd.func56 (by kernel_rfl) rfl #[.agg #[.bool false, .int .i64 a0_1, .int .i64 a0_2], .int .i64 a1] rfl (by (try simp only [List.map_toArray, List.map_cons, List.map_nil]); first | done | rfl | (simp only [List.length_drop, List.length_take]; rfl)) ?_; (with_reducible refine (spec_GridMove_Index.calls false a0_1 a0_2 a1 t139 _ A9.out).mono ?_); rintro e w12 ⟨rfl, hb⟩; refine ⟨_, rfl, ?_⟩; have n0_ := Aside0.mk (blk_below (g := gb137) (o := .cells #[.bool false, .int .i64 a0_1, .int .i64 a0_2] 46 (0, 0)) (by (with_reducible repeat (first | refine blk_drewN ?_ _ | refine blk_drew ?_ | refine blk_alloc ?_ _)); exact BK137.out) hb); have n1_ := Aside0.mk (below_step (by repeat (first | (with_reducible first | exact HB.out | apply below_alloc | apply pw_below_drewN | apply below_drew1 | refine below_set ?_ GE137.out) | exact HB.out)) hb); clear BK137; clear HB; have BK137 := n0_; have HB := n1_; clear n0_ n1_; (try clear hb); (try clear hb2); (try clear hk); (try clear hi)))
    go_ret2
    exact ⟨by first | rfl | (simp [errW_none, errW_some] <;> rfl) | (simp [*, errW_none, errW_some] <;> rfl), by repeat (first | (with_reducible first | exact HB.out | apply below_alloc | apply pw_below_drewN | apply below_drew1 | refine below_set ?_ GE137.out) | exact HB.out)⟩

end Go.Proofs.YtfbenlenihlpbaaDoor.POa
end
