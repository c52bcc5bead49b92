-- PRINTED BY print.sh 35421559b90ae4d0a3588c463048766b98c2df88dd9212a6774a882060cdf62d: not written by this session
import Derived.Test.YtfbenlenihlpbaaDoorPColumnNamex0
namespace Go.Proofs.YtfbenlenihlpbaaDoor.PColumnName
open Go.RowKit Go.Proofs.YtfbenlenihlpbaaDoorW.PrintWords Go.Proofs.YtfbenlenihlpbaaDoorW.PrintLast Go.Proofs.YtfbenlenihlpbaaDoorW.PrintMore
attribute [local go_sem] max2_int min2_int max_two min_two max_three min_three max_four min_four   -- for this text's walks alone
set_option linter.unusedVariables false
set_option linter.unusedSimpArgs false

/-! ### spec_ColumnName: function 20 -/
mutual
def spec_ColumnName.j0 : Nat → Int → Bool → Option (ByteArray × Bool)
  | 0, _, _ => none
  | k + 1, x0, x11 => if x11 = true then (some ((⟨#[]⟩ : ByteArray), false)) else (spec_ColumnName.l0 k x0 (⟨#[]⟩ : ByteArray))
def spec_ColumnName.l0 : Nat → Int → ByteArray → Option (ByteArray × Bool)
  | 0, _, _ => none
  | k + 1, x0, x4 => if x0 > 0 then ((some (([(wrap64 (65 + (Int.tmod (wrap64 (x0 - 1)) 26))) % 256] : List Int) : List Int)).bind fun y101 => (if (strOfNums y101).size + x4.size ≤ 9223372036854775807 then (spec_ColumnName.l0 k (wrap64 (Int.tdiv (wrap64 ((wrap64 (x0 - 1)) - (Int.tmod (wrap64 (x0 - 1)) 26))) 26)) ((strOfNums y101) ++ x4)) else (none))) else (some (x4, true))
end
def spec_ColumnName.f (k : Nat) (a0 : Int) : Option (ByteArray × Bool) := if a0 < 1 then (spec_ColumnName.j0 k a0 true) else (spec_ColumnName.j0 k a0 (decide (a0 > 16384)))
theorem spec_ColumnName.mono_l : ∀ k, (∀ y0 y1, LeO (spec_ColumnName.j0 k y0 y1) (spec_ColumnName.j0 (k + 1) y0 y1)) ∧ (∀ y0 y1, LeO (spec_ColumnName.l0 k y0 y1) (spec_ColumnName.l0 (k + 1) y0 y1))
  | 0 => ⟨fun _ _ r h => by simp [spec_ColumnName.j0] at h, fun _ _ r h => by simp [spec_ColumnName.l0] at h⟩
  | k + 1 => by
    obtain ⟨ih0, ih1⟩ := spec_ColumnName.mono_l k
    refine ⟨?_, ?_⟩
    · intro y0 y1
      unfold spec_ColumnName.j0
      repeat' first
      | (with_reducible exact ih0 _ _)
      | (with_reducible exact ih1 _ _)
      | (with_reducible exact LeO.refl _)
      | (with_reducible exact LeO.none _)
      | (with_reducible refine LeO.ite ?_ ?_)
      | (with_reducible refine LeO.bind ?_ (fun _ => ?_))
      | exact ih0 _ _
      | exact ih1 _ _
      | exact LeO.none _
      | refine LeO.ite ?_ ?_
      | refine LeO.bind ?_ (fun _ => ?_)
    · intro y0 y1
      unfold spec_ColumnName.l0
      repeat' first
      | (with_reducible exact ih0 _ _)
      | (with_reducible exact ih1 _ _)
      | (with_reducible exact LeO.refl _)
      | (with_reducible exact LeO.none _)
      | (with_reducible refine LeO.ite ?_ ?_)
      | (with_reducible refine LeO.bind ?_ (fun _ => ?_))
      | exact ih0 _ _
      | exact ih1 _ _
      | exact LeO.none _
      | refine LeO.ite ?_ ?_
      | refine LeO.bind ?_ (fun _ => ?_)
theorem spec_ColumnName.mono : ∀ a0 k, LeO (spec_ColumnName.f k a0) (spec_ColumnName.f (k + 1) a0) := by
  intro a0 k
  obtain ⟨ih0, ih1⟩ := spec_ColumnName.mono_l k
  unfold spec_ColumnName.f
  repeat' first
      | (with_reducible exact ih0 _ _)
      | (with_reducible exact ih1 _ _)
      | (with_reducible exact LeO.refl _)
      | (with_reducible exact LeO.none _)
      | (with_reducible refine LeO.ite ?_ ?_)
      | (with_reducible refine LeO.bind ?_ (fun _ => ?_))
      | exact ih0 _ _
      | exact ih1 _ _
      | exact LeO.none _
      | refine LeO.ite ?_ ?_
      | refine LeO.bind ?_ (fun _ => ?_)
set_option maxHeartbeats 8000000 in
set_option maxRecDepth 100000 in
theorem spec_ColumnName.calls (k : Nat) (a0 : Int) (r1 : ByteArray) (r2 : Bool) (w : World) (h : spec_ColumnName.f k a0 = some (r1, r2)) :
    Calls Tryd.prog 20 #[.int .i64 a0] w fun e w' => e = .returned (.tuple #[.string r1, .bool r2]) ∧ Below w.heap.size w w' := by
  have HB := Aside0.mk (Below.refl w.heap.size w)
  have H : (if a0 < 1 then (spec_ColumnName.j0 k a0 true) else (spec_ColumnName.j0 k a0 (decide (a0 > 16384)))) = some (r1, r2) := h
  clear h
  have HC2 := Aside0.mk H
  clear H
  go_enter Tryd.func20, Tryd.ntmps20
  go_upto_region 1 with (fail)
  go_cut [11] (fun v11 wc => ∃ (kq : Nat) (x11_1 : Bool), v11 = .bool x11_1 ∧ Aside0 (spec_ColumnName.j0 kq a0 x11_1 = some (r1, r2)) ∧ Aside0 (kq ≤ k) ∧ Aside0 (Below w.heap.size w wc))
  case first =>
    have H := HC2.out
    clear HC2
    by_cases c3 : a0 < 1
    · rw [if_pos c3] at H
      have c3b0 : decide (a0 < 1) = true := decide_eq_true c3
      clear c3
      (first | rw [c3b0] | (simp only [i64_w, i32_w]; rw [c3b0]) | skip)
      have H' := Aside0.mk H
      clear H
      go_wp2
      go_meet
      case rel => exact ⟨_, (true), (by first | rfl | (simp; done) | (simp [*]; done)), H', ⟨by first | omega | exact Nat.le_refl _⟩, ⟨by repeat (first | (with_reducible first | exact HB.out | apply below_alloc | apply pw_below_drewN | apply below_drew1) | exact HB.out)⟩⟩
    · rw [if_neg c3] at H
      have c3b0 : decide (a0 < 1) = false := decide_eq_false c3
      clear c3
      (first | rw [c3b0] | (simp only [i64_w, i32_w]; rw [c3b0]) | skip)
      have H' := Aside0.mk H
      clear H
      go_wp2
      go_meet
      case rel => exact ⟨_, (decide (a0 > 16384)), (by first | rfl | (simp; done) | (simp [*]; done)), H', ⟨by first | omega | exact Nat.le_refl _⟩, ⟨by repeat (first | (with_reducible first | exact HB.out | apply below_alloc | apply pw_below_drewN | apply below_drew1) | exact HB.out)⟩⟩
  case rest =>
    clear HC2
    try clear c2
    try clear p2
    try clear c3
    try clear c3b0
    obtain ⟨kq, x11_1, rfl, HA, HJ1, HB⟩ := hcut
    cases kq with
    | zero => exact absurd HA.out (by simp [spec_ColumnName.j0])
    | succ kj1 =>
      have H := HA.out
      clear HA
      simp only [spec_ColumnName.j0] at H
      by_cases c4 : x11_1 = true
      · subst c4
        have H1 : (some ((⟨#[]⟩ : ByteArray), false)) = some (r1, r2) := by rw [if_pos rfl] at H; exact H
        clear H
        have H := H1
        clear H1
        simp only [Option.some.injEq, Prod.mk.injEq] at H
        obtain ⟨rfl, rfl⟩ := H
        go_wp2
        go_ret2
        exact ⟨by first | rfl | (simp [errW_none, errW_some] <;> rfl) | (simp [*, errW_none, errW_some] <;> rfl), by repeat (first | (with_reducible first | exact HB.out | apply below_alloc | apply pw_below_drewN | apply below_drew1) | exact HB.out)⟩
      · replace c4 := Bool.eq_false_iff.mpr c4
        subst c4
        have H1 : (spec_ColumnName.l0 kj1 a0 (⟨#[]⟩ : ByteArray)) = some (r1, r2) := by rw [if_neg (show ¬ (false = true) by decide)] at H; exact H
        clear H
        have H := H1
        clear H1
        have H' := Aside0.mk H
        clear H
        go_wp2
        go_loopg [0, 4] kj1 (fun kq v0 v4 w' => ∃ (x0_2 : Int) (x4_2 : ByteArray), v0 = .int .i64 x0_2 ∧ v4 = .string x4_2 ∧ Aside0 (spec_ColumnName.l0 kq x0_2 x4_2 = some (r1, r2)) ∧ Aside0 (kq ≤ kj1) ∧ Aside0 (Below w.heap.size w w'))
        case atStart => exact ⟨(a0), ((⟨#[]⟩ : ByteArray)), (by first | rfl | (simp; done) | (simp [*]; done)), (by first | rfl | (simp; done) | (simp [*]; done)), H', ⟨Nat.le_refl _⟩, ⟨by repeat (first | (with_reducible first | exact HB.out | apply below_alloc | apply pw_below_drewN | apply below_drew1) | exact HB.out)⟩⟩
        case round =>
          clear H'
          try clear c2
          try clear p2
          try clear c3
          try clear c3b0
          try clear c4
          try clear p2
          obtain ⟨x0_2, x4_2, rfl, rfl, HA, HK2, HB⟩ := hrel
          cases gk with
          | zero => exact absurd HA.out (by simp [spec_ColumnName.l0])
          | succ k2 =>
            have H := HA.out
            clear HA
            simp only [spec_ColumnName.l0] at H
            by_cases c5 : x0_2 > 0
            · rw [if_pos c5] at H
              have c5b0 : decide (0 < x0_2) = true := decide_eq_true c5
              clear c5
              obtain ⟨y101, hy101⟩ : ∃ y_ : List Int, y_ = (([(wrap64 (65 + (Int.tmod (wrap64 (x0_2 - 1)) 26))) % 256] : List Int)) := ⟨_, rfl⟩
              replace H : (if (strOfNums y101).size + x4_2.size ≤ 9223372036854775807 then (spec_ColumnName.l0 k2 (wrap64 (Int.tdiv (wrap64 ((wrap64 (x0_2 - 1)) - (Int.tmod (wrap64 (x0_2 - 1)) 26))) 26)) ((strOfNums y101) ++ x4_2)) else (none)) = some (r1, r2) := by first | (rw [hy101]; with_reducible exact H) | (have H2_ := (Option.bind_some _ _).symm.trans H; rw [hy101]; with_reducible exact H2_) | (have H2_ := (Option.bind_some _ _).symm.trans H; with_reducible exact H2_) | with_reducible exact H | (rw [hy101]; exact H) | exact H
              have Ny101 := Aside0.mk hy101
              clear hy101
              by_cases c6 : (strOfNums y101).size + x4_2.size ≤ 9223372036854775807
              · rw [if_pos c6] at H
                have c6b0 := eq_true c6
                have c6b1 : decide ((strOfNums y101).size + x4_2.size ≤ 9223372036854775807) = true := decide_eq_true c6
                try have c6b2 : (9223372036854775807 < (strOfNums y101).size + x4_2.size) = False := eq_false (Nat.not_lt.2 c6)
                have H' := Aside0.mk H
                clear H
                go_wp2_with (first | ((with_reducible refine gate_dst (N := 20) rfl ?_); refine Kd.R_lit (Kd.int .u8) _ 5 ?hg (N := 20) ?hd (xs := ([(wrap64 (65 + (Int.tmod (wrap64 (x0_2 - 1)) 26))) % 256] : List Int)) (inner := [.int .u8 ((wrap64 (65 + (Int.tmod (wrap64 (x0_2 - 1)) 26))) % 256)]) (ok := fun _ => True) (okp := fun _ => True) ?hr ?hp (fun _ hk => hk) trivial (Below.refl _ _) (Nat.le_refl _) (by simp) ?_; (case hd => rfl); (case hg => rfl); (case hr => first | (go_simp; done) | (go_simp; rfl)); (case hp => exact (Reps.one (show Kd.M (Kd.int .u8) _ _ _ ((wrap64 (65 + (Int.tmod (wrap64 (x0_2 - 1)) 26))) % 256) [.int .u8 ((wrap64 (65 + (Int.tmod (wrap64 (x0_2 - 1)) 26))) % 256)] from rfl) (Reps.none _ _))); intro v102 w7 ho8 hb hg_ hnew_; clear hg_ hnew_; (first | rw [← Ny101.out] at ho8 | (simp only [Int.reduceToNat] at ho8; rw [← Ny101.out] at ho8)); have n0_ := Aside0.mk (Kd.R_lower ho8 (below_size (by repeat (first | (with_reducible first | exact HB.out | apply below_alloc | apply pw_below_drewN | apply below_drew1) | exact HB.out)))); have n1_ := Aside0.mk (below_step (by repeat (first | (with_reducible first | exact HB.out | apply below_alloc | apply pw_below_drewN | apply below_drew1) | exact HB.out)) hb); clear HB; have HO103 := n0_; have HB := n1_; clear n0_ n1_; clear hb ho8; have hcv9 := own_string (P := Tryd.prog) Tryd.underlying65 Tryd.underlying5 Tryd.underlying9 (Kd.own_of_R HO103.out)))
                go_roundg k2
                case measure => have := HJ1.out; have := HK2.out; omega
                case rel => exact ⟨(wrap64 (Int.tdiv (wrap64 ((wrap64 (x0_2 - 1)) - (Int.tmod (wrap64 (x0_2 - 1)) 26))) 26)), ((strOfNums y101) ++ x4_2), (by first | rfl | (simp; done) | (simp [*]; done)), (by first | rfl | (simp; done) | (simp [*]; done)), H', ⟨by have := HJ1.out; have := HK2.out; omega⟩, ⟨by repeat (first | (with_reducible first | exact HB.out | apply below_alloc | apply pw_below_drewN | apply below_drew1) | exact HB.out)⟩⟩
              · rw [if_neg c6] at H
                exact absurd H (by simp)
            · rw [if_neg c5] at H
              have c5b0 : decide (0 < x0_2) = false := decide_eq_false c5
              clear c5
              simp only [Option.some.injEq, Prod.mk.injEq] at H
              obtain ⟨rfl, rfl⟩ := H
              go_wp2
              go_ret2
              exact ⟨by first | rfl | (simp [errW_none, errW_some] <;> rfl) | (simp [*, errW_none, errW_some] <;> rfl), by repeat (first | (with_reducible first | exact HB.out | apply below_alloc | apply pw_below_drewN | apply below_drew1) | exact HB.out)⟩

end Go.Proofs.YtfbenlenihlpbaaDoor.PColumnName
