/- Contracts of functions that the text "Fx" uses: the call ends in what the plain Lean function says, where that says something. Written by a program of this session. No conditions. -/
import Derived.Test.YtjefbpfpobgmaaaDoorPFxx0
namespace Go.Proofs.YtjefbpfpobgmaaaDoor.PFx
open Go.RowKit Go.Proofs.YtjefbpfpobgmaaaDoorW.PrintWords Go.Proofs.YtjefbpfpobgmaaaDoorW.PrintLast Go.Proofs.YtjefbpfpobgmaaaDoorW.PrintMore
attribute [local go_sem] max2_int min2_int max_two min_two max_three min_three max_four min_four   -- for this text's walks alone
set_option linter.unusedVariables false
set_option linter.unusedSimpArgs false

/-! ### laws_refSpecial: function 12 -/
def laws_refSpecial.l0 : Nat → ByteArray → ByteArray → Int → Option (Bool)
  | 0, _, _, _ => none
  | k + 1, x0, x3, x4 => if x4 < (x0.size : Int) then (if 0 ≤ x4 then (if (bt x0 x4) ≥ 65 then (if (bt x0 x4) ≤ 90 then ((some (([((bt x0 x4) + 32) % 256] : List Int) : List Int)).bind fun y130 => (if x3.size + (strOfNums y130).size ≤ 9223372036854775807 then (laws_refSpecial.l0 k x0 (x3 ++ (strOfNums y130)) (wrap64 (x4 + 1))) else (none))) else ((some (([bt x0 x4] : List Int) : List Int)).bind fun y133 => (if x3.size + (strOfNums y133).size ≤ 9223372036854775807 then (laws_refSpecial.l0 k x0 (x3 ++ (strOfNums y133)) (wrap64 (x4 + 1))) else (none)))) else ((some (([bt x0 x4] : List Int) : List Int)).bind fun y136 => (if x3.size + (strOfNums y136).size ≤ 9223372036854775807 then (laws_refSpecial.l0 k x0 (x3 ++ (strOfNums y136)) (wrap64 (x4 + 1))) else (none)))) else (none)) else (if x3.toList = ([98, 108, 97, 110, 107, 115] : List UInt8) then (some true) else (if x3.toList = ([110, 111, 110, 98, 108, 97, 110, 107, 115] : List UInt8) then (some true) else (if x3.toList = ([116, 111, 112] : List UInt8) then (some true) else (some (x3.toList == ([98, 111, 116, 116, 111, 109] : List UInt8))))))
def laws_refSpecial.f (k : Nat) (a0 : ByteArray) : Option (Bool) := laws_refSpecial.l0 k a0 (⟨#[]⟩ : ByteArray) 0
theorem laws_refSpecial.mono_l : ∀ k, (∀ y0 y1 y2, LeO (laws_refSpecial.l0 k y0 y1 y2) (laws_refSpecial.l0 (k + 1) y0 y1 y2))
  | 0 => fun _ _ _ r h => by simp [laws_refSpecial.l0] at h
  | k + 1 => by
    have ih0 := laws_refSpecial.mono_l k
    · intro y0 y1 y2
      unfold laws_refSpecial.l0
      repeat' first
      | (with_reducible exact ih0 _ _ _)
      | (with_reducible exact LeO.refl _)
      | (with_reducible exact LeO.none _)
      | (with_reducible refine LeO.ite ?_ ?_)
      | (with_reducible refine LeO.bind ?_ (fun _ => ?_))
      | exact ih0 _ _ _
      | exact LeO.none _
      | refine LeO.ite ?_ ?_
      | refine LeO.bind ?_ (fun _ => ?_)
theorem laws_refSpecial.mono : ∀ a0 k, LeO (laws_refSpecial.f k a0) (laws_refSpecial.f (k + 1) a0) := by
  intro a0 k
  have ih0 := laws_refSpecial.mono_l k
  unfold laws_refSpecial.f
  repeat' first
      | (with_reducible exact ih0 _ _ _)
      | (with_reducible exact LeO.refl _)
      | (with_reducible exact LeO.none _)
      | (with_reducible refine LeO.ite ?_ ?_)
      | (with_reducible refine LeO.bind ?_ (fun _ => ?_))
      | exact ih0 _ _ _
      | exact LeO.none _
      | refine LeO.ite ?_ ?_
      | refine LeO.bind ?_ (fun _ => ?_)
set_option maxHeartbeats 8000000 in
set_option maxRecDepth 100000 in
theorem laws_refSpecial.calls (k : Nat) (a0 : ByteArray) (r : Bool) (w : World) (h : laws_refSpecial.f k a0 = some r) :
    Calls Tryd.prog 12 #[.string a0] w fun e w' => e = .returned (.bool r) ∧ Below w.heap.size w w' := by
  have HB := Aside0.mk (Below.refl w.heap.size w)
  have H : (laws_refSpecial.l0 k a0 (⟨#[]⟩ : ByteArray) 0) = some r := h
  clear h
  have H' := Aside0.mk H
  clear H
  go_enter Tryd.func12, Tryd.ntmps12
  go_wp2
  go_loopg [3, 4] k (fun kq v3 v4 w' => ∃ (x3_1 : ByteArray) (x4_1 : Int), v3 = .string x3_1 ∧ v4 = .int .i64 x4_1 ∧ Aside0 (laws_refSpecial.l0 kq a0 x3_1 x4_1 = some r) ∧ Aside0 (kq ≤ k) ∧ Aside0 (Below w.heap.size w w'))
  case atStart => exact ⟨((⟨#[]⟩ : ByteArray)), (0), (by first | rfl | (simp; done) | (simp [*]; done)), (by first | rfl | (simp; done) | (simp [*]; done)), H', ⟨Nat.le_refl _⟩, ⟨by repeat (first | (with_reducible first | exact HB.out | apply below_alloc | apply pw_below_drewN | apply below_drew1) | exact HB.out)⟩⟩
  case round =>
    clear H'
    try clear c1
    obtain ⟨x3_1, x4_1, rfl, rfl, HA, HK1, HB⟩ := hrel
    cases gk with
    | zero => exact absurd HA.out (by simp [laws_refSpecial.l0])
    | succ k1 =>
      have H := HA.out
      clear HA
      simp only [laws_refSpecial.l0] at H
      by_cases c2 : x4_1 < (a0.size : Int)
      · rw [if_pos c2] at H
        have c2b0 : decide (x4_1 < (a0.size : Int)) = true := decide_eq_true c2
        clear c2
        by_cases c3 : 0 ≤ x4_1
        · rw [if_pos c3] at H
          have c3b0 : decide (0 ≤ x4_1) = true := decide_eq_true c3
          clear c3
          by_cases c5 : (bt a0 x4_1) ≥ 65
          · rw [if_pos c5] at H
            have c5b0 : decide (65 ≤ (bt a0 x4_1)) = true := decide_eq_true c5
            clear c5
            by_cases c6 : (bt a0 x4_1) ≤ 90
            · rw [if_pos c6] at H
              have c6b0 : decide ((bt a0 x4_1) ≤ 90) = true := decide_eq_true c6
              clear c6
              obtain ⟨y130, hy130⟩ : ∃ y_ : List Int, y_ = (([((bt a0 x4_1) + 32) % 256] : List Int)) := ⟨_, rfl⟩
              replace H : (if x3_1.size + (strOfNums y130).size ≤ 9223372036854775807 then (laws_refSpecial.l0 k1 a0 (x3_1 ++ (strOfNums y130)) (wrap64 (x4_1 + 1))) else (none)) = some r := by first | (rw [hy130]; with_reducible exact H) | (have H2_ := (Option.bind_some _ _).symm.trans H; rw [hy130]; with_reducible exact H2_) | (have H2_ := (Option.bind_some _ _).symm.trans H; with_reducible exact H2_) | with_reducible exact H | (rw [hy130]; exact H) | exact H
              have Ny130 := Aside0.mk hy130
              clear hy130
              by_cases c7 : x3_1.size + (strOfNums y130).size ≤ 9223372036854775807
              · rw [if_pos c7] at H
                have c7b0 := eq_true c7
                have c7b1 : decide (x3_1.size + (strOfNums y130).size ≤ 9223372036854775807) = true := decide_eq_true c7
                try have c7b2 : (9223372036854775807 < x3_1.size + (strOfNums y130).size) = False := eq_false (Nat.not_lt.2 c7)
                have c7z := c7
                (try simp only [ByteArray.size_append, show ∀ x_ : UInt8, (⟨#[x_]⟩ : ByteArray).size = 1 from fun _ => rfl] at c7z)
                have H' := Aside0.mk H
                clear H
                have p4 : 0 ≤ (x4_1 : Int) := of_decide_eq_true (by first | (with_reducible assumption) | assumption)
                have q4 : x4_1 < (a0.size : Int) := of_decide_eq_true (by first | (with_reducible assumption) | assumption)
                have hx4 := bt_at a0 x4_1
                replace p4 := eq_true p4
                replace q4 := eq_true q4
                go_wp2_with (first | ((with_reducible refine gate_dst (N := 25) rfl ?_); refine Kd.R_lit (Kd.int .u8) _ 5 ?hg (N := 25) ?hd (xs := ([((bt a0 x4_1) + 32) % 256] : List Int)) (inner := [.int .u8 (((bt a0 x4_1) + 32) % 256)]) (ok := fun _ => True) (okp := fun _ => True) ?hr ?hp (fun _ hk => hk) trivial (Below.refl _ _) (Nat.le_refl _) (by simp) ?_; (case hd => rfl); (case hg => rfl); (case hr => first | (go_simp; done) | (go_simp; rfl)); (case hp => exact (Reps.one (show Kd.M (Kd.int .u8) _ _ _ (((bt a0 x4_1) + 32) % 256) [.int .u8 (((bt a0 x4_1) + 32) % 256)] from rfl) (Reps.none _ _))); intro v131 w8 ho9 hb hg_ hnew_; clear hg_ hnew_; (first | rw [← Ny130.out] at ho9 | (simp only [Int.reduceToNat] at ho9; rw [← Ny130.out] at ho9)); have n0_ := Aside0.mk (Kd.R_lower ho9 (below_size (by repeat (first | (with_reducible first | exact HB.out | apply below_alloc | apply pw_below_drewN | apply below_drew1) | exact HB.out)))); have n1_ := Aside0.mk (below_step (by repeat (first | (with_reducible first | exact HB.out | apply below_alloc | apply pw_below_drewN | apply below_drew1) | exact HB.out)) hb); clear HB; have HO132 := n0_; have HB := n1_; clear n0_ n1_; clear hb ho9; have hcv10 := own_string (P := Tryd.prog) Tryd.underlying32 Tryd.underlying5 Tryd.underlying9 (Kd.own_of_R HO132.out)))
                go_roundg k1
                case measure => have := HK1.out; omega
                case rel => exact ⟨(x3_1 ++ (strOfNums y130)), (wrap64 (x4_1 + 1)), (by first | rfl | (simp; done) | (simp [*]; done)), (by first | rfl | (simp; done) | (simp [*]; done)), H', ⟨by have := HK1.out; omega⟩, ⟨by repeat (first | (with_reducible first | exact HB.out | apply below_alloc | apply pw_below_drewN | apply below_drew1) | exact HB.out)⟩⟩
              · rw [if_neg c7] at H
                exact absurd H (by simp)
            · rw [if_neg c6] at H
              have c6b0 : decide ((bt a0 x4_1) ≤ 90) = false := decide_eq_false c6
              clear c6
              obtain ⟨y133, hy133⟩ : ∃ y_ : List Int, y_ = (([bt a0 x4_1] : List Int)) := ⟨_, rfl⟩
              replace H : (if x3_1.size + (strOfNums y133).size ≤ 9223372036854775807 then (laws_refSpecial.l0 k1 a0 (x3_1 ++ (strOfNums y133)) (wrap64 (x4_1 + 1))) else (none)) = some r := by first | (rw [hy133]; with_reducible exact H) | (have H2_ := (Option.bind_some _ _).symm.trans H; rw [hy133]; with_reducible exact H2_) | (have H2_ := (Option.bind_some _ _).symm.trans H; with_reducible exact H2_) | with_reducible exact H | (rw [hy133]; exact H) | exact H
              have Ny133 := Aside0.mk hy133
              clear hy133
              by_cases c11 : x3_1.size + (strOfNums y133).size ≤ 9223372036854775807
              · rw [if_pos c11] at H
                have c11b0 := eq_true c11
                have c11b1 : decide (x3_1.size + (strOfNums y133).size ≤ 9223372036854775807) = true := decide_eq_true c11
                try have c11b2 : (9223372036854775807 < x3_1.size + (strOfNums y133).size) = False := eq_false (Nat.not_lt.2 c11)
                have c11z := c11
                (try simp only [ByteArray.size_append, show ∀ x_ : UInt8, (⟨#[x_]⟩ : ByteArray).size = 1 from fun _ => rfl] at c11z)
                have H' := Aside0.mk H
                clear H
                have p4 : 0 ≤ (x4_1 : Int) := of_decide_eq_true (by first | (with_reducible assumption) | assumption)
                have q4 : x4_1 < (a0.size : Int) := of_decide_eq_true (by first | (with_reducible assumption) | assumption)
                have hx4 := bt_at a0 x4_1
                replace p4 := eq_true p4
                replace q4 := eq_true q4
                go_wp2_with (first | ((with_reducible refine gate_dst (N := 25) rfl ?_); refine Kd.R_lit (Kd.int .u8) _ 5 ?hg (N := 25) ?hd (xs := ([bt a0 x4_1] : List Int)) (inner := [.int .u8 (bt a0 x4_1)]) (ok := fun _ => True) (okp := fun _ => True) ?hr ?hp (fun _ hk => hk) trivial (Below.refl _ _) (Nat.le_refl _) (by simp) ?_; (case hd => rfl); (case hg => rfl); (case hr => first | (go_simp; done) | (go_simp; rfl)); (case hp => exact (Reps.one (show Kd.M (Kd.int .u8) _ _ _ (bt a0 x4_1) [.int .u8 (bt a0 x4_1)] from rfl) (Reps.none _ _))); intro v134 w12 ho13 hb hg_ hnew_; clear hg_ hnew_; (first | rw [← Ny133.out] at ho13 | (simp only [Int.reduceToNat] at ho13; rw [← Ny133.out] at ho13)); have n0_ := Aside0.mk (Kd.R_lower ho13 (below_size (by repeat (first | (with_reducible first | exact HB.out | apply below_alloc | apply pw_below_drewN | apply below_drew1) | exact HB.out)))); have n1_ := Aside0.mk (below_step (by repeat (first | (with_reducible first | exact HB.out | apply below_alloc | apply pw_below_drewN | apply below_drew1) | exact HB.out)) hb); clear HB; have HO135 := n0_; have HB := n1_; clear n0_ n1_; clear hb ho13; have hcv14 := own_string (P := Tryd.prog) Tryd.underlying32 Tryd.underlying5 Tryd.underlying9 (Kd.own_of_R HO135.out)))
                go_roundg k1
                case measure => have := HK1.out; omega
                case rel => exact ⟨(x3_1 ++ (strOfNums y133)), (wrap64 (x4_1 + 1)), (by first | rfl | (simp; done) | (simp [*]; done)), (by first | rfl | (simp; done) | (simp [*]; done)), H', ⟨by have := HK1.out; omega⟩, ⟨by repeat (first | (with_reducible first | exact HB.out | apply below_alloc | apply pw_below_drewN | apply below_drew1) | exact HB.out)⟩⟩
              · rw [if_neg c11] at H
                exact absurd H (by simp)
          · rw [if_neg c5] at H
            have c5b0 : decide (65 ≤ (bt a0 x4_1)) = false := decide_eq_false c5
            clear c5
            obtain ⟨y136, hy136⟩ : ∃ y_ : List Int, y_ = (([bt a0 x4_1] : List Int)) := ⟨_, rfl⟩
            replace H : (if x3_1.size + (strOfNums y136).size ≤ 9223372036854775807 then (laws_refSpecial.l0 k1 a0 (x3_1 ++ (strOfNums y136)) (wrap64 (x4_1 + 1))) else (none)) = some r := by first | (rw [hy136]; with_reducible exact H) | (have H2_ := (Option.bind_some _ _).symm.trans H; rw [hy136]; with_reducible exact H2_) | (have H2_ := (Option.bind_some _ _).symm.trans H; with_reducible exact H2_) | with_reducible exact H | (rw [hy136]; exact H) | exact H
            have Ny136 := Aside0.mk hy136
            clear hy136
            by_cases c15 : x3_1.size + (strOfNums y136).size ≤ 9223372036854775807
            · rw [if_pos c15] at H
              have c15b0 := eq_true c15
              have c15b1 : decide (x3_1.size + (strOfNums y136).size ≤ 9223372036854775807) = true := decide_eq_true c15
              try have c15b2 : (9223372036854775807 < x3_1.size + (strOfNums y136).size) = False := eq_false (Nat.not_lt.2 c15)
              have c15z := c15
              (try simp only [ByteArray.size_append, show ∀ x_ : UInt8, (⟨#[x_]⟩ : ByteArray).size = 1 from fun _ => rfl] at c15z)
              have H' := Aside0.mk H
              clear H
              have p4 : 0 ≤ (x4_1 : Int) := of_decide_eq_true (by first | (with_reducible assumption) | assumption)
              have q4 : x4_1 < (a0.size : Int) := of_decide_eq_true (by first | (with_reducible assumption) | assumption)
              have hx4 := bt_at a0 x4_1
              replace p4 := eq_true p4
              replace q4 := eq_true q4
              go_wp2_with (first | ((with_reducible refine gate_dst (N := 25) rfl ?_); refine Kd.R_lit (Kd.int .u8) _ 5 ?hg (N := 25) ?hd (xs := ([bt a0 x4_1] : List Int)) (inner := [.int .u8 (bt a0 x4_1)]) (ok := fun _ => True) (okp := fun _ => True) ?hr ?hp (fun _ hk => hk) trivial (Below.refl _ _) (Nat.le_refl _) (by simp) ?_; (case hd => rfl); (case hg => rfl); (case hr => first | (go_simp; done) | (go_simp; rfl)); (case hp => exact (Reps.one (show Kd.M (Kd.int .u8) _ _ _ (bt a0 x4_1) [.int .u8 (bt a0 x4_1)] from rfl) (Reps.none _ _))); intro v137 w16 ho17 hb hg_ hnew_; clear hg_ hnew_; (first | rw [← Ny136.out] at ho17 | (simp only [Int.reduceToNat] at ho17; rw [← Ny136.out] at ho17)); have n0_ := Aside0.mk (Kd.R_lower ho17 (below_size (by repeat (first | (with_reducible first | exact HB.out | apply below_alloc | apply pw_below_drewN | apply below_drew1) | exact HB.out)))); have n1_ := Aside0.mk (below_step (by repeat (first | (with_reducible first | exact HB.out | apply below_alloc | apply pw_below_drewN | apply below_drew1) | exact HB.out)) hb); clear HB; have HO138 := n0_; have HB := n1_; clear n0_ n1_; clear hb ho17; have hcv18 := own_string (P := Tryd.prog) Tryd.underlying32 Tryd.underlying5 Tryd.underlying9 (Kd.own_of_R HO138.out)))
              go_roundg k1
              case measure => have := HK1.out; omega
              case rel => exact ⟨(x3_1 ++ (strOfNums y136)), (wrap64 (x4_1 + 1)), (by first | rfl | (simp; done) | (simp [*]; done)), (by first | rfl | (simp; done) | (simp [*]; done)), H', ⟨by have := HK1.out; omega⟩, ⟨by repeat (first | (with_reducible first | exact HB.out | apply below_alloc | apply pw_below_drewN | apply below_drew1) | exact HB.out)⟩⟩
            · rw [if_neg c15] at H
              exact absurd H (by simp)
        · rw [if_neg c3] at H
          exact absurd H (by simp)
      · rw [if_neg c2] at H
        have c2b0 : decide (x4_1 < (a0.size : Int)) = false := decide_eq_false c2
        clear c2
        by_cases c19 : x3_1.toList = ([98, 108, 97, 110, 107, 115] : List UInt8)
        · rw [if_pos c19] at H
          have c19b0 : (x3_1.toList == ([98, 108, 97, 110, 107, 115] : List UInt8)) = true := beq_iff_eq.mpr c19
          have c19b1 : (x3_1.toList != ([98, 108, 97, 110, 107, 115] : List UInt8)) = false := bne_eq_false_iff_eq.mpr c19
          clear c19
          obtain rfl := Option.some.inj H
          go_wp2
          go_ret
          exact ⟨by first | rfl | (simp [errW_none, errW_some] <;> rfl) | (simp [*, errW_none, errW_some] <;> rfl), by repeat (first | (with_reducible first | exact HB.out | apply below_alloc | apply pw_below_drewN | apply below_drew1) | exact HB.out)⟩
        · rw [if_neg c19] at H
          have c19b0 : (x3_1.toList == ([98, 108, 97, 110, 107, 115] : List UInt8)) = false := beq_eq_false_iff_ne.mpr c19
          have c19b1 : (x3_1.toList != ([98, 108, 97, 110, 107, 115] : List UInt8)) = true := bne_iff_ne.mpr c19
          by_cases c20 : x3_1.toList = ([110, 111, 110, 98, 108, 97, 110, 107, 115] : List UInt8)
          · rw [if_pos c20] at H
            have c20b0 : (x3_1.toList == ([110, 111, 110, 98, 108, 97, 110, 107, 115] : List UInt8)) = true := beq_iff_eq.mpr c20
            have c20b1 : (x3_1.toList != ([110, 111, 110, 98, 108, 97, 110, 107, 115] : List UInt8)) = false := bne_eq_false_iff_eq.mpr c20
            clear c20
            obtain rfl := Option.some.inj H
            go_wp2
            go_ret
            exact ⟨by first | rfl | (simp [errW_none, errW_some] <;> rfl) | (simp [*, errW_none, errW_some] <;> rfl), by repeat (first | (with_reducible first | exact HB.out | apply below_alloc | apply pw_below_drewN | apply below_drew1) | exact HB.out)⟩
          · rw [if_neg c20] at H
            have c20b0 : (x3_1.toList == ([110, 111, 110, 98, 108, 97, 110, 107, 115] : List UInt8)) = false := beq_eq_false_iff_ne.mpr c20
            have c20b1 : (x3_1.toList != ([110, 111, 110, 98, 108, 97, 110, 107, 115] : List UInt8)) = true := bne_iff_ne.mpr c20
            by_cases c21 : x3_1.toList = ([116, 111, 112] : List UInt8)
            · rw [if_pos c21] at H
              have c21b0 : (x3_1.toList == ([116, 111, 112] : List UInt8)) = true := beq_iff_eq.mpr c21
              have c21b1 : (x3_1.toList != ([116, 111, 112] : List UInt8)) = false := bne_eq_false_iff_eq.mpr c21
              clear c21
              obtain rfl := Option.some.inj H
              go_wp2
              go_ret
              exact ⟨by first | rfl | (simp [errW_none, errW_some] <;> rfl) | (simp [*, errW_none, errW_some] <;> rfl), by repeat (first | (with_reducible first | exact HB.out | apply below_alloc | apply pw_below_drewN | apply below_drew1) | exact HB.out)⟩
            · rw [if_neg c21] at H
              have c21b0 : (x3_1.toList == ([116, 111, 112] : List UInt8)) = false := beq_eq_false_iff_ne.mpr c21
              have c21b1 : (x3_1.toList != ([116, 111, 112] : List UInt8)) = true := bne_iff_ne.mpr c21
              obtain rfl := Option.some.inj H
              go_wp2
              go_ret
              exact ⟨by first | rfl | (simp [errW_none, errW_some] <;> rfl) | (simp [*, errW_none, errW_some] <;> rfl), by repeat (first | (with_reducible first | exact HB.out | apply below_alloc | apply pw_below_drewN | apply below_drew1) | exact HB.out)⟩

end Go.Proofs.YtjefbpfpobgmaaaDoor.PFx
