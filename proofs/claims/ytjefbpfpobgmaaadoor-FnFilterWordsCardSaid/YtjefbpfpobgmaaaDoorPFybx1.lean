/- Contracts of functions that the text "Fyb" uses: the call ends in what the plain Lean function says, where that says something. Written by a program of this session. No conditions. -/
import Derived.Test.YtjefbpfpobgmaaaDoorPFybx0
namespace Go.Proofs.YtjefbpfpobgmaaaDoor.PFyb
open Go.RowKit Go.Proofs.YtjefbpfpobgmaaaDoorW.PrintWords Go.Proofs.YtjefbpfpobgmaaaDoorW.PrintLast Go.Proofs.YtjefbpfpobgmaaaDoorW.PrintMore
attribute [local go_sem] max2_int min2_int max_two min_two max_three min_three max_four min_four   -- for this text's walks alone
set_option linter.unusedVariables false
set_option linter.unusedSimpArgs false

/-! ### laws_FnFilterWords: function 5 -/
mutual
def laws_FnFilterWords.j0 : Nat → Int → Int → ByteArray → ByteArray → Bool → Bool → Bool → Option (Bool)
  | 0, _, _, _, _, _, _, _ => none
  | k + 1, x0, x1, x2, x3, x4, x5, x31 => if x31 = true then (some true) else ((some (([(⟨#[61]⟩ : ByteArray), (⟨#[61, 61]⟩ : ByteArray), (⟨#[101, 113]⟩ : ByteArray)] : List ByteArray) : List ByteArray)).bind fun y101 => ((Go.Proofs.YtjefbpfpobgmaaaDoor.PFx.laws_gridNumber.f x0 2).bind fun t104 => ((Go.Proofs.YtjefbpfpobgmaaaDoor.PFx.laws_gridNumber.f x1 3).bind fun t105 => (if 0 ≤ (wrap64 (t105 - 1)) then (if (wrap64 (t105 - 1)) < (y101.length : Int) then ((Go.Proofs.YtjefbpfpobgmaaaDoor.PFx.laws_refLetters.f k x2).bind fun t107 => ((Go.Proofs.YtjefbpfpobgmaaaDoor.PFx.laws_refLetters.f k x3).bind fun t108 => ((Go.Proofs.YtjefbpfpobgmaaaDoor.PFx.laws_refFilter.f k (([(⟨#[120]⟩ : ByteArray), (⟨#[61, 61]⟩ : ByteArray), (⟨#[97]⟩ : ByteArray)] : List ByteArray))).bind fun bt112 => (if bt112.2 = true then (if bt112.1.toList = ([] : List UInt8) then (none) else ((Go.Proofs.YtjefbpfpobgmaaaDoor.PFx.laws_refSpecial.f k t107).bind fun t114 => (if t114 = true then (laws_FnFilterWords.j1 k x1 t107 t108 x4 x5 y101 (rdOf ByteArray.empty y101 (wrap64 (t105 - 1))) bt112.1 bt112.2 true) else ((Go.Proofs.YtjefbpfpobgmaaaDoor.PFx.laws_refSpecial.f k t108).bind fun t115 => (laws_FnFilterWords.j1 k x1 t107 t108 x4 x5 y101 (rdOf ByteArray.empty y101 (wrap64 (t105 - 1))) bt112.1 bt112.2 t115))))) else (laws_FnFilterWords.j1 k x1 t107 t108 x4 x5 y101 (rdOf ByteArray.empty y101 (wrap64 (t105 - 1))) bt112.1 bt112.2 true))))) else (none)) else (none)))))
def laws_FnFilterWords.j1 : Nat → Int → ByteArray → ByteArray → Bool → Bool → List ByteArray → ByteArray → ByteArray → Bool → Bool → Option (Bool)
  | 0, _, _, _, _, _, _, _, _, _, _ => none
  | k + 1, x1, x2, x3, x4, x5, x13, x14, x15, x16, x68 => if x68 = true then (if x16 = true then (some (x15.toList != ([] : List UInt8))) else (some false)) else (if 0 < (x13.length : Int) then ((some (([(⟨#[120]⟩ : ByteArray), rdOf ByteArray.empty x13 0, x2] : List ByteArray) : List ByteArray)).bind fun y117 => ((some (([(⟨#[120]⟩ : ByteArray), x14, x2] : List ByteArray) : List ByteArray)).bind fun y120 => (if x4 = true then ((some (([(⟨#[111, 114]⟩ : ByteArray), (⟨#[124, 124]⟩ : ByteArray)] : List ByteArray) : List ByteArray)).bind fun y123 => ((Go.Proofs.YtjefbpfpobgmaaaDoor.PFx.laws_gridNumber.f (wrap64 (Int.tdiv x1 7)) 2).bind fun t126 => (if x5 = true then ((some (([(⟨#[111, 114]⟩ : ByteArray), (⟨#[124, 124]⟩ : ByteArray)] : List ByteArray) : List ByteArray)).bind fun y127 => (if 0 < (y127.length : Int) then ((some (([rdOf ByteArray.empty y127 0, (⟨#[120]⟩ : ByteArray), rdOf ByteArray.empty x13 0, x3] : List ByteArray) : List ByteArray)).bind fun y132 => (if y117.length + y132.length < 8796093022208 then (if 1 < (y127.length : Int) then ((some (([rdOf ByteArray.empty y127 1, (⟨#[120]⟩ : ByteArray), x14, x3] : List ByteArray) : List ByteArray)).bind fun y139 => (if y120.length + y139.length < 8796093022208 then ((Go.Proofs.YtjefbpfpobgmaaaDoor.PFx.laws_refFilter.f k (y117 ++ y132)).bind fun bt145 => ((Go.Proofs.YtjefbpfpobgmaaaDoor.PFx.laws_refFilter.f k (y120 ++ y139)).bind fun bt147 => (if bt145.2 = true then (if bt147.2 = true then (some (bt145.1.toList == bt147.1.toList)) else (none)) else (none)))) else (none))) else (none)) else (none))) else (none))) else (if 0 < (y123.length : Int) then ((some (([rdOf ByteArray.empty y123 0, (⟨#[120]⟩ : ByteArray), rdOf ByteArray.empty x13 0, x3] : List ByteArray) : List ByteArray)).bind fun y151 => (if y117.length + y151.length < 8796093022208 then (if 1 < (y123.length : Int) then ((some (([rdOf ByteArray.empty y123 1, (⟨#[120]⟩ : ByteArray), x14, x3] : List ByteArray) : List ByteArray)).bind fun y158 => (if y120.length + y158.length < 8796093022208 then ((Go.Proofs.YtjefbpfpobgmaaaDoor.PFx.laws_refFilter.f k (y117 ++ y151)).bind fun bt164 => ((Go.Proofs.YtjefbpfpobgmaaaDoor.PFx.laws_refFilter.f k (y120 ++ y158)).bind fun bt166 => (if bt164.2 = true then (if bt166.2 = true then (some (bt164.1.toList == bt166.1.toList)) else (none)) else (none)))) else (none))) else (none)) else (none))) else (none))))) else ((Go.Proofs.YtjefbpfpobgmaaaDoor.PFx.laws_refFilter.f k y117).bind fun bt168 => ((Go.Proofs.YtjefbpfpobgmaaaDoor.PFx.laws_refFilter.f k y120).bind fun bt170 => (if bt168.2 = true then (if bt170.2 = true then (some (bt168.1.toList == bt170.1.toList)) else (none)) else (none))))))) else (none))
end
def laws_FnFilterWords.f (k : Nat) (a0 : Int) (a1 : Int) (a2 : ByteArray) (a3 : ByteArray) (a4 : Bool) (a5 : Bool) : Option (Bool) := if (a2.size : Int) > 2147483647 then (laws_FnFilterWords.j0 k a0 a1 a2 a3 a4 a5 true) else (laws_FnFilterWords.j0 k a0 a1 a2 a3 a4 a5 (decide ((a3.size : Int) > 2147483647)))
theorem laws_FnFilterWords.mono_l : ∀ k, (∀ y0 y1 y2 y3 y4 y5 y6, LeO (laws_FnFilterWords.j0 k y0 y1 y2 y3 y4 y5 y6) (laws_FnFilterWords.j0 (k + 1) y0 y1 y2 y3 y4 y5 y6)) ∧ (∀ y0 y1 y2 y3 y4 y5 y6 y7 y8 y9, LeO (laws_FnFilterWords.j1 k y0 y1 y2 y3 y4 y5 y6 y7 y8 y9) (laws_FnFilterWords.j1 (k + 1) y0 y1 y2 y3 y4 y5 y6 y7 y8 y9))
  | 0 => ⟨fun _ _ _ _ _ _ _ r h => by simp [laws_FnFilterWords.j0] at h, fun _ _ _ _ _ _ _ _ _ _ r h => by simp [laws_FnFilterWords.j1] at h⟩
  | k + 1 => by
    obtain ⟨ih0, ih1⟩ := laws_FnFilterWords.mono_l k
    refine ⟨?_, ?_⟩
    · intro y0 y1 y2 y3 y4 y5 y6
      unfold laws_FnFilterWords.j0
      repeat' first
      | (with_reducible exact ih0 _ _ _ _ _ _ _)
      | (with_reducible exact ih1 _ _ _ _ _ _ _ _ _ _)
      | (with_reducible exact Go.Proofs.YtjefbpfpobgmaaaDoor.PFx.laws_refFilter.mono _ _)
      | (with_reducible exact Go.Proofs.YtjefbpfpobgmaaaDoor.PFx.laws_refLetters.mono _ _)
      | (with_reducible exact Go.Proofs.YtjefbpfpobgmaaaDoor.PFx.laws_refSpecial.mono _ _)
      | (with_reducible exact LeO.refl _)
      | (with_reducible exact LeO.none _)
      | (with_reducible refine LeO.ite ?_ ?_)
      | (with_reducible refine LeO.bind ?_ (fun _ => ?_))
      | exact ih0 _ _ _ _ _ _ _
      | exact ih1 _ _ _ _ _ _ _ _ _ _
      | exact Go.Proofs.YtjefbpfpobgmaaaDoor.PFx.laws_refFilter.mono _ _
      | exact Go.Proofs.YtjefbpfpobgmaaaDoor.PFx.laws_refLetters.mono _ _
      | exact Go.Proofs.YtjefbpfpobgmaaaDoor.PFx.laws_refSpecial.mono _ _
      | exact LeO.none _
      | refine LeO.ite ?_ ?_
      | refine LeO.bind ?_ (fun _ => ?_)
    · intro y0 y1 y2 y3 y4 y5 y6 y7 y8 y9
      unfold laws_FnFilterWords.j1
      repeat' first
      | (with_reducible exact ih0 _ _ _ _ _ _ _)
      | (with_reducible exact ih1 _ _ _ _ _ _ _ _ _ _)
      | (with_reducible exact Go.Proofs.YtjefbpfpobgmaaaDoor.PFx.laws_refFilter.mono _ _)
      | (with_reducible exact Go.Proofs.YtjefbpfpobgmaaaDoor.PFx.laws_refLetters.mono _ _)
      | (with_reducible exact Go.Proofs.YtjefbpfpobgmaaaDoor.PFx.laws_refSpecial.mono _ _)
      | (with_reducible exact LeO.refl _)
      | (with_reducible exact LeO.none _)
      | (with_reducible refine LeO.ite ?_ ?_)
      | (with_reducible refine LeO.bind ?_ (fun _ => ?_))
      | exact ih0 _ _ _ _ _ _ _
      | exact ih1 _ _ _ _ _ _ _ _ _ _
      | exact Go.Proofs.YtjefbpfpobgmaaaDoor.PFx.laws_refFilter.mono _ _
      | exact Go.Proofs.YtjefbpfpobgmaaaDoor.PFx.laws_refLetters.mono _ _
      | exact Go.Proofs.YtjefbpfpobgmaaaDoor.PFx.laws_refSpecial.mono _ _
      | exact LeO.none _
      | refine LeO.ite ?_ ?_
      | refine LeO.bind ?_ (fun _ => ?_)
theorem laws_FnFilterWords.mono : ∀ a0 a1 a2 a3 a4 a5 k, LeO (laws_FnFilterWords.f k a0 a1 a2 a3 a4 a5) (laws_FnFilterWords.f (k + 1) a0 a1 a2 a3 a4 a5) := by
  intro a0 a1 a2 a3 a4 a5 k
  obtain ⟨ih0, ih1⟩ := laws_FnFilterWords.mono_l k
  unfold laws_FnFilterWords.f
  repeat' first
      | (with_reducible exact ih0 _ _ _ _ _ _ _)
      | (with_reducible exact ih1 _ _ _ _ _ _ _ _ _ _)
      | (with_reducible exact Go.Proofs.YtjefbpfpobgmaaaDoor.PFx.laws_refFilter.mono _ _)
      | (with_reducible exact Go.Proofs.YtjefbpfpobgmaaaDoor.PFx.laws_refLetters.mono _ _)
      | (with_reducible exact Go.Proofs.YtjefbpfpobgmaaaDoor.PFx.laws_refSpecial.mono _ _)
      | (with_reducible exact LeO.refl _)
      | (with_reducible exact LeO.none _)
      | (with_reducible refine LeO.ite ?_ ?_)
      | (with_reducible refine LeO.bind ?_ (fun _ => ?_))
      | exact ih0 _ _ _ _ _ _ _
      | exact ih1 _ _ _ _ _ _ _ _ _ _
      | exact Go.Proofs.YtjefbpfpobgmaaaDoor.PFx.laws_refFilter.mono _ _
      | exact Go.Proofs.YtjefbpfpobgmaaaDoor.PFx.laws_refLetters.mono _ _
      | exact Go.Proofs.YtjefbpfpobgmaaaDoor.PFx.laws_refSpecial.mono _ _
      | exact LeO.none _
      | refine LeO.ite ?_ ?_
      | refine LeO.bind ?_ (fun _ => ?_)
def laws_FnFilterWords.T15 : Bool × List (List Nat × List Nat) := (true, [([], []), ([], []), ([1], [1]), ([2], [2]), ([], []), ([4], [4]), ([5], [5]), ([], []), ([3, 6, 7], [3, 6, 7]), ([0, 8], [0, 8]), ([9, 9, 0, 1, 2, 3, 4, 5, 6, 7, 8, 9], [0, 9])])
def laws_FnFilterWords.B15 : List Nat := [0, 0, 2, 6, 0, 16, 48, 0, 254, 511, 1023]
theorem laws_FnFilterWords.tab15 : rtab .any (opsOf Tryd.f5 15) = laws_FnFilterWords.T15 := by kernel_rfl
theorem laws_FnFilterWords.bits15 : waitsOk laws_FnFilterWords.T15.2 laws_FnFilterWords.B15 = true := by kernel_rfl
set_option maxHeartbeats 8000000 in
set_option maxRecDepth 100000 in
theorem laws_FnFilterWords.calls (k : Nat) (a0 : Int) (a1 : Int) (a2 : ByteArray) (a3 : ByteArray) (a4 : Bool) (a5 : Bool) (r : Bool) (w : World) (hk : Go.Proofs.YtjefbpfpobgmaaaDoor.PFx.laws_gridNumber.f a0 2 = some 1) (hl : Go.Proofs.YtjefbpfpobgmaaaDoor.PFx.laws_gridNumber.f (wrap64 (Int.tdiv a1 7)) 2 = some 2) (h : laws_FnFilterWords.f k a0 a1 a2 a3 a4 a5 = some r) :
    Calls Tryd.prog 5 #[.int .i64 a0, .int .i64 a1, .string a2, .string a3, .bool a4, .bool a5] w fun e w' => e = .returned (.bool r) ∧ Below w.heap.size w w' := by
  have HB := Aside0.mk (Below.refl w.heap.size w)
  have HK := Aside0.mk hk
  have HLK := Aside0.mk hl
  clear hk hl
  have H : (if (a2.size : Int) > 2147483647 then (laws_FnFilterWords.j0 k a0 a1 a2 a3 a4 a5 true) else (laws_FnFilterWords.j0 k a0 a1 a2 a3 a4 a5 (decide ((a3.size : Int) > 2147483647)))) = some r := h
  clear h
  have HC7 := Aside0.mk H
  clear H
  go_enter Tryd.func5, Tryd.ntmps5
  go_upto_region 1 with (fail)
  go_cut [31] (fun v31 wc => ∃ (kq : Nat) (x31_6 : Bool), v31 = .bool x31_6 ∧ Aside0 (laws_FnFilterWords.j0 kq a0 a1 a2 a3 a4 a5 x31_6 = some r) ∧ Aside0 (kq ≤ k) ∧ Aside0 (Below w.heap.size w wc))
  case first =>
    have H := HC7.out
    clear HC7
    by_cases c8 : (a2.size : Int) > 2147483647
    · rw [if_pos c8] at H
      have c8b0 : decide (2147483647 < (a2.size : Int)) = true := decide_eq_true c8
      have c8b1 : decide (2147483647 < a2.size) = true := decide_eq_true (by omega)
      clear c8
      (first | rw [c8b0] | (simp only [i64_w, i32_w]; rw [c8b0]) | skip)
      have H' := Aside0.mk H
      clear H
      go_wp2
      go_meet
      case rel => exact ⟨_, (true), (by first | rfl | (simp; done) | (simp [*]; done)), H', ⟨by first | omega | exact Nat.le_refl _⟩, ⟨by repeat (first | (with_reducible first | exact HB.out | apply below_alloc | apply pw_below_drewN | apply below_drew1) | exact HB.out)⟩⟩
    · rw [if_neg c8] at H
      have c8b0 : decide (2147483647 < (a2.size : Int)) = false := decide_eq_false c8
      have c8b1 : decide (2147483647 < a2.size) = false := decide_eq_false (by omega)
      clear c8
      (first | rw [c8b0] | (simp only [i64_w, i32_w]; rw [c8b0]) | skip)
      have H' := Aside0.mk H
      clear H
      go_wp2
      go_meet
      case rel => exact ⟨_, (decide ((a3.size : Int) > 2147483647)), (by first | rfl | (simp; done) | (simp [*]; done)), H', ⟨by first | omega | exact Nat.le_refl _⟩, ⟨by repeat (first | (with_reducible first | exact HB.out | apply below_alloc | apply pw_below_drewN | apply below_drew1) | exact HB.out)⟩⟩
  case rest =>
    clear HC7
    try clear p2
    try clear c5
    try clear c8
    try clear c8b0
    try clear c8b1
    obtain ⟨kq, x31_6, rfl, HA, HJ6, HB⟩ := hcut
    cases kq with
    | zero => exact absurd HA.out (by simp [laws_FnFilterWords.j0])
    | succ kj6 =>
      have H := HA.out
      clear HA
      simp only [laws_FnFilterWords.j0] at H
      by_cases c9 : x31_6 = true
      · subst c9
        have H1 : (some true) = some r := by rw [if_pos rfl] at H; exact H
        clear H
        have H := H1
        clear H1
        obtain rfl := Option.some.inj H
        go_wp2
        go_ret
        exact ⟨by first | rfl | (simp [errW_none, errW_some] <;> rfl) | (generalize ByteArray.toList _ = l_; cases l_ <;> first | rfl | (simp; done)) | (simp [*, errW_none, errW_some] <;> rfl), by repeat (first | (with_reducible first | exact HB.out | apply below_alloc | apply pw_below_drewN | apply below_drew1) | exact HB.out)⟩
      · replace c9 := Bool.eq_false_iff.mpr c9
        subst c9
        have H1 : ((some (([(⟨#[61]⟩ : ByteArray), (⟨#[61, 61]⟩ : ByteArray), (⟨#[101, 113]⟩ : ByteArray)] : List ByteArray) : List ByteArray)).bind fun y101 => ((Go.Proofs.YtjefbpfpobgmaaaDoor.PFx.laws_gridNumber.f a0 2).bind fun t104 => ((Go.Proofs.YtjefbpfpobgmaaaDoor.PFx.laws_gridNumber.f a1 3).bind fun t105 => (if 0 ≤ (wrap64 (t105 - 1)) then (if (wrap64 (t105 - 1)) < (y101.length : Int) then ((Go.Proofs.YtjefbpfpobgmaaaDoor.PFx.laws_refLetters.f kj6 a2).bind fun t107 => ((Go.Proofs.YtjefbpfpobgmaaaDoor.PFx.laws_refLetters.f kj6 a3).bind fun t108 => ((Go.Proofs.YtjefbpfpobgmaaaDoor.PFx.laws_refFilter.f kj6 (([(⟨#[120]⟩ : ByteArray), (⟨#[61, 61]⟩ : ByteArray), (⟨#[97]⟩ : ByteArray)] : List ByteArray))).bind fun bt112 => (if bt112.2 = true then (if bt112.1.toList = ([] : List UInt8) then (none) else ((Go.Proofs.YtjefbpfpobgmaaaDoor.PFx.laws_refSpecial.f kj6 t107).bind fun t114 => (if t114 = true then (laws_FnFilterWords.j1 kj6 a1 t107 t108 a4 a5 y101 (rdOf ByteArray.empty y101 (wrap64 (t105 - 1))) bt112.1 bt112.2 true) else ((Go.Proofs.YtjefbpfpobgmaaaDoor.PFx.laws_refSpecial.f kj6 t108).bind fun t115 => (laws_FnFilterWords.j1 kj6 a1 t107 t108 a4 a5 y101 (rdOf ByteArray.empty y101 (wrap64 (t105 - 1))) bt112.1 bt112.2 t115))))) else (laws_FnFilterWords.j1 kj6 a1 t107 t108 a4 a5 y101 (rdOf ByteArray.empty y101 (wrap64 (t105 - 1))) bt112.1 bt112.2 true))))) else (none)) else (none))))) = some r := by rw [if_neg (show ¬ (false = true) by decide)] at H; exact H
        clear H
        have H := H1
        clear H1
        obtain ⟨y101, hy101⟩ : ∃ y_ : List ByteArray, y_ = (([(⟨#[61]⟩ : ByteArray), (⟨#[61, 61]⟩ : ByteArray), (⟨#[101, 113]⟩ : ByteArray)] : List ByteArray)) := ⟨_, rfl⟩
        replace H : ((Go.Proofs.YtjefbpfpobgmaaaDoor.PFx.laws_gridNumber.f a0 2).bind fun t104 => ((Go.Proofs.YtjefbpfpobgmaaaDoor.PFx.laws_gridNumber.f a1 3).bind fun t105 => (if 0 ≤ (wrap64 (t105 - 1)) then (if (wrap64 (t105 - 1)) < (y101.length : Int) then ((Go.Proofs.YtjefbpfpobgmaaaDoor.PFx.laws_refLetters.f kj6 a2).bind fun t107 => ((Go.Proofs.YtjefbpfpobgmaaaDoor.PFx.laws_refLetters.f kj6 a3).bind fun t108 => ((Go.Proofs.YtjefbpfpobgmaaaDoor.PFx.laws_refFilter.f kj6 (([(⟨#[120]⟩ : ByteArray), (⟨#[61, 61]⟩ : ByteArray), (⟨#[97]⟩ : ByteArray)] : List ByteArray))).bind fun bt112 => (if bt112.2 = true then (if bt112.1.toList = ([] : List UInt8) then (none) else ((Go.Proofs.YtjefbpfpobgmaaaDoor.PFx.laws_refSpecial.f kj6 t107).bind fun t114 => (if t114 = true then (laws_FnFilterWords.j1 kj6 a1 t107 t108 a4 a5 y101 (rdOf ByteArray.empty y101 (wrap64 (t105 - 1))) bt112.1 bt112.2 true) else ((Go.Proofs.YtjefbpfpobgmaaaDoor.PFx.laws_refSpecial.f kj6 t108).bind fun t115 => (laws_FnFilterWords.j1 kj6 a1 t107 t108 a4 a5 y101 (rdOf ByteArray.empty y101 (wrap64 (t105 - 1))) bt112.1 bt112.2 t115))))) else (laws_FnFilterWords.j1 kj6 a1 t107 t108 a4 a5 y101 (rdOf ByteArray.empty y101 (wrap64 (t105 - 1))) bt112.1 bt112.2 true))))) else (none)) else (none)))) = some r := by first | (rw [hy101]; with_reducible exact H) | (have H2_ := (Option.bind_some _ _).symm.trans H; rw [hy101]; with_reducible exact H2_) | (have H2_ := (Option.bind_some _ _).symm.trans H; with_reducible exact H2_) | with_reducible exact H | (rw [hy101]; exact H) | exact H
        have Ny101 := Aside0.mk hy101
        clear hy101
        replace H := Option.bind_eq_some_iff.mp H
        obtain ⟨t104, A100, H⟩ := H
        have e_t104 : t104 = 1 := Option.some.inj (A100.symm.trans HK.out)
        replace H : ((Go.Proofs.YtjefbpfpobgmaaaDoor.PFx.laws_gridNumber.f a1 3).bind fun t105 => (if 0 ≤ (wrap64 (t105 - 1)) then (if (wrap64 (t105 - 1)) < (y101.length : Int) then ((Go.Proofs.YtjefbpfpobgmaaaDoor.PFx.laws_refLetters.f kj6 a2).bind fun t107 => ((Go.Proofs.YtjefbpfpobgmaaaDoor.PFx.laws_refLetters.f kj6 a3).bind fun t108 => ((Go.Proofs.YtjefbpfpobgmaaaDoor.PFx.laws_refFilter.f kj6 (([(⟨#[120]⟩ : ByteArray), (⟨#[61, 61]⟩ : ByteArray), (⟨#[97]⟩ : ByteArray)] : List ByteArray))).bind fun bt112 => (if bt112.2 = true then (if bt112.1.toList = ([] : List UInt8) then (none) else ((Go.Proofs.YtjefbpfpobgmaaaDoor.PFx.laws_refSpecial.f kj6 t107).bind fun t114 => (if t114 = true then (laws_FnFilterWords.j1 kj6 a1 t107 t108 a4 a5 y101 (rdOf ByteArray.empty y101 (wrap64 (t105 - 1))) bt112.1 bt112.2 true) else ((Go.Proofs.YtjefbpfpobgmaaaDoor.PFx.laws_refSpecial.f kj6 t108).bind fun t115 => (laws_FnFilterWords.j1 kj6 a1 t107 t108 a4 a5 y101 (rdOf ByteArray.empty y101 (wrap64 (t105 - 1))) bt112.1 bt112.2 t115))))) else (laws_FnFilterWords.j1 kj6 a1 t107 t108 a4 a5 y101 (rdOf ByteArray.empty y101 (wrap64 (t105 - 1))) bt112.1 bt112.2 true))))) else (none)) else (none))) = some r := H
        have A10 := Aside0.mk A100
        clear A100
        replace H := Option.bind_eq_some_iff.mp H
        obtain ⟨t105, A110, H⟩ := H
        replace H : (if 0 ≤ (wrap64 (t105 - 1)) then (if (wrap64 (t105 - 1)) < (y101.length : Int) then ((Go.Proofs.YtjefbpfpobgmaaaDoor.PFx.laws_refLetters.f kj6 a2).bind fun t107 => ((Go.Proofs.YtjefbpfpobgmaaaDoor.PFx.laws_refLetters.f kj6 a3).bind fun t108 => ((Go.Proofs.YtjefbpfpobgmaaaDoor.PFx.laws_refFilter.f kj6 (([(⟨#[120]⟩ : ByteArray), (⟨#[61, 61]⟩ : ByteArray), (⟨#[97]⟩ : ByteArray)] : List ByteArray))).bind fun bt112 => (if bt112.2 = true then (if bt112.1.toList = ([] : List UInt8) then (none) else ((Go.Proofs.YtjefbpfpobgmaaaDoor.PFx.laws_refSpecial.f kj6 t107).bind fun t114 => (if t114 = true then (laws_FnFilterWords.j1 kj6 a1 t107 t108 a4 a5 y101 (rdOf ByteArray.empty y101 (wrap64 (t105 - 1))) bt112.1 bt112.2 true) else ((Go.Proofs.YtjefbpfpobgmaaaDoor.PFx.laws_refSpecial.f kj6 t108).bind fun t115 => (laws_FnFilterWords.j1 kj6 a1 t107 t108 a4 a5 y101 (rdOf ByteArray.empty y101 (wrap64 (t105 - 1))) bt112.1 bt112.2 t115))))) else (laws_FnFilterWords.j1 kj6 a1 t107 t108 a4 a5 y101 (rdOf ByteArray.empty y101 (wrap64 (t105 - 1))) bt112.1 bt112.2 true))))) else (none)) else (none)) = some r := H
        have A11 := Aside0.mk A110
        clear A110
        obtain ⟨ji12, hji12⟩ : ∃ j_ : Int, (wrap64 (t105 - 1)) = j_ := ⟨_, rfl⟩
        replace H : (if 0 ≤ (ji12) then (if (ji12) < (y101.length : Int) then ((Go.Proofs.YtjefbpfpobgmaaaDoor.PFx.laws_refLetters.f kj6 a2).bind fun t107 => ((Go.Proofs.YtjefbpfpobgmaaaDoor.PFx.laws_refLetters.f kj6 a3).bind fun t108 => ((Go.Proofs.YtjefbpfpobgmaaaDoor.PFx.laws_refFilter.f kj6 (([(⟨#[120]⟩ : ByteArray), (⟨#[61, 61]⟩ : ByteArray), (⟨#[97]⟩ : ByteArray)] : List ByteArray))).bind fun bt112 => (if bt112.2 = true then (if bt112.1.toList = ([] : List UInt8) then (none) else ((Go.Proofs.YtjefbpfpobgmaaaDoor.PFx.laws_refSpecial.f kj6 t107).bind fun t114 => (if t114 = true then (laws_FnFilterWords.j1 kj6 a1 t107 t108 a4 a5 y101 (rdOf ByteArray.empty y101 (ji12)) bt112.1 bt112.2 true) else ((Go.Proofs.YtjefbpfpobgmaaaDoor.PFx.laws_refSpecial.f kj6 t108).bind fun t115 => (laws_FnFilterWords.j1 kj6 a1 t107 t108 a4 a5 y101 (rdOf ByteArray.empty y101 (ji12)) bt112.1 bt112.2 t115))))) else (laws_FnFilterWords.j1 kj6 a1 t107 t108 a4 a5 y101 (rdOf ByteArray.empty y101 (ji12)) bt112.1 bt112.2 true))))) else (none)) else (none)) = some r := by first | (rw [hji12] at H; exact H) | (simp only [hji12] at H ⊢; exact H)
        (try rw [hji12] at A10)
        (try rw [hji12] at A11)
        have hji12w : (IntKind.i64.wrap (t105 - 1)) = ji12 := (i64_w _).trans hji12
        by_cases c13 : 0 ≤ (ji12)
        · rw [if_pos c13] at H
          have c13b0 : decide (0 ≤ (ji12)) = true := decide_eq_true c13
          clear c13
          by_cases c14 : (ji12) < (y101.length : Int)
          · rw [if_pos c14] at H
            have c14b0 : decide ((ji12) < (y101.length : Int)) = true := decide_eq_true c14
            clear c14
            replace H := Option.bind_eq_some_iff.mp H
            obtain ⟨t107, A150, H⟩ := H
            replace H : ((Go.Proofs.YtjefbpfpobgmaaaDoor.PFx.laws_refLetters.f kj6 a3).bind fun t108 => ((Go.Proofs.YtjefbpfpobgmaaaDoor.PFx.laws_refFilter.f kj6 (([(⟨#[120]⟩ : ByteArray), (⟨#[61, 61]⟩ : ByteArray), (⟨#[97]⟩ : ByteArray)] : List ByteArray))).bind fun bt112 => (if bt112.2 = true then (if bt112.1.toList = ([] : List UInt8) then (none) else ((Go.Proofs.YtjefbpfpobgmaaaDoor.PFx.laws_refSpecial.f kj6 t107).bind fun t114 => (if t114 = true then (laws_FnFilterWords.j1 kj6 a1 t107 t108 a4 a5 y101 (rdOf ByteArray.empty y101 (ji12)) bt112.1 bt112.2 true) else ((Go.Proofs.YtjefbpfpobgmaaaDoor.PFx.laws_refSpecial.f kj6 t108).bind fun t115 => (laws_FnFilterWords.j1 kj6 a1 t107 t108 a4 a5 y101 (rdOf ByteArray.empty y101 (ji12)) bt112.1 bt112.2 t115))))) else (laws_FnFilterWords.j1 kj6 a1 t107 t108 a4 a5 y101 (rdOf ByteArray.empty y101 (ji12)) bt112.1 bt112.2 true)))) = some r := H
            have A15 := Aside0.mk A150
            clear A150
            replace H := Option.bind_eq_some_iff.mp H
            obtain ⟨t108, A160, H⟩ := H
            replace H : ((Go.Proofs.YtjefbpfpobgmaaaDoor.PFx.laws_refFilter.f kj6 (([(⟨#[120]⟩ : ByteArray), (⟨#[61, 61]⟩ : ByteArray), (⟨#[97]⟩ : ByteArray)] : List ByteArray))).bind fun bt112 => (if bt112.2 = true then (if bt112.1.toList = ([] : List UInt8) then (none) else ((Go.Proofs.YtjefbpfpobgmaaaDoor.PFx.laws_refSpecial.f kj6 t107).bind fun t114 => (if t114 = true then (laws_FnFilterWords.j1 kj6 a1 t107 t108 a4 a5 y101 (rdOf ByteArray.empty y101 (ji12)) bt112.1 bt112.2 true) else ((Go.Proofs.YtjefbpfpobgmaaaDoor.PFx.laws_refSpecial.f kj6 t108).bind fun t115 => (laws_FnFilterWords.j1 kj6 a1 t107 t108 a4 a5 y101 (rdOf ByteArray.empty y101 (ji12)) bt112.1 bt112.2 t115))))) else (laws_FnFilterWords.j1 kj6 a1 t107 t108 a4 a5 y101 (rdOf ByteArray.empty y101 (ji12)) bt112.1 bt112.2 true))) = some r := H
            have A16 := Aside0.mk A160
            clear A160
            obtain ⟨y109, hy109⟩ : ∃ y_ : List ByteArray, y_ = (([(⟨#[120]⟩ : ByteArray), (⟨#[61, 61]⟩ : ByteArray), (⟨#[97]⟩ : ByteArray)] : List ByteArray)) := ⟨_, rfl⟩
            replace H : ((Go.Proofs.YtjefbpfpobgmaaaDoor.PFx.laws_refFilter.f kj6 y109).bind fun bt112 => (if bt112.2 = true then (if bt112.1.toList = ([] : List UInt8) then (none) else ((Go.Proofs.YtjefbpfpobgmaaaDoor.PFx.laws_refSpecial.f kj6 t107).bind fun t114 => (if t114 = true then (laws_FnFilterWords.j1 kj6 a1 t107 t108 a4 a5 y101 (rdOf ByteArray.empty y101 (ji12)) bt112.1 bt112.2 true) else ((Go.Proofs.YtjefbpfpobgmaaaDoor.PFx.laws_refSpecial.f kj6 t108).bind fun t115 => (laws_FnFilterWords.j1 kj6 a1 t107 t108 a4 a5 y101 (rdOf ByteArray.empty y101 (ji12)) bt112.1 bt112.2 t115))))) else (laws_FnFilterWords.j1 kj6 a1 t107 t108 a4 a5 y101 (rdOf ByteArray.empty y101 (ji12)) bt112.1 bt112.2 true))) = some r := by first | (rw [hy109]; with_reducible exact H) | (have H2_ := (Option.bind_some _ _).symm.trans H; rw [hy109]; with_reducible exact H2_) | (have H2_ := (Option.bind_some _ _).symm.trans H; with_reducible exact H2_) | with_reducible exact H | (rw [hy109]; exact H) | exact H
            have Ny109 := Aside0.mk hy109
            clear hy109
            replace H := Option.bind_eq_some_iff.mp H
            obtain ⟨⟨t112, t113⟩, A170, H⟩ := H
            replace H : (if t113 = true then (if t112.toList = ([] : List UInt8) then (none) else ((Go.Proofs.YtjefbpfpobgmaaaDoor.PFx.laws_refSpecial.f kj6 t107).bind fun t114 => (if t114 = true then (laws_FnFilterWords.j1 kj6 a1 t107 t108 a4 a5 y101 (rdOf ByteArray.empty y101 (ji12)) t112 t113 true) else ((Go.Proofs.YtjefbpfpobgmaaaDoor.PFx.laws_refSpecial.f kj6 t108).bind fun t115 => (laws_FnFilterWords.j1 kj6 a1 t107 t108 a4 a5 y101 (rdOf ByteArray.empty y101 (ji12)) t112 t113 t115))))) else (laws_FnFilterWords.j1 kj6 a1 t107 t108 a4 a5 y101 (rdOf ByteArray.empty y101 (ji12)) t112 t113 true)) = some r := H
            have A17 := Aside0.mk A170
            clear A170
            have HC18 := Aside0.mk H
            clear H
            go_upto_region 7 with (first | ((with_reducible refine gate_dst (N := 32) rfl ?_); (try (refine gate_guard (by rfl) ?_; dsimp only)); refine Kd.R_lit Kd.string _ 9 ?hg (N := 32) ?hd (xs := ([(⟨#[61]⟩ : ByteArray), (⟨#[61, 61]⟩ : ByteArray), (⟨#[101, 113]⟩ : ByteArray)] : List ByteArray)) (inner := [.string (⟨#[61]⟩ : ByteArray), .string (⟨#[61, 61]⟩ : ByteArray), .string (⟨#[101, 113]⟩ : ByteArray)]) (ok := fun _ => True) (okp := fun _ => True) ?hr ?hp (fun _ hk => hk) trivial (Below.refl _ _) (Nat.le_refl _) (by simp) ?_; (case hd => rfl); (case hg => rfl); (case hr => first | (go_simp; done) | (go_simp; rfl)); (case hp => exact (Reps.one (show Kd.M Kd.string _ _ _ (⟨#[61]⟩ : ByteArray) [.string (⟨#[61]⟩ : ByteArray)] from rfl) (Reps.one (show Kd.M Kd.string _ _ _ (⟨#[61, 61]⟩ : ByteArray) [.string (⟨#[61, 61]⟩ : ByteArray)] from rfl) (Reps.one (show Kd.M Kd.string _ _ _ (⟨#[101, 113]⟩ : ByteArray) [.string (⟨#[101, 113]⟩ : ByteArray)] from rfl) (Reps.none _ _))))); intro v102 w19 ho20 hb hg_ hnew_; clear hg_ hnew_; (first | rw [← Ny101.out] at ho20 | (simp only [Int.reduceToNat] at ho20; rw [← Ny101.out] at ho20)); have n0_ := Aside0.mk (Kd.R_lower ho20 (below_size (by repeat (first | (with_reducible first | exact HB.out | apply below_alloc | apply pw_below_drewN | apply below_drew1) | exact HB.out)))); have n1_ := Aside0.mk (below_step (by repeat (first | (with_reducible first | exact HB.out | apply below_alloc | apply pw_below_drewN | apply below_drew1) | exact HB.out)) hb); clear HB; have HO103 := n0_; have HB := n1_; clear n0_ n1_; clear hb ho20; obtain ⟨Aq32, cq32, eq32⟩ := Kd.R_slice HO103.out; subst eq32) | ((with_reducible refine gate_callee (f := 10) rfl ?_); refine goesL_ (some 36) rfl rfl Tryd.func10 (by kernel_rfl) rfl #[.int .i64 a0, .int .i64 2] rfl (by (try simp only [List.map_toArray, List.map_cons, List.map_nil]); first | done | rfl | (simp only [List.length_drop, List.length_take]; rfl)) ?_; (with_reducible refine (Go.Proofs.YtjefbpfpobgmaaaDoor.PFx.laws_gridNumber.calls a0 2 t104 _ A10.out).mono ?_); rintro e w' ⟨rfl, ⟨nd, rfl⟩⟩; refine ⟨_, rfl, ?_⟩) | ((with_reducible refine gate_callee (f := 10) rfl ?_); refine goesL_ (some 42) rfl rfl Tryd.func10 (by kernel_rfl) rfl #[.int .i64 a1, .int .i64 3] rfl (by (try simp only [List.map_toArray, List.map_cons, List.map_nil]); first | done | rfl | (simp only [List.length_drop, List.length_take]; rfl)) ?_; (with_reducible refine (Go.Proofs.YtjefbpfpobgmaaaDoor.PFx.laws_gridNumber.calls a1 3 t105 _ A11.out).mono ?_); rintro e w' ⟨rfl, ⟨nd, rfl⟩⟩; refine ⟨_, rfl, ?_⟩; obtain ⟨Ao21, co21, eo21⟩ := Kd.R_slice HO103.out; (first | subst eo21 | (injection eo21 with e1_ e2_ e3_; subst e1_; have e4_ := e3_.symm; clear e3_; subst e4_)); have p106 : 0 ≤ ((ji12) : Int) := of_decide_eq_true (by first | (with_reducible assumption) | assumption); have q106 : (ji12) < (y101.length : Int) := of_decide_eq_true (by first | (with_reducible assumption) | assumption); obtain ⟨ad106, e106, hx106_0⟩ := Kd.at_string (Kd.R_reads' HO103.out).2.2 (ji12) p106 q106; cases e106; have lt0_ := block_lt_of_cell hx106_0; have hx106_a : ∀ o o2 : Obj, ((w19.alloc o).alloc o2).cell? (ad106.add (ji12).toNat) = some (.string (rdOf ByteArray.empty y101 (ji12))) := (fun o o2 => (World.cell?_alloc_lt _ _ _ (Nat.lt_of_lt_of_le lt0_ (below_alloc (Below.refl _ _) o).size)).trans ((World.cell?_alloc_lt _ _ _ lt0_).trans hx106_0)); have hx106_b : ∀ o : Obj, (w19.alloc o).cell? (ad106.add (ji12).toNat) = some (.string (rdOf ByteArray.empty y101 (ji12))) := (fun o => (World.cell?_alloc_lt _ _ _ lt0_).trans hx106_0); clear lt0_; replace p106 := eq_true p106; replace q106 := eq_true q106) | ((with_reducible refine gate_callee (f := 8) rfl ?_); refine goesL_ (some 47) rfl rfl Tryd.func8 (by kernel_rfl) rfl #[.string a2] rfl (by (try simp only [List.map_toArray, List.map_cons, List.map_nil]); first | done | rfl | (simp only [List.length_drop, List.length_take]; rfl)) ?_; (with_reducible refine (Go.Proofs.YtjefbpfpobgmaaaDoor.PFx.laws_refLetters.calls kj6 a2 t107 _ A15.out).mono ?_); rintro e w22 ⟨rfl, hb⟩; refine ⟨_, rfl, ?_⟩; have n0_ := Aside0.mk (Kd.R_below (by (with_reducible repeat (first | apply Kd.R_alloc | apply Kd.R_drewN | apply Kd.R_drew)); exact HO103.out) hb); have n1_ := Aside0.mk (below_step (by repeat (first | (with_reducible first | exact HB.out | apply below_alloc | apply pw_below_drewN | apply below_drew1) | exact HB.out)) hb); clear HO103; clear HB; have HO103 := n0_; have HB := n1_; clear n0_ n1_; (try clear hb); (try clear hb2); (try clear hk); (try clear hi)) | ((with_reducible refine gate_callee (f := 8) rfl ?_); refine goesL_ (some 49) rfl rfl Tryd.func8 (by kernel_rfl) rfl #[.string a3] rfl (by (try simp only [List.map_toArray, List.map_cons, List.map_nil]); first | done | rfl | (simp only [List.length_drop, List.length_take]; rfl)) ?_; (with_reducible refine (Go.Proofs.YtjefbpfpobgmaaaDoor.PFx.laws_refLetters.calls kj6 a3 t108 _ A16.out).mono ?_); rintro e w23 ⟨rfl, hb⟩; refine ⟨_, rfl, ?_⟩; have n0_ := Aside0.mk (Kd.R_below (by (with_reducible repeat (first | apply Kd.R_alloc | apply Kd.R_drewN | apply Kd.R_drew)); exact HO103.out) hb); have n1_ := Aside0.mk (below_step (by repeat (first | (with_reducible first | exact HB.out | apply below_alloc | apply pw_below_drewN | apply below_drew1) | exact HB.out)) hb); clear HO103; clear HB; have HO103 := n0_; have HB := n1_; clear n0_ n1_; (try clear hb); (try clear hb2); (try clear hk); (try clear hi)) | ((with_reducible refine gate_dst (N := 51) rfl ?_); (try (refine gate_guard (by rfl) ?_; dsimp only)); refine Kd.R_lit Kd.string _ 9 ?hg (N := 51) ?hd (xs := ([(⟨#[120]⟩ : ByteArray), (⟨#[61, 61]⟩ : ByteArray), (⟨#[97]⟩ : ByteArray)] : List ByteArray)) (inner := [.string (⟨#[120]⟩ : ByteArray), .string (⟨#[61, 61]⟩ : ByteArray), .string (⟨#[97]⟩ : ByteArray)]) (ok := fun _ => True) (okp := fun _ => True) ?hr ?hp (fun _ hk => hk) trivial (Below.refl _ _) (Nat.le_refl _) (by simp) ?_; (case hd => rfl); (case hg => rfl); (case hr => first | (go_simp; done) | (go_simp; rfl)); (case hp => exact (Reps.one (show Kd.M Kd.string _ _ _ (⟨#[120]⟩ : ByteArray) [.string (⟨#[120]⟩ : ByteArray)] from rfl) (Reps.one (show Kd.M Kd.string _ _ _ (⟨#[61, 61]⟩ : ByteArray) [.string (⟨#[61, 61]⟩ : ByteArray)] from rfl) (Reps.one (show Kd.M Kd.string _ _ _ (⟨#[97]⟩ : ByteArray) [.string (⟨#[97]⟩ : ByteArray)] from rfl) (Reps.none _ _))))); intro v110 w24 ho25 hb hg_ hnew_; clear hg_ hnew_; (first | rw [← Ny109.out] at ho25 | (simp only [Int.reduceToNat] at ho25; rw [← Ny109.out] at ho25)); have n0_ := Aside0.mk (Kd.R_elder' (by (with_reducible repeat (first | apply Kd.R_alloc | apply Kd.R_drewN | apply Kd.R_drew)); exact HO103.out) (Kd.R_base ho25) hb); have n1_ := Aside0.mk (Kd.R_lower (Kd.R_new' ho25 (Kd.R_lt (by (with_reducible repeat (first | apply Kd.R_alloc | apply Kd.R_drewN | apply Kd.R_drew)); exact HO103.out))) (below_size (by repeat (first | (with_reducible first | exact HB.out | apply below_alloc | apply pw_below_drewN | apply below_drew1) | exact HB.out)))); have n2_ := Aside0.mk (below_step (by repeat (first | (with_reducible first | exact HB.out | apply below_alloc | apply pw_below_drewN | apply below_drew1) | exact HB.out)) hb); clear HO103; clear HB; have HO103 := n0_; have HO111 := n1_; have HB := n2_; clear n0_ n1_ n2_; clear hb ho25; obtain ⟨Ao26, co26, eo26⟩ := Kd.R_slice HO111.out; (first | subst eo26 | (injection eo26 with e1_ e2_ e3_; subst e1_; have e4_ := e3_.symm; clear e3_; subst e4_))) | ((with_reducible refine gate_callee (f := 11) rfl ?_); refine goesL_ (some 52) rfl rfl Tryd.func11 (by kernel_rfl) rfl #[.slice Ao26 y109.length co26] rfl (by (try simp only [List.map_toArray, List.map_cons, List.map_nil]); first | done | rfl | (simp only [List.length_drop, List.length_take]; rfl)) ?_; (with_reducible refine (Go.Proofs.YtjefbpfpobgmaaaDoor.PFx.laws_refFilter.calls kj6 _ _ y109 t112 t113 _ ?side1 ?side2 A17.out).mono ?_); (case side1 => repeat (first | exact (Kd.R_reads' HO111.out).2.2 | (with_reducible refine Kd.C_alloc ?_ _) | (with_reducible refine Kd.C_drewN ?_ _) | (with_reducible refine Kd.C_drew ?_))); (case side2 => exact (Kd.R_reads' HO111.out).2.1); rintro e w27 ⟨rfl, hb⟩; refine ⟨_, rfl, ?_⟩; have n0_ := Aside0.mk (Kd.R_below (by (with_reducible repeat (first | apply Kd.R_alloc | apply Kd.R_drewN | apply Kd.R_drew)); exact HO103.out) hb); have n1_ := Aside0.mk (Kd.R_below (by (with_reducible repeat (first | apply Kd.R_alloc | apply Kd.R_drewN | apply Kd.R_drew)); exact HO111.out) hb); have n2_ := Aside0.mk (below_step (by repeat (first | (with_reducible first | exact HB.out | apply below_alloc | apply pw_below_drewN | apply below_drew1) | exact HB.out)) hb); clear HO103; clear HO111; clear HB; have HO103 := n0_; have HO111 := n1_; have HB := n2_; clear n0_ n1_ n2_; (try clear hb); (try clear hb2); (try clear hk); (try clear hi)))
            (try simp only [Act.put, List.setIfInBounds_toArray, List.set_cons_zero, List.set_cons_succ])
            go_cut [68] (fun v68 wc => ∃ (kq : Nat) (x68_17 : Bool), v68 = .bool x68_17 ∧ Aside0 (laws_FnFilterWords.j1 kq a1 t107 t108 a4 a5 y101 (rdOf ByteArray.empty y101 (ji12)) t112 t113 x68_17 = some r) ∧ Aside0 (kq ≤ kj6) ∧ Aside0 (Kd.R Kd.string 9 wc w.heap.size (fun _ => True) (.slice (some ad106) y101.length co21) y101) ∧ Aside0 (Below w.heap.size w wc))
            case first =>
              have H := HC18.out
              clear HC18
              by_cases c28 : t113 = true
              · subst c28
                have H1 : (if t112.toList = ([] : List UInt8) then (none) else ((Go.Proofs.YtjefbpfpobgmaaaDoor.PFx.laws_refSpecial.f kj6 t107).bind fun t114 => (if t114 = true then (laws_FnFilterWords.j1 kj6 a1 t107 t108 a4 a5 y101 (rdOf ByteArray.empty y101 (ji12)) t112 true true) else ((Go.Proofs.YtjefbpfpobgmaaaDoor.PFx.laws_refSpecial.f kj6 t108).bind fun t115 => (laws_FnFilterWords.j1 kj6 a1 t107 t108 a4 a5 y101 (rdOf ByteArray.empty y101 (ji12)) t112 true t115))))) = some r := by rw [if_pos rfl] at H; exact H
                clear H
                have H := H1
                clear H1
                by_cases c29 : t112.toList = ([] : List UInt8)
                · rw [if_pos c29] at H
                  exact absurd H (by simp)
                · rw [if_neg c29] at H
                  have c29b0 : (t112.toList == ([] : List UInt8)) = false := beq_eq_false_iff_ne.mpr c29
                  have c29b1 : (t112.toList != ([] : List UInt8)) = true := bne_iff_ne.mpr c29
                  (first | rw [c29b0] | (simp only [i64_w, i32_w]; rw [c29b0]) | skip)
                  replace H := Option.bind_eq_some_iff.mp H
                  obtain ⟨t114, A300, H⟩ := H
                  replace H : (if t114 = true then (laws_FnFilterWords.j1 kj6 a1 t107 t108 a4 a5 y101 (rdOf ByteArray.empty y101 (ji12)) t112 true true) else ((Go.Proofs.YtjefbpfpobgmaaaDoor.PFx.laws_refSpecial.f kj6 t108).bind fun t115 => (laws_FnFilterWords.j1 kj6 a1 t107 t108 a4 a5 y101 (rdOf ByteArray.empty y101 (ji12)) t112 true t115))) = some r := H
                  have A30 := Aside0.mk A300
                  clear A300
                  by_cases c31 : t114 = true
                  · subst c31
                    have H1 : (laws_FnFilterWords.j1 kj6 a1 t107 t108 a4 a5 y101 (rdOf ByteArray.empty y101 (ji12)) t112 true true) = some r := by rw [if_pos rfl] at H; exact H
                    clear H
                    have H := H1
                    clear H1
                    have H' := Aside0.mk H
                    clear H
                    go_wp2_with (first | (go_at_call 12; (with_reducible refine (Go.Proofs.YtjefbpfpobgmaaaDoor.PFx.laws_refSpecial.calls kj6 t107 true _ A30.out).mono ?_); rintro e w32 ⟨rfl, hb⟩; have n0_ := Aside0.mk (Kd.R_below (by (with_reducible repeat (first | apply Kd.R_alloc | apply Kd.R_drewN | apply Kd.R_drew)); exact HO103.out) hb); have n1_ := Aside0.mk (Kd.R_below (by (with_reducible repeat (first | apply Kd.R_alloc | apply Kd.R_drewN | apply Kd.R_drew)); exact HO111.out) hb); have n2_ := Aside0.mk (below_step (by repeat (first | (with_reducible first | exact HB.out | apply below_alloc | apply pw_below_drewN | apply below_drew1) | exact HB.out)) hb); clear HO103; clear HO111; clear HB; have HO103 := n0_; have HO111 := n1_; have HB := n2_; clear n0_ n1_ n2_; (try clear hb); (try clear hb2); (try clear hk); (try clear hi)))
                    go_meet
                    case rel => exact ⟨_, (true), (by first | rfl | (simp; done) | (simp [*]; done)), H', ⟨by have := HJ6.out; first | omega | exact Nat.le_refl _⟩, ⟨by (with_reducible repeat (first | apply Kd.R_alloc | apply Kd.R_drewN | apply Kd.R_drew)); exact Kd.R_mono HO103.out (fun _ hk => trivial)⟩, ⟨by repeat (first | (with_reducible first | exact HB.out | apply below_alloc | apply pw_below_drewN | apply below_drew1) | exact HB.out)⟩⟩
                  · replace c31 := Bool.eq_false_iff.mpr c31
                    subst c31
                    have H1 : ((Go.Proofs.YtjefbpfpobgmaaaDoor.PFx.laws_refSpecial.f kj6 t108).bind fun t115 => (laws_FnFilterWords.j1 kj6 a1 t107 t108 a4 a5 y101 (rdOf ByteArray.empty y101 (ji12)) t112 true t115)) = some r := by rw [if_neg (show ¬ (false = true) by decide)] at H; exact H
                    clear H
                    have H := H1
                    clear H1
                    replace H := Option.bind_eq_some_iff.mp H
                    obtain ⟨t115, A330, H⟩ := H
                    replace H : (laws_FnFilterWords.j1 kj6 a1 t107 t108 a4 a5 y101 (rdOf ByteArray.empty y101 (ji12)) t112 true t115) = some r := H
                    have A33 := Aside0.mk A330
                    clear A330
                    have H' := Aside0.mk H
                    clear H
                    go_wp2_with (first | (go_at_call 12; (with_reducible refine (Go.Proofs.YtjefbpfpobgmaaaDoor.PFx.laws_refSpecial.calls kj6 t107 false _ A30.out).mono ?_); rintro e w34 ⟨rfl, hb⟩; have n0_ := Aside0.mk (Kd.R_below (by (with_reducible repeat (first | apply Kd.R_alloc | apply Kd.R_drewN | apply Kd.R_drew)); exact HO103.out) hb); have n1_ := Aside0.mk (Kd.R_below (by (with_reducible repeat (first | apply Kd.R_alloc | apply Kd.R_drewN | apply Kd.R_drew)); exact HO111.out) hb); have n2_ := Aside0.mk (below_step (by repeat (first | (with_reducible first | exact HB.out | apply below_alloc | apply pw_below_drewN | apply below_drew1) | exact HB.out)) hb); clear HO103; clear HO111; clear HB; have HO103 := n0_; have HO111 := n1_; have HB := n2_; clear n0_ n1_ n2_; (try clear hb); (try clear hb2); (try clear hk); (try clear hi)) | (go_at_call 12; (with_reducible refine (Go.Proofs.YtjefbpfpobgmaaaDoor.PFx.laws_refSpecial.calls kj6 t108 t115 _ A33.out).mono ?_); rintro e w35 ⟨rfl, hb⟩; have n0_ := Aside0.mk (Kd.R_below (by (with_reducible repeat (first | apply Kd.R_alloc | apply Kd.R_drewN | apply Kd.R_drew)); exact HO103.out) hb); have n1_ := Aside0.mk (Kd.R_below (by (with_reducible repeat (first | apply Kd.R_alloc | apply Kd.R_drewN | apply Kd.R_drew)); exact HO111.out) hb); have n2_ := Aside0.mk (below_step (by repeat (first | (with_reducible first | exact HB.out | apply below_alloc | apply pw_below_drewN | apply below_drew1) | exact HB.out)) hb); clear HO103; clear HO111; clear HB; have HO103 := n0_; have HO111 := n1_; have HB := n2_; clear n0_ n1_ n2_; (try clear hb); (try clear hb2); (try clear hk); (try clear hi)))
                    go_meet
                    case rel => exact ⟨_, (t115), (by first | rfl | (simp; done) | (simp [*]; done)), H', ⟨by have := HJ6.out; first | omega | exact Nat.le_refl _⟩, ⟨by (with_reducible repeat (first | apply Kd.R_alloc | apply Kd.R_drewN | apply Kd.R_drew)); exact Kd.R_mono HO103.out (fun _ hk => trivial)⟩, ⟨by repeat (first | (with_reducible first | exact HB.out | apply below_alloc | apply pw_below_drewN | apply below_drew1) | exact HB.out)⟩⟩
              · replace c28 := Bool.eq_false_iff.mpr c28
                subst c28
                have H1 : (laws_FnFilterWords.j1 kj6 a1 t107 t108 a4 a5 y101 (rdOf ByteArray.empty y101 (ji12)) t112 false true) = some r := by rw [if_neg (show ¬ (false = true) by decide)] at H; exact H
                clear H
                have H := H1
                clear H1
                have H' := Aside0.mk H
                clear H
                go_wp2
                go_meet
                case rel => exact ⟨_, (true), (by first | rfl | (simp; done) | (simp [*]; done)), H', ⟨by have := HJ6.out; first | omega | exact Nat.le_refl _⟩, ⟨by (with_reducible repeat (first | apply Kd.R_alloc | apply Kd.R_drewN | apply Kd.R_drew)); exact Kd.R_mono HO103.out (fun _ hk => trivial)⟩, ⟨by repeat (first | (with_reducible first | exact HB.out | apply below_alloc | apply pw_below_drewN | apply below_drew1) | exact HB.out)⟩⟩
            case rest =>
              clear HC18
              try clear c1
              try clear p1
              try clear q1
              try clear hx1
              try clear c2
              try clear p2
              try clear c3
              try clear c5
              try clear p6
              try clear c8
              try clear c8b0
              try clear c8b1
              try clear c9
              try clear c10
              try clear p10
              try clear q10
              try clear hx10
              try clear c11
              try clear c13
              try clear c13b0
              try clear c14
              try clear c14b0
              try clear c28
              try clear c29
              try clear c29b0
              try clear c29b1
              try clear c31
              try clear hx106_0
              try clear p106
              try clear p2
              try clear q106
              obtain ⟨kq, x68_17, rfl, HA, HJ17, HO_13, HB⟩ := hcut
              cases kq with
              | zero => exact absurd HA.out (by simp [laws_FnFilterWords.j1])
              | succ kj17 =>
                have H := HA.out
                clear HA
                simp only [laws_FnFilterWords.j1] at H
                by_cases c36 : x68_17 = true
                · subst c36
                  have H1 : (if t113 = true then (some (t112.toList != ([] : List UInt8))) else (some false)) = some r := by rw [if_pos rfl] at H; exact H
                  clear H
                  have H := H1
                  clear H1
                  by_cases c37 : t113 = true
                  · subst c37
                    have H1 : (some (t112.toList != ([] : List UInt8))) = some r := by rw [if_pos rfl] at H; exact H
                    clear H
                    have H := H1
                    clear H1
                    obtain rfl := Option.some.inj H
                    go_wp2
                    go_ret
                    exact ⟨by first | rfl | (simp [errW_none, errW_some] <;> rfl) | (simp only [← hji12]; first | rfl | (simp [errW_none, errW_some] <;> rfl)) | (generalize ByteArray.toList _ = l_; cases l_ <;> first | rfl | (simp; done)) | (simp [*, errW_none, errW_some] <;> rfl), by repeat (first | (with_reducible first | exact HB.out | apply below_alloc | apply pw_below_drewN | apply below_drew1) | exact HB.out)⟩
                  · replace c37 := Bool.eq_false_iff.mpr c37
                    subst c37
                    have H1 : (some false) = some r := by rw [if_neg (show ¬ (false = true) by decide)] at H; exact H
                    clear H
                    have H := H1
                    clear H1
                    obtain rfl := Option.some.inj H
                    go_wp2
                    go_ret
                    exact ⟨by first | rfl | (simp [errW_none, errW_some] <;> rfl) | (simp only [← hji12]; first | rfl | (simp [errW_none, errW_some] <;> rfl)) | (generalize ByteArray.toList _ = l_; cases l_ <;> first | rfl | (simp; done)) | (simp [*, errW_none, errW_some] <;> rfl), by repeat (first | (with_reducible first | exact HB.out | apply below_alloc | apply pw_below_drewN | apply below_drew1) | exact HB.out)⟩
                · replace c36 := Bool.eq_false_iff.mpr c36
                  subst c36
                  have H1 : (if 0 < (y101.length : Int) then ((some (([(⟨#[120]⟩ : ByteArray), rdOf ByteArray.empty y101 0, t107] : List ByteArray) : List ByteArray)).bind fun y117 => ((some (([(⟨#[120]⟩ : ByteArray), (rdOf ByteArray.empty y101 (ji12)), t107] : List ByteArray) : List ByteArray)).bind fun y120 => (if a4 = true then ((some (([(⟨#[111, 114]⟩ : ByteArray), (⟨#[124, 124]⟩ : ByteArray)] : List ByteArray) : List ByteArray)).bind fun y123 => ((Go.Proofs.YtjefbpfpobgmaaaDoor.PFx.laws_gridNumber.f (wrap64 (Int.tdiv a1 7)) 2).bind fun t126 => (if a5 = true then ((some (([(⟨#[111, 114]⟩ : ByteArray), (⟨#[124, 124]⟩ : ByteArray)] : List ByteArray) : List ByteArray)).bind fun y127 => (if 0 < (y127.length : Int) then ((some (([rdOf ByteArray.empty y127 0, (⟨#[120]⟩ : ByteArray), rdOf ByteArray.empty y101 0, t108] : List ByteArray) : List ByteArray)).bind fun y132 => (if y117.length + y132.length < 8796093022208 then (if 1 < (y127.length : Int) then ((some (([rdOf ByteArray.empty y127 1, (⟨#[120]⟩ : ByteArray), (rdOf ByteArray.empty y101 (ji12)), t108] : List ByteArray) : List ByteArray)).bind fun y139 => (if y120.length + y139.length < 8796093022208 then ((Go.Proofs.YtjefbpfpobgmaaaDoor.PFx.laws_refFilter.f kj17 (y117 ++ y132)).bind fun bt145 => ((Go.Proofs.YtjefbpfpobgmaaaDoor.PFx.laws_refFilter.f kj17 (y120 ++ y139)).bind fun bt147 => (if bt145.2 = true then (if bt147.2 = true then (some (bt145.1.toList == bt147.1.toList)) else (none)) else (none)))) else (none))) else (none)) else (none))) else (none))) else (if 0 < (y123.length : Int) then ((some (([rdOf ByteArray.empty y123 0, (⟨#[120]⟩ : ByteArray), rdOf ByteArray.empty y101 0, t108] : List ByteArray) : List ByteArray)).bind fun y151 => (if y117.length + y151.length < 8796093022208 then (if 1 < (y123.length : Int) then ((some (([rdOf ByteArray.empty y123 1, (⟨#[120]⟩ : ByteArray), (rdOf ByteArray.empty y101 (ji12)), t108] : List ByteArray) : List ByteArray)).bind fun y158 => (if y120.length + y158.length < 8796093022208 then ((Go.Proofs.YtjefbpfpobgmaaaDoor.PFx.laws_refFilter.f kj17 (y117 ++ y151)).bind fun bt164 => ((Go.Proofs.YtjefbpfpobgmaaaDoor.PFx.laws_refFilter.f kj17 (y120 ++ y158)).bind fun bt166 => (if bt164.2 = true then (if bt166.2 = true then (some (bt164.1.toList == bt166.1.toList)) else (none)) else (none)))) else (none))) else (none)) else (none))) else (none))))) else ((Go.Proofs.YtjefbpfpobgmaaaDoor.PFx.laws_refFilter.f kj17 y117).bind fun bt168 => ((Go.Proofs.YtjefbpfpobgmaaaDoor.PFx.laws_refFilter.f kj17 y120).bind fun bt170 => (if bt168.2 = true then (if bt170.2 = true then (some (bt168.1.toList == bt170.1.toList)) else (none)) else (none))))))) else (none)) = some r := by rw [if_neg (show ¬ (false = true) by decide)] at H; exact H
                  clear H
                  have H := H1
                  clear H1
                  by_cases c38 : 0 < (y101.length : Int)
                  · rw [if_pos c38] at H
                    have c38b0 : decide (0 < (y101.length : Int)) = true := decide_eq_true c38
                    have c38b1 : decide (0 < y101.length) = true := decide_eq_true (by omega)
                    clear c38
                    obtain ⟨y117, hy117⟩ : ∃ y_ : List ByteArray, y_ = (([(⟨#[120]⟩ : ByteArray), rdOf ByteArray.empty y101 0, t107] : List ByteArray)) := ⟨_, rfl⟩
                    replace H : ((some (([(⟨#[120]⟩ : ByteArray), (rdOf ByteArray.empty y101 (ji12)), t107] : List ByteArray) : List ByteArray)).bind fun y120 => (if a4 = true then ((some (([(⟨#[111, 114]⟩ : ByteArray), (⟨#[124, 124]⟩ : ByteArray)] : List ByteArray) : List ByteArray)).bind fun y123 => ((Go.Proofs.YtjefbpfpobgmaaaDoor.PFx.laws_gridNumber.f (wrap64 (Int.tdiv a1 7)) 2).bind fun t126 => (if a5 = true then ((some (([(⟨#[111, 114]⟩ : ByteArray), (⟨#[124, 124]⟩ : ByteArray)] : List ByteArray) : List ByteArray)).bind fun y127 => (if 0 < (y127.length : Int) then ((some (([rdOf ByteArray.empty y127 0, (⟨#[120]⟩ : ByteArray), rdOf ByteArray.empty y101 0, t108] : List ByteArray) : List ByteArray)).bind fun y132 => (if y117.length + y132.length < 8796093022208 then (if 1 < (y127.length : Int) then ((some (([rdOf ByteArray.empty y127 1, (⟨#[120]⟩ : ByteArray), (rdOf ByteArray.empty y101 (ji12)), t108] : List ByteArray) : List ByteArray)).bind fun y139 => (if y120.length + y139.length < 8796093022208 then ((Go.Proofs.YtjefbpfpobgmaaaDoor.PFx.laws_refFilter.f kj17 (y117 ++ y132)).bind fun bt145 => ((Go.Proofs.YtjefbpfpobgmaaaDoor.PFx.laws_refFilter.f kj17 (y120 ++ y139)).bind fun bt147 => (if bt145.2 = true then (if bt147.2 = true then (some (bt145.1.toList == bt147.1.toList)) else (none)) else (none)))) else (none))) else (none)) else (none))) else (none))) else (if 0 < (y123.length : Int) then ((some (([rdOf ByteArray.empty y123 0, (⟨#[120]⟩ : ByteArray), rdOf ByteArray.empty y101 0, t108] : List ByteArray) : List ByteArray)).bind fun y151 => (if y117.length + y151.length < 8796093022208 then (if 1 < (y123.length : Int) then ((some (([rdOf ByteArray.empty y123 1, (⟨#[120]⟩ : ByteArray), (rdOf ByteArray.empty y101 (ji12)), t108] : List ByteArray) : List ByteArray)).bind fun y158 => (if y120.length + y158.length < 8796093022208 then ((Go.Proofs.YtjefbpfpobgmaaaDoor.PFx.laws_refFilter.f kj17 (y117 ++ y151)).bind fun bt164 => ((Go.Proofs.YtjefbpfpobgmaaaDoor.PFx.laws_refFilter.f kj17 (y120 ++ y158)).bind fun bt166 => (if bt164.2 = true then (if bt166.2 = true then (some (bt164.1.toList == bt166.1.toList)) else (none)) else (none)))) else (none))) else (none)) else (none))) else (none))))) else ((Go.Proofs.YtjefbpfpobgmaaaDoor.PFx.laws_refFilter.f kj17 y117).bind fun bt168 => ((Go.Proofs.YtjefbpfpobgmaaaDoor.PFx.laws_refFilter.f kj17 y120).bind fun bt170 => (if bt168.2 = true then (if bt170.2 = true then (some (bt168.1.toList == bt170.1.toList)) else (none)) else (none)))))) = some r := by first | (rw [hy117]; with_reducible exact H) | (have H2_ := (Option.bind_some _ _).symm.trans H; rw [hy117]; with_reducible exact H2_) | (have H2_ := (Option.bind_some _ _).symm.trans H; with_reducible exact H2_) | with_reducible exact H | (rw [hy117]; exact H) | exact H
                    have Ny117 := Aside0.mk hy117
                    clear hy117
                    obtain ⟨y120, hy120⟩ : ∃ y_ : List ByteArray, y_ = (([(⟨#[120]⟩ : ByteArray), (rdOf ByteArray.empty y101 (ji12)), t107] : List ByteArray)) := ⟨_, rfl⟩
                    replace H : (if a4 = true then ((some (([(⟨#[111, 114]⟩ : ByteArray), (⟨#[124, 124]⟩ : ByteArray)] : List ByteArray) : List ByteArray)).bind fun y123 => ((Go.Proofs.YtjefbpfpobgmaaaDoor.PFx.laws_gridNumber.f (wrap64 (Int.tdiv a1 7)) 2).bind fun t126 => (if a5 = true then ((some (([(⟨#[111, 114]⟩ : ByteArray), (⟨#[124, 124]⟩ : ByteArray)] : List ByteArray) : List ByteArray)).bind fun y127 => (if 0 < (y127.length : Int) then ((some (([rdOf ByteArray.empty y127 0, (⟨#[120]⟩ : ByteArray), rdOf ByteArray.empty y101 0, t108] : List ByteArray) : List ByteArray)).bind fun y132 => (if y117.length + y132.length < 8796093022208 then (if 1 < (y127.length : Int) then ((some (([rdOf ByteArray.empty y127 1, (⟨#[120]⟩ : ByteArray), (rdOf ByteArray.empty y101 (ji12)), t108] : List ByteArray) : List ByteArray)).bind fun y139 => (if y120.length + y139.length < 8796093022208 then ((Go.Proofs.YtjefbpfpobgmaaaDoor.PFx.laws_refFilter.f kj17 (y117 ++ y132)).bind fun bt145 => ((Go.Proofs.YtjefbpfpobgmaaaDoor.PFx.laws_refFilter.f kj17 (y120 ++ y139)).bind fun bt147 => (if bt145.2 = true then (if bt147.2 = true then (some (bt145.1.toList == bt147.1.toList)) else (none)) else (none)))) else (none))) else (none)) else (none))) else (none))) else (if 0 < (y123.length : Int) then ((some (([rdOf ByteArray.empty y123 0, (⟨#[120]⟩ : ByteArray), rdOf ByteArray.empty y101 0, t108] : List ByteArray) : List ByteArray)).bind fun y151 => (if y117.length + y151.length < 8796093022208 then (if 1 < (y123.length : Int) then ((some (([rdOf ByteArray.empty y123 1, (⟨#[120]⟩ : ByteArray), (rdOf ByteArray.empty y101 (ji12)), t108] : List ByteArray) : List ByteArray)).bind fun y158 => (if y120.length + y158.length < 8796093022208 then ((Go.Proofs.YtjefbpfpobgmaaaDoor.PFx.laws_refFilter.f kj17 (y117 ++ y151)).bind fun bt164 => ((Go.Proofs.YtjefbpfpobgmaaaDoor.PFx.laws_refFilter.f kj17 (y120 ++ y158)).bind fun bt166 => (if bt164.2 = true then (if bt166.2 = true then (some (bt164.1.toList == bt166.1.toList)) else (none)) else (none)))) else (none))) else (none)) else (none))) else (none))))) else ((Go.Proofs.YtjefbpfpobgmaaaDoor.PFx.laws_refFilter.f kj17 y117).bind fun bt168 => ((Go.Proofs.YtjefbpfpobgmaaaDoor.PFx.laws_refFilter.f kj17 y120).bind fun bt170 => (if bt168.2 = true then (if bt170.2 = true then (some (bt168.1.toList == bt170.1.toList)) else (none)) else (none))))) = some r := by first | (rw [hy120]; with_reducible exact H) | (have H2_ := (Option.bind_some _ _).symm.trans H; rw [hy120]; with_reducible exact H2_) | (have H2_ := (Option.bind_some _ _).symm.trans H; with_reducible exact H2_) | with_reducible exact H | (rw [hy120]; exact H) | exact H
                    have Ny120 := Aside0.mk hy120
                    clear hy120
                    by_cases c39 : a4 = true
                    · subst c39
                      have H1 : ((some (([(⟨#[111, 114]⟩ : ByteArray), (⟨#[124, 124]⟩ : ByteArray)] : List ByteArray) : List ByteArray)).bind fun y123 => ((Go.Proofs.YtjefbpfpobgmaaaDoor.PFx.laws_gridNumber.f (wrap64 (Int.tdiv a1 7)) 2).bind fun t126 => (if a5 = true then ((some (([(⟨#[111, 114]⟩ : ByteArray), (⟨#[124, 124]⟩ : ByteArray)] : List ByteArray) : List ByteArray)).bind fun y127 => (if 0 < (y127.length : Int) then ((some (([rdOf ByteArray.empty y127 0, (⟨#[120]⟩ : ByteArray), rdOf ByteArray.empty y101 0, t108] : List ByteArray) : List ByteArray)).bind fun y132 => (if y117.length + y132.length < 8796093022208 then (if 1 < (y127.length : Int) then ((some (([rdOf ByteArray.empty y127 1, (⟨#[120]⟩ : ByteArray), (rdOf ByteArray.empty y101 (ji12)), t108] : List ByteArray) : List ByteArray)).bind fun y139 => (if y120.length + y139.length < 8796093022208 then ((Go.Proofs.YtjefbpfpobgmaaaDoor.PFx.laws_refFilter.f kj17 (y117 ++ y132)).bind fun bt145 => ((Go.Proofs.YtjefbpfpobgmaaaDoor.PFx.laws_refFilter.f kj17 (y120 ++ y139)).bind fun bt147 => (if bt145.2 = true then (if bt147.2 = true then (some (bt145.1.toList == bt147.1.toList)) else (none)) else (none)))) else (none))) else (none)) else (none))) else (none))) else (if 0 < (y123.length : Int) then ((some (([rdOf ByteArray.empty y123 0, (⟨#[120]⟩ : ByteArray), rdOf ByteArray.empty y101 0, t108] : List ByteArray) : List ByteArray)).bind fun y151 => (if y117.length + y151.length < 8796093022208 then (if 1 < (y123.length : Int) then ((some (([rdOf ByteArray.empty y123 1, (⟨#[120]⟩ : ByteArray), (rdOf ByteArray.empty y101 (ji12)), t108] : List ByteArray) : List ByteArray)).bind fun y158 => (if y120.length + y158.length < 8796093022208 then ((Go.Proofs.YtjefbpfpobgmaaaDoor.PFx.laws_refFilter.f kj17 (y117 ++ y151)).bind fun bt164 => ((Go.Proofs.YtjefbpfpobgmaaaDoor.PFx.laws_refFilter.f kj17 (y120 ++ y158)).bind fun bt166 => (if bt164.2 = true then (if bt166.2 = true then (some (bt164.1.toList == bt166.1.toList)) else (none)) else (none)))) else (none))) else (none)) else (none))) else (none))))) = some r := by rw [if_pos rfl] at H; exact H
                      clear H
                      have H := H1
                      clear H1
                      obtain ⟨y123, hy123⟩ : ∃ y_ : List ByteArray, y_ = (([(⟨#[111, 114]⟩ : ByteArray), (⟨#[124, 124]⟩ : ByteArray)] : List ByteArray)) := ⟨_, rfl⟩
                      replace H : ((Go.Proofs.YtjefbpfpobgmaaaDoor.PFx.laws_gridNumber.f (wrap64 (Int.tdiv a1 7)) 2).bind fun t126 => (if a5 = true then ((some (([(⟨#[111, 114]⟩ : ByteArray), (⟨#[124, 124]⟩ : ByteArray)] : List ByteArray) : List ByteArray)).bind fun y127 => (if 0 < (y127.length : Int) then ((some (([rdOf ByteArray.empty y127 0, (⟨#[120]⟩ : ByteArray), rdOf ByteArray.empty y101 0, t108] : List ByteArray) : List ByteArray)).bind fun y132 => (if y117.length + y132.length < 8796093022208 then (if 1 < (y127.length : Int) then ((some (([rdOf ByteArray.empty y127 1, (⟨#[120]⟩ : ByteArray), (rdOf ByteArray.empty y101 (ji12)), t108] : List ByteArray) : List ByteArray)).bind fun y139 => (if y120.length + y139.length < 8796093022208 then ((Go.Proofs.YtjefbpfpobgmaaaDoor.PFx.laws_refFilter.f kj17 (y117 ++ y132)).bind fun bt145 => ((Go.Proofs.YtjefbpfpobgmaaaDoor.PFx.laws_refFilter.f kj17 (y120 ++ y139)).bind fun bt147 => (if bt145.2 = true then (if bt147.2 = true then (some (bt145.1.toList == bt147.1.toList)) else (none)) else (none)))) else (none))) else (none)) else (none))) else (none))) else (if 0 < (y123.length : Int) then ((some (([rdOf ByteArray.empty y123 0, (⟨#[120]⟩ : ByteArray), rdOf ByteArray.empty y101 0, t108] : List ByteArray) : List ByteArray)).bind fun y151 => (if y117.length + y151.length < 8796093022208 then (if 1 < (y123.length : Int) then ((some (([rdOf ByteArray.empty y123 1, (⟨#[120]⟩ : ByteArray), (rdOf ByteArray.empty y101 (ji12)), t108] : List ByteArray) : List ByteArray)).bind fun y158 => (if y120.length + y158.length < 8796093022208 then ((Go.Proofs.YtjefbpfpobgmaaaDoor.PFx.laws_refFilter.f kj17 (y117 ++ y151)).bind fun bt164 => ((Go.Proofs.YtjefbpfpobgmaaaDoor.PFx.laws_refFilter.f kj17 (y120 ++ y158)).bind fun bt166 => (if bt164.2 = true then (if bt166.2 = true then (some (bt164.1.toList == bt166.1.toList)) else (none)) else (none)))) else (none))) else (none)) else (none))) else (none)))) = some r := by first | (rw [hy123]; with_reducible exact H) | (have H2_ := (Option.bind_some _ _).symm.trans H; rw [hy123]; with_reducible exact H2_) | (have H2_ := (Option.bind_some _ _).symm.trans H; with_reducible exact H2_) | with_reducible exact H | (rw [hy123]; exact H) | exact H
                      have Ny123 := Aside0.mk hy123
                      clear hy123
                      replace H := Option.bind_eq_some_iff.mp H
                      obtain ⟨t126, A400, H⟩ := H
                      have e_t126 : t126 = 2 := Option.some.inj (A400.symm.trans HLK.out)
                      replace H : (if a5 = true then ((some (([(⟨#[111, 114]⟩ : ByteArray), (⟨#[124, 124]⟩ : ByteArray)] : List ByteArray) : List ByteArray)).bind fun y127 => (if 0 < (y127.length : Int) then ((some (([rdOf ByteArray.empty y127 0, (⟨#[120]⟩ : ByteArray), rdOf ByteArray.empty y101 0, t108] : List ByteArray) : List ByteArray)).bind fun y132 => (if y117.length + y132.length < 8796093022208 then (if 1 < (y127.length : Int) then ((some (([rdOf ByteArray.empty y127 1, (⟨#[120]⟩ : ByteArray), (rdOf ByteArray.empty y101 (ji12)), t108] : List ByteArray) : List ByteArray)).bind fun y139 => (if y120.length + y139.length < 8796093022208 then ((Go.Proofs.YtjefbpfpobgmaaaDoor.PFx.laws_refFilter.f kj17 (y117 ++ y132)).bind fun bt145 => ((Go.Proofs.YtjefbpfpobgmaaaDoor.PFx.laws_refFilter.f kj17 (y120 ++ y139)).bind fun bt147 => (if bt145.2 = true then (if bt147.2 = true then (some (bt145.1.toList == bt147.1.toList)) else (none)) else (none)))) else (none))) else (none)) else (none))) else (none))) else (if 0 < (y123.length : Int) then ((some (([rdOf ByteArray.empty y123 0, (⟨#[120]⟩ : ByteArray), rdOf ByteArray.empty y101 0, t108] : List ByteArray) : List ByteArray)).bind fun y151 => (if y117.length + y151.length < 8796093022208 then (if 1 < (y123.length : Int) then ((some (([rdOf ByteArray.empty y123 1, (⟨#[120]⟩ : ByteArray), (rdOf ByteArray.empty y101 (ji12)), t108] : List ByteArray) : List ByteArray)).bind fun y158 => (if y120.length + y158.length < 8796093022208 then ((Go.Proofs.YtjefbpfpobgmaaaDoor.PFx.laws_refFilter.f kj17 (y117 ++ y151)).bind fun bt164 => ((Go.Proofs.YtjefbpfpobgmaaaDoor.PFx.laws_refFilter.f kj17 (y120 ++ y158)).bind fun bt166 => (if bt164.2 = true then (if bt166.2 = true then (some (bt164.1.toList == bt166.1.toList)) else (none)) else (none)))) else (none))) else (none)) else (none))) else (none))) = some r := H
                      have A40 := Aside0.mk A400
                      clear A400
                      by_cases c41 : a5 = true
                      · subst c41
                        have H1 : ((some (([(⟨#[111, 114]⟩ : ByteArray), (⟨#[124, 124]⟩ : ByteArray)] : List ByteArray) : List ByteArray)).bind fun y127 => (if 0 < (y127.length : Int) then ((some (([rdOf ByteArray.empty y127 0, (⟨#[120]⟩ : ByteArray), rdOf ByteArray.empty y101 0, t108] : List ByteArray) : List ByteArray)).bind fun y132 => (if y117.length + y132.length < 8796093022208 then (if 1 < (y127.length : Int) then ((some (([rdOf ByteArray.empty y127 1, (⟨#[120]⟩ : ByteArray), (rdOf ByteArray.empty y101 (ji12)), t108] : List ByteArray) : List ByteArray)).bind fun y139 => (if y120.length + y139.length < 8796093022208 then ((Go.Proofs.YtjefbpfpobgmaaaDoor.PFx.laws_refFilter.f kj17 (y117 ++ y132)).bind fun bt145 => ((Go.Proofs.YtjefbpfpobgmaaaDoor.PFx.laws_refFilter.f kj17 (y120 ++ y139)).bind fun bt147 => (if bt145.2 = true then (if bt147.2 = true then (some (bt145.1.toList == bt147.1.toList)) else (none)) else (none)))) else (none))) else (none)) else (none))) else (none))) = some r := by rw [if_pos rfl] at H; exact H
                        clear H
                        have H := H1
                        clear H1
                        obtain ⟨y127, hy127⟩ : ∃ y_ : List ByteArray, y_ = (([(⟨#[111, 114]⟩ : ByteArray), (⟨#[124, 124]⟩ : ByteArray)] : List ByteArray)) := ⟨_, rfl⟩
                        replace H : (if 0 < (y127.length : Int) then ((some (([rdOf ByteArray.empty y127 0, (⟨#[120]⟩ : ByteArray), rdOf ByteArray.empty y101 0, t108] : List ByteArray) : List ByteArray)).bind fun y132 => (if y117.length + y132.length < 8796093022208 then (if 1 < (y127.length : Int) then ((some (([rdOf ByteArray.empty y127 1, (⟨#[120]⟩ : ByteArray), (rdOf ByteArray.empty y101 (ji12)), t108] : List ByteArray) : List ByteArray)).bind fun y139 => (if y120.length + y139.length < 8796093022208 then ((Go.Proofs.YtjefbpfpobgmaaaDoor.PFx.laws_refFilter.f kj17 (y117 ++ y132)).bind fun bt145 => ((Go.Proofs.YtjefbpfpobgmaaaDoor.PFx.laws_refFilter.f kj17 (y120 ++ y139)).bind fun bt147 => (if bt145.2 = true then (if bt147.2 = true then (some (bt145.1.toList == bt147.1.toList)) else (none)) else (none)))) else (none))) else (none)) else (none))) else (none)) = some r := by first | (rw [hy127]; with_reducible exact H) | (have H2_ := (Option.bind_some _ _).symm.trans H; rw [hy127]; with_reducible exact H2_) | (have H2_ := (Option.bind_some _ _).symm.trans H; with_reducible exact H2_) | with_reducible exact H | (rw [hy127]; exact H) | exact H
                        have Ny127 := Aside0.mk hy127
                        clear hy127
                        by_cases c42 : 0 < (y127.length : Int)
                        · rw [if_pos c42] at H
                          have c42b0 : decide (0 < (y127.length : Int)) = true := decide_eq_true c42
                          have c42b1 : decide (0 < y127.length) = true := decide_eq_true (by omega)
                          clear c42
                          obtain ⟨y132, hy132⟩ : ∃ y_ : List ByteArray, y_ = (([rdOf ByteArray.empty y127 0, (⟨#[120]⟩ : ByteArray), rdOf ByteArray.empty y101 0, t108] : List ByteArray)) := ⟨_, rfl⟩
                          replace H : (if y117.length + y132.length < 8796093022208 then (if 1 < (y127.length : Int) then ((some (([rdOf ByteArray.empty y127 1, (⟨#[120]⟩ : ByteArray), (rdOf ByteArray.empty y101 (ji12)), t108] : List ByteArray) : List ByteArray)).bind fun y139 => (if y120.length + y139.length < 8796093022208 then ((Go.Proofs.YtjefbpfpobgmaaaDoor.PFx.laws_refFilter.f kj17 (y117 ++ y132)).bind fun bt145 => ((Go.Proofs.YtjefbpfpobgmaaaDoor.PFx.laws_refFilter.f kj17 (y120 ++ y139)).bind fun bt147 => (if bt145.2 = true then (if bt147.2 = true then (some (bt145.1.toList == bt147.1.toList)) else (none)) else (none)))) else (none))) else (none)) else (none)) = some r := by first | (rw [hy132]; with_reducible exact H) | (have H2_ := (Option.bind_some _ _).symm.trans H; rw [hy132]; with_reducible exact H2_) | (have H2_ := (Option.bind_some _ _).symm.trans H; with_reducible exact H2_) | with_reducible exact H | (rw [hy132]; exact H) | exact H
                          have Ny132 := Aside0.mk hy132
                          clear hy132
                          by_cases c43 : y117.length + y132.length < 8796093022208
                          · rw [if_pos c43] at H
                            have LMc43 := Aside0.mk c43
                            clear c43
                            obtain ⟨y135, hy135⟩ : ∃ y_ : List ByteArray, y_ = (y117 ++ y132) := ⟨_, rfl⟩
                            replace H : (if 1 < (y127.length : Int) then ((some (([rdOf ByteArray.empty y127 1, (⟨#[120]⟩ : ByteArray), (rdOf ByteArray.empty y101 (ji12)), t108] : List ByteArray) : List ByteArray)).bind fun y139 => (if y120.length + y139.length < 8796093022208 then ((Go.Proofs.YtjefbpfpobgmaaaDoor.PFx.laws_refFilter.f kj17 y135).bind fun bt145 => ((Go.Proofs.YtjefbpfpobgmaaaDoor.PFx.laws_refFilter.f kj17 (y120 ++ y139)).bind fun bt147 => (if bt145.2 = true then (if bt147.2 = true then (some (bt145.1.toList == bt147.1.toList)) else (none)) else (none)))) else (none))) else (none)) = some r := by first | (rw [hy135]; with_reducible exact H) | (have H2_ := (Option.bind_some _ _).symm.trans H; rw [hy135]; with_reducible exact H2_) | (have H2_ := (Option.bind_some _ _).symm.trans H; with_reducible exact H2_) | with_reducible exact H | (rw [hy135]; exact H) | exact H
                            have Ny135 := Aside0.mk hy135
                            clear hy135
                            by_cases c44 : 1 < (y127.length : Int)
                            · rw [if_pos c44] at H
                              have c44b0 : decide (1 < (y127.length : Int)) = true := decide_eq_true c44
                              have c44b1 : decide (1 < y127.length) = true := decide_eq_true (by omega)
                              clear c44
                              obtain ⟨y139, hy139⟩ : ∃ y_ : List ByteArray, y_ = (([rdOf ByteArray.empty y127 1, (⟨#[120]⟩ : ByteArray), (rdOf ByteArray.empty y101 (ji12)), t108] : List ByteArray)) := ⟨_, rfl⟩
                              replace H : (if y120.length + y139.length < 8796093022208 then ((Go.Proofs.YtjefbpfpobgmaaaDoor.PFx.laws_refFilter.f kj17 y135).bind fun bt145 => ((Go.Proofs.YtjefbpfpobgmaaaDoor.PFx.laws_refFilter.f kj17 (y120 ++ y139)).bind fun bt147 => (if bt145.2 = true then (if bt147.2 = true then (some (bt145.1.toList == bt147.1.toList)) else (none)) else (none)))) else (none)) = some r := by first | (rw [hy139]; with_reducible exact H) | (have H2_ := (Option.bind_some _ _).symm.trans H; rw [hy139]; with_reducible exact H2_) | (have H2_ := (Option.bind_some _ _).symm.trans H; with_reducible exact H2_) | with_reducible exact H | (rw [hy139]; exact H) | exact H
                              have Ny139 := Aside0.mk hy139
                              clear hy139
                              by_cases c45 : y120.length + y139.length < 8796093022208
                              · rw [if_pos c45] at H
                                have LMc45 := Aside0.mk c45
                                clear c45
                                obtain ⟨y142, hy142⟩ : ∃ y_ : List ByteArray, y_ = (y120 ++ y139) := ⟨_, rfl⟩
                                replace H : ((Go.Proofs.YtjefbpfpobgmaaaDoor.PFx.laws_refFilter.f kj17 y135).bind fun bt145 => ((Go.Proofs.YtjefbpfpobgmaaaDoor.PFx.laws_refFilter.f kj17 y142).bind fun bt147 => (if bt145.2 = true then (if bt147.2 = true then (some (bt145.1.toList == bt147.1.toList)) else (none)) else (none)))) = some r := by first | (rw [hy142]; with_reducible exact H) | (have H2_ := (Option.bind_some _ _).symm.trans H; rw [hy142]; with_reducible exact H2_) | (have H2_ := (Option.bind_some _ _).symm.trans H; with_reducible exact H2_) | with_reducible exact H | (rw [hy142]; exact H) | exact H
                                have Ny142 := Aside0.mk hy142
                                clear hy142
                                replace H := Option.bind_eq_some_iff.mp H
                                obtain ⟨⟨t145, t146⟩, A460, H⟩ := H
                                replace H : ((Go.Proofs.YtjefbpfpobgmaaaDoor.PFx.laws_refFilter.f kj17 y142).bind fun bt147 => (if t146 = true then (if bt147.2 = true then (some (t145.toList == bt147.1.toList)) else (none)) else (none))) = some r := H
                                have A46 := Aside0.mk A460
                                clear A460
                                replace H := Option.bind_eq_some_iff.mp H
                                obtain ⟨⟨t147, t148⟩, A470, H⟩ := H
                                replace H : (if t146 = true then (if t148 = true then (some (t145.toList == t147.toList)) else (none)) else (none)) = some r := H
                                have A47 := Aside0.mk A470
                                clear A470
                                by_cases c48 : t146 = true
                                · subst c48
                                  have H1 : (if t148 = true then (some (t145.toList == t147.toList)) else (none)) = some r := by rw [if_pos rfl] at H; exact H
                                  clear H
                                  have H := H1
                                  clear H1
                                  by_cases c49 : t148 = true
                                  · subst c49
                                    have H1 : (some (t145.toList == t147.toList)) = some r := by rw [if_pos rfl] at H; exact H
                                    clear H
                                    have H := H1
                                    clear H1
                                    obtain rfl := Option.some.inj H
                                    have p116 : 0 ≤ (0 : Int) := (by omega)
                                    have q116 : 0 < (y101.length : Int) := of_decide_eq_true (by first | (with_reducible assumption) | assumption)
                                    obtain ⟨ad116, e116, hx116_0⟩ := Kd.at_string (Kd.R_reads' HO_13.out).2.2 0 p116 q116
                                    obtain rfl : ad106 = ad116 := (by injection e116)
                                    have qi116 : (0 < y101.length) = True := eq_true (by omega)
                                    (try rw [show ((0 : Int)).toNat = 0 from rfl] at hx116_0)
                                    (try rw [Addr.add_zero'] at hx116_0)
                                    replace p116 := eq_true p116
                                    replace q116 := eq_true q116
                                    try go_wp2_with (first | ((with_reducible refine gate_dst (N := 78) rfl ?_); (try (refine gate_guard (by rfl) ?_; dsimp only)); refine Kd.R_lit Kd.string _ 9 ?hg (N := 78) ?hd (xs := ([(⟨#[120]⟩ : ByteArray), rdOf ByteArray.empty y101 0, t107] : List ByteArray)) (inner := [.string (⟨#[120]⟩ : ByteArray), .string (rdOf ByteArray.empty y101 0), .string t107]) (ok := fun _ => True) (okp := fun _ => True) ?hr ?hp (fun _ hk => hk) trivial (Below.refl _ _) (Nat.le_refl _) (by simp) ?_; (case hd => rfl); (case hg => rfl); (case hr => first | (go_simp; done) | (go_simp; rfl)); (case hp => exact (Reps.one (show Kd.M Kd.string _ _ _ (⟨#[120]⟩ : ByteArray) [.string (⟨#[120]⟩ : ByteArray)] from rfl) (Reps.one (show Kd.M Kd.string _ _ _ (rdOf ByteArray.empty y101 0) [.string (rdOf ByteArray.empty y101 0)] from rfl) (Reps.one (show Kd.M Kd.string _ _ _ t107 [.string t107] from rfl) (Reps.none _ _))))); intro v118 w50 ho51 hb hg_ hnew_; clear hg_ hnew_; (first | rw [← Ny117.out] at ho51 | (simp only [Int.reduceToNat] at ho51; rw [← Ny117.out] at ho51)); have n0_ := Aside0.mk (Kd.R_elder' (by (with_reducible repeat (first | apply Kd.R_alloc | apply Kd.R_drewN | apply Kd.R_drew)); exact HO_13.out) (Kd.R_base ho51) hb); have n1_ := Aside0.mk (Kd.R_lower (Kd.R_new' ho51 (Kd.R_lt (by (with_reducible repeat (first | apply Kd.R_alloc | apply Kd.R_drewN | apply Kd.R_drew)); exact HO_13.out))) (below_size (by repeat (first | (with_reducible first | exact HB.out | apply below_alloc | apply pw_below_drewN | apply below_drew1) | exact HB.out)))); have n2_ := Aside0.mk (below_step (by repeat (first | (with_reducible first | exact HB.out | apply below_alloc | apply pw_below_drewN | apply below_drew1) | exact HB.out)) hb); clear HO_13; clear HB; have HO_13 := n0_; have HO119 := n1_; have HB := n2_; clear n0_ n1_ n2_; clear hb ho51) | ((with_reducible refine gate_dst (N := 81) rfl ?_); (try (refine gate_guard (by rfl) ?_; dsimp only)); refine Kd.R_lit Kd.string _ 9 ?hg (N := 81) ?hd (xs := ([(⟨#[120]⟩ : ByteArray), (rdOf ByteArray.empty y101 (ji12)), t107] : List ByteArray)) (inner := [.string (⟨#[120]⟩ : ByteArray), .string (rdOf ByteArray.empty y101 (ji12)), .string t107]) (ok := fun _ => True) (okp := fun _ => True) ?hr ?hp (fun _ hk => hk) trivial (Below.refl _ _) (Nat.le_refl _) (by simp) ?_; (case hd => rfl); (case hg => rfl); (case hr => first | (go_simp; done) | (go_simp; rfl)); (case hp => exact (Reps.one (show Kd.M Kd.string _ _ _ (⟨#[120]⟩ : ByteArray) [.string (⟨#[120]⟩ : ByteArray)] from rfl) (Reps.one (show Kd.M Kd.string _ _ _ (rdOf ByteArray.empty y101 (ji12)) [.string (rdOf ByteArray.empty y101 (ji12))] from rfl) (Reps.one (show Kd.M Kd.string _ _ _ t107 [.string t107] from rfl) (Reps.none _ _))))); intro v121 w52 ho53 hb hg_ hnew_; clear hg_ hnew_; (first | rw [← Ny120.out] at ho53 | (simp only [Int.reduceToNat] at ho53; rw [← Ny120.out] at ho53)); have n0_ := Aside0.mk (Kd.R_elder' (by (with_reducible repeat (first | apply Kd.R_alloc | apply Kd.R_drewN | apply Kd.R_drew)); exact HO_13.out) (Kd.R_base ho53) hb); have n1_ := Aside0.mk (Kd.R_elder' (by (with_reducible repeat (first | apply Kd.R_alloc | apply Kd.R_drewN | apply Kd.R_drew)); exact HO119.out) (Kd.R_base ho53) hb); have n2_ := Aside0.mk (Kd.R_lower (Kd.R_new' (Kd.R_new' ho53 (Kd.R_lt (by (with_reducible repeat (first | apply Kd.R_alloc | apply Kd.R_drewN | apply Kd.R_drew)); exact HO_13.out))) (Kd.R_lt (by (with_reducible repeat (first | apply Kd.R_alloc | apply Kd.R_drewN | apply Kd.R_drew)); exact HO119.out))) (below_size (by repeat (first | (with_reducible first | exact HB.out | apply below_alloc | apply pw_below_drewN | apply below_drew1) | exact HB.out)))); have n3_ := Aside0.mk (below_step (by repeat (first | (with_reducible first | exact HB.out | apply below_alloc | apply pw_below_drewN | apply below_drew1) | exact HB.out)) hb); clear HO_13; clear HO119; clear HB; have HO_13 := n0_; have HO119 := n1_; have HO122 := n2_; have HB := n3_; clear n0_ n1_ n2_ n3_; clear hb ho53) | ((with_reducible refine gate_dst (N := 84) rfl ?_); (try (refine gate_guard (by rfl) ?_; dsimp only)); refine Kd.R_lit Kd.string _ 9 ?hg (N := 84) ?hd (xs := ([(⟨#[111, 114]⟩ : ByteArray), (⟨#[124, 124]⟩ : ByteArray)] : List ByteArray)) (inner := [.string (⟨#[111, 114]⟩ : ByteArray), .string (⟨#[124, 124]⟩ : ByteArray)]) (ok := fun _ => True) (okp := fun _ => True) ?hr ?hp (fun _ hk => hk) trivial (Below.refl _ _) (Nat.le_refl _) (by simp) ?_; (case hd => rfl); (case hg => rfl); (case hr => first | (go_simp; done) | (go_simp; rfl)); (case hp => exact (Reps.one (show Kd.M Kd.string _ _ _ (⟨#[111, 114]⟩ : ByteArray) [.string (⟨#[111, 114]⟩ : ByteArray)] from rfl) (Reps.one (show Kd.M Kd.string _ _ _ (⟨#[124, 124]⟩ : ByteArray) [.string (⟨#[124, 124]⟩ : ByteArray)] from rfl) (Reps.none _ _)))); intro v124 w54 ho55 hb hg_ hnew_; clear hg_ hnew_; (first | rw [← Ny123.out] at ho55 | (simp only [Int.reduceToNat] at ho55; rw [← Ny123.out] at ho55)); have n0_ := Aside0.mk (Kd.R_elder' (by (with_reducible repeat (first | apply Kd.R_alloc | apply Kd.R_drewN | apply Kd.R_drew)); exact HO_13.out) (Kd.R_base ho55) hb); have n1_ := Aside0.mk (Kd.R_elder' (by (with_reducible repeat (first | apply Kd.R_alloc | apply Kd.R_drewN | apply Kd.R_drew)); exact HO119.out) (Kd.R_base ho55) hb); have n2_ := Aside0.mk (Kd.R_elder' (by (with_reducible repeat (first | apply Kd.R_alloc | apply Kd.R_drewN | apply Kd.R_drew)); exact HO122.out) (Kd.R_base ho55) hb); have n3_ := Aside0.mk (Kd.R_lower (Kd.R_new' (Kd.R_new' (Kd.R_new' ho55 (Kd.R_lt (by (with_reducible repeat (first | apply Kd.R_alloc | apply Kd.R_drewN | apply Kd.R_drew)); exact HO_13.out))) (Kd.R_lt (by (with_reducible repeat (first | apply Kd.R_alloc | apply Kd.R_drewN | apply Kd.R_drew)); exact HO119.out))) (Kd.R_lt (by (with_reducible repeat (first | apply Kd.R_alloc | apply Kd.R_drewN | apply Kd.R_drew)); exact HO122.out))) (below_size (by repeat (first | (with_reducible first | exact HB.out | apply below_alloc | apply pw_below_drewN | apply below_drew1) | exact HB.out)))); have n4_ := Aside0.mk (below_step (by repeat (first | (with_reducible first | exact HB.out | apply below_alloc | apply pw_below_drewN | apply below_drew1) | exact HB.out)) hb); clear HO_13; clear HO119; clear HO122; clear HB; have HO_13 := n0_; have HO119 := n1_; have HO122 := n2_; have HO125 := n3_; have HB := n4_; clear n0_ n1_ n2_ n3_ n4_; clear hb ho55; obtain ⟨Aq84, cq84, eq84⟩ := Kd.R_slice HO125.out; subst eq84) | ((with_reducible refine gate_callee (f := 10) rfl ?_); refine goesL_ (some 88) rfl rfl Tryd.func10 (by kernel_rfl) rfl #[.int .i64 (wrap64 (Int.tdiv a1 7)), .int .i64 2] rfl (by (try simp only [List.map_toArray, List.map_cons, List.map_nil]); first | done | rfl | (simp only [List.length_drop, List.length_take]; rfl)) ?_; (with_reducible refine (Go.Proofs.YtjefbpfpobgmaaaDoor.PFx.laws_gridNumber.calls (wrap64 (Int.tdiv a1 7)) 2 t126 _ A40.out).mono ?_); rintro e w' ⟨rfl, ⟨nd, rfl⟩⟩; refine ⟨_, rfl, ?_⟩) | ((with_reducible refine gate_dst (N := 93) rfl ?_); (try (refine gate_guard (by rfl) ?_; dsimp only)); refine Kd.R_lit Kd.string _ 9 ?hg (N := 93) ?hd (xs := ([(⟨#[111, 114]⟩ : ByteArray), (⟨#[124, 124]⟩ : ByteArray)] : List ByteArray)) (inner := [.string (⟨#[111, 114]⟩ : ByteArray), .string (⟨#[124, 124]⟩ : ByteArray)]) (ok := fun _ => True) (okp := fun _ => True) ?hr ?hp (fun _ hk => hk) trivial (Below.refl _ _) (Nat.le_refl _) (by simp) ?_; (case hd => rfl); (case hg => rfl); (case hr => first | (go_simp; done) | (go_simp; rfl)); (case hp => exact (Reps.one (show Kd.M Kd.string _ _ _ (⟨#[111, 114]⟩ : ByteArray) [.string (⟨#[111, 114]⟩ : ByteArray)] from rfl) (Reps.one (show Kd.M Kd.string _ _ _ (⟨#[124, 124]⟩ : ByteArray) [.string (⟨#[124, 124]⟩ : ByteArray)] from rfl) (Reps.none _ _)))); intro v128 w56 ho57 hb hg_ hnew_; clear hg_ hnew_; (first | rw [← Ny127.out] at ho57 | (simp only [Int.reduceToNat] at ho57; rw [← Ny127.out] at ho57)); have n0_ := Aside0.mk (Kd.R_elder' (by (with_reducible repeat (first | apply Kd.R_alloc | apply Kd.R_drewN | apply Kd.R_drew)); exact HO_13.out) (Kd.R_base ho57) hb); have n1_ := Aside0.mk (Kd.R_elder' (by (with_reducible repeat (first | apply Kd.R_alloc | apply Kd.R_drewN | apply Kd.R_drew)); exact HO119.out) (Kd.R_base ho57) hb); have n2_ := Aside0.mk (Kd.R_elder' (by (with_reducible repeat (first | apply Kd.R_alloc | apply Kd.R_drewN | apply Kd.R_drew)); exact HO122.out) (Kd.R_base ho57) hb); have n3_ := Aside0.mk (Kd.R_elder' (by (with_reducible repeat (first | apply Kd.R_alloc | apply Kd.R_drewN | apply Kd.R_drew)); exact HO125.out) (Kd.R_base ho57) hb); have n4_ := Aside0.mk (Kd.R_lower (Kd.R_new' (Kd.R_new' (Kd.R_new' (Kd.R_new' ho57 (Kd.R_lt (by (with_reducible repeat (first | apply Kd.R_alloc | apply Kd.R_drewN | apply Kd.R_drew)); exact HO_13.out))) (Kd.R_lt (by (with_reducible repeat (first | apply Kd.R_alloc | apply Kd.R_drewN | apply Kd.R_drew)); exact HO119.out))) (Kd.R_lt (by (with_reducible repeat (first | apply Kd.R_alloc | apply Kd.R_drewN | apply Kd.R_drew)); exact HO122.out))) (Kd.R_lt (by (with_reducible repeat (first | apply Kd.R_alloc | apply Kd.R_drewN | apply Kd.R_drew)); exact HO125.out))) (below_size (by repeat (first | (with_reducible first | exact HB.out | apply below_alloc | apply pw_below_drewN | apply below_drew1) | exact HB.out)))); have n5_ := Aside0.mk (below_step (by repeat (first | (with_reducible first | exact HB.out | apply below_alloc | apply pw_below_drewN | apply below_drew1) | exact HB.out)) hb); clear HO_13; clear HO119; clear HO122; clear HO125; clear HB; have HO_13 := n0_; have HO119 := n1_; have HO122 := n2_; have HO125 := n3_; have HO129 := n4_; have HB := n5_; clear n0_ n1_ n2_ n3_ n4_ n5_; clear hb ho57))
                                    have n0_ := Aside0.mk (Kd.R_drew HO_13.out)
                                    have n1_ := Aside0.mk (Kd.R_drew HO119.out)
                                    have n2_ := Aside0.mk (Kd.R_drew HO122.out)
                                    have n3_ := Aside0.mk (Kd.R_drew HO125.out)
                                    have n4_ := Aside0.mk (Kd.R_drew HO129.out)
                                    have n5_ := Aside0.mk (below_drew1 HB.out)
                                    clear HO_13
                                    clear HO119
                                    clear HO122
                                    clear HO125
                                    clear HO129
                                    clear HB
                                    have HO_13 := n0_
                                    have HO119 := n1_
                                    have HO122 := n2_
                                    have HO125 := n3_
                                    have HO129 := n4_
                                    have HB := n5_
                                    clear n0_ n1_ n2_ n3_ n4_ n5_
                                    obtain ⟨Ao59, co59, eo59⟩ := Kd.R_slice HO129.out
                                    (first | (first | subst eo59 | (injection eo59 with e1_ e2_ e3_; subst e1_; have e4_ := e3_.symm; clear e3_; subst e4_)) | (injection eo59 with f1_ f2_ f3_; have f4_ := f1_.symm; have f5_ := f3_.symm; clear f1_ f2_ f3_; subst f4_; subst f5_))
                                    have p130 : 0 ≤ (0 : Int) := (by omega)
                                    have q130 : 0 < (y127.length : Int) := of_decide_eq_true (by first | (with_reducible assumption) | assumption)
                                    obtain ⟨ad130, e130, hx130_0⟩ := Kd.at_string (Kd.R_reads' HO129.out).2.2 0 p130 q130
                                    cases e130
                                    have qi130 : (0 < y127.length) = True := eq_true (by omega)
                                    (try rw [show ((0 : Int)).toNat = 0 from rfl] at hx130_0)
                                    (try rw [Addr.add_zero'] at hx130_0)
                                    replace p130 := eq_true p130
                                    replace q130 := eq_true q130
                                    have p131 : 0 ≤ (0 : Int) := (by omega)
                                    have q131 : 0 < (y101.length : Int) := of_decide_eq_true (by first | (with_reducible assumption) | assumption)
                                    obtain ⟨ad131, e131, hx131_0⟩ := Kd.at_string (Kd.R_reads' HO_13.out).2.2 0 p131 q131
                                    obtain rfl : ad106 = ad131 := (by injection e131)
                                    have qi131 : (0 < y101.length) = True := eq_true (by omega)
                                    (try rw [show ((0 : Int)).toNat = 0 from rfl] at hx131_0)
                                    (try rw [Addr.add_zero'] at hx131_0)
                                    replace p131 := eq_true p131
                                    replace q131 := eq_true q131
                                    refine start_ (n := 11) (S := fun w' => w'.cell? ad130 = some (.string (rdOf ByteArray.empty y127 0)) ∧ w'.cell? ad106 = some (.string (rdOf ByteArray.empty y101 0))) (ds := [9]) #[false, false, false, false, false, false, false, false, false, false, false] (by kernel_rfl) rfl rfl ⟨hx130_0, hx131_0⟩ (fun hHeld => ?_); refine with_tabW laws_FnFilterWords.tab15 laws_FnFilterWords.bits15 (fun HT_ HW_ => ?_)
                                    generalize w56.drew = w58 at HO_13 HO119 HO122 HO125 HO129 HB hx130_0 hx131_0 hHeld ⊢
                                    refine pure_ (i := 0) (N := some 94) (v := ?_) (a' := ?_) #[true, false, false, false, false, false, false, false, false, false, false] rfl rfl (any_of HT_.out (by kernel_rfl)) (fun _ _ _ h => h) (Or.inl ⟨by rfl, ?_⟩) ?_ ?_
                                    rotate_left
                                    · intro w'
                                      go_simp
                                      with_reducible rfl
                                    rotate_left
                                    · simp only [Act.put, List.setIfInBounds_toArray, List.set_cons_zero, List.set_cons_succ, i64_w, i32_w]
                                      rfl
                                    refine pure_ (i := 1) (N := some 95) (v := ?_) (a' := ?_) #[true, true, false, false, false, false, false, false, false, false, false] rfl rfl (any_of HT_.out (by kernel_rfl)) (fun _ _ _ h => h) (Or.inl ⟨by rfl, ?_⟩) ?_ ?_
                                    rotate_left
                                    · intro w'
                                      go_simp
                                      with_reducible rfl
                                    rotate_left
                                    · simp only [Act.put, List.setIfInBounds_toArray, List.set_cons_zero, List.set_cons_succ, i64_w, i32_w]
                                      rfl
                                    refine pure_ (i := 2) (N := some 96) (v := ?_) (a' := ?_) #[true, true, true, false, false, false, false, false, false, false, false] rfl rfl (any_of HT_.out (by kernel_rfl)) (fun _ _ _ h => h) (Or.inl ⟨by rfl, ?_⟩) ?_ ?_
                                    rotate_left
                                    · intro w'
                                      go_simp
                                      with_reducible rfl
                                    rotate_left
                                    · simp only [Act.put, List.setIfInBounds_toArray, List.set_cons_zero, List.set_cons_succ, i64_w, i32_w]
                                      rfl
                                    refine pure_ (i := 4) (N := some 98) (v := ?_) (a' := ?_) #[true, true, true, false, true, false, false, false, false, false, false] rfl rfl (any_of HT_.out (by kernel_rfl)) (fun _ _ _ h => h) (Or.inl ⟨by rfl, ?_⟩) ?_ ?_
                                    rotate_left
                                    · intro w'
                                      go_simp
                                      with_reducible rfl
                                    rotate_left
                                    · simp only [Act.put, List.setIfInBounds_toArray, List.set_cons_zero, List.set_cons_succ, i64_w, i32_w]
                                      rfl
                                    refine pure_ (i := 5) (N := some 99) (v := ?_) (a' := ?_) #[true, true, true, false, true, true, false, false, false, false, false] rfl rfl (any_of HT_.out (by kernel_rfl)) (fun _ _ _ h => h) (Or.inl ⟨by rfl, ?_⟩) ?_ ?_
                                    rotate_left
                                    · intro w'
                                      go_simp
                                      with_reducible rfl
                                    rotate_left
                                    · simp only [Act.put, List.setIfInBounds_toArray, List.set_cons_zero, List.set_cons_succ, i64_w, i32_w]
                                      rfl
                                    refine pure_ (i := 7) (N := some 101) (v := ?_) (a' := ?_) #[true, true, true, false, true, true, false, true, false, false, false] rfl rfl (any_of HT_.out (by kernel_rfl)) (fun _ _ _ h => h) (Or.inl ⟨by rfl, ?_⟩) ?_ ?_
                                    rotate_left
                                    · intro w'
                                      go_simp
                                      with_reducible rfl
                                    rotate_left
                                    · simp only [Act.put, List.setIfInBounds_toArray, List.set_cons_zero, List.set_cons_succ, i64_w, i32_w]
                                      rfl
                                    refine take_ (i := 3) (N := some 97) (v := ?_) (a' := ?_) #[true, true, true, true, true, true, false, true, false, false, false] rfl rfl (take_ofW HT_.out HW_.out (by kernel_rfl)) (fun _ _ _ h => h) (Or.inl ⟨by rfl, ?_⟩) hHeld ?_ ?_
                                    rotate_left
                                    · rintro w' ⟨s0, s1⟩
                                      go_simp
                                      with_reducible rfl
                                    rotate_left
                                    · simp only [Act.put, List.setIfInBounds_toArray, List.set_cons_zero, List.set_cons_succ, i64_w, i32_w]
                                      rfl
                                    refine take_ (i := 6) (N := some 100) (v := ?_) (a' := ?_) #[true, true, true, true, true, true, true, true, false, false, false] rfl rfl (take_ofW HT_.out HW_.out (by kernel_rfl)) (fun _ _ _ h => h) (Or.inl ⟨by rfl, ?_⟩) hHeld ?_ ?_
                                    rotate_left
                                    · rintro w' ⟨s0, s1⟩
                                      go_simp
                                      with_reducible rfl
                                    rotate_left
                                    · simp only [Act.put, List.setIfInBounds_toArray, List.set_cons_zero, List.set_cons_succ, i64_w, i32_w]
                                      rfl
                                    refine one_ (i := 8) (N := some 102) #[true, true, true, true, true, true, true, true, true, false, false] rfl rfl (one_of HT_.out (by kernel_rfl)) (by decide) (fun K hK => ?_)
                                    refine Kd.R_lit_step Kd.string _ 9 ?hg (N := 102) ?hd (xs := ([rdOf ByteArray.empty y127 0, (⟨#[120]⟩ : ByteArray), rdOf ByteArray.empty y101 0, t108] : List ByteArray)) (inner := [.string (rdOf ByteArray.empty y127 0), .string (⟨#[120]⟩ : ByteArray), .string (rdOf ByteArray.empty y101 0), .string t108]) (ok := fun _ => True) (okp := fun _ => True) ?hr ?hp (fun _ hk => hk) trivial (Below.refl _ _) (Nat.le_refl _) (by simp) ?_; (case hd => rfl); (case hg => rfl); (case hr => first | (go_simp; done) | (go_simp; rfl)); (case hp => exact (Reps.one (show Kd.M Kd.string _ _ _ (rdOf ByteArray.empty y127 0) [.string (rdOf ByteArray.empty y127 0)] from rfl) (Reps.one (show Kd.M Kd.string _ _ _ (⟨#[120]⟩ : ByteArray) [.string (⟨#[120]⟩ : ByteArray)] from rfl) (Reps.one (show Kd.M Kd.string _ _ _ (rdOf ByteArray.empty y101 0) [.string (rdOf ByteArray.empty y101 0)] from rfl) (Reps.one (show Kd.M Kd.string _ _ _ t108 [.string t108] from rfl) (Reps.none _ _))))))
                                    intro v133 w60 ho61 hb hg_ hnew_
                                    have HS0_ := (hb.cell (World.block_lt_of_cell? _ _ (hHeld.1))).trans (hHeld.1)
                                    have HS1_ := (hb.cell (World.block_lt_of_cell? _ _ (hHeld.2))).trans (hHeld.2)
                                    clear hg_ hnew_
                                    (first | rw [← Ny132.out] at ho61 | (simp only [Int.reduceToNat] at ho61; rw [← Ny132.out] at ho61))
                                    have n0_ := Aside0.mk (Kd.R_elder' (by (with_reducible repeat (first | apply Kd.R_alloc | apply Kd.R_drewN | apply Kd.R_drew)); exact HO_13.out) (Kd.R_base ho61) hb)
                                    have n1_ := Aside0.mk (Kd.R_elder' (by (with_reducible repeat (first | apply Kd.R_alloc | apply Kd.R_drewN | apply Kd.R_drew)); exact HO119.out) (Kd.R_base ho61) hb)
                                    have n2_ := Aside0.mk (Kd.R_elder' (by (with_reducible repeat (first | apply Kd.R_alloc | apply Kd.R_drewN | apply Kd.R_drew)); exact HO122.out) (Kd.R_base ho61) hb)
                                    have n3_ := Aside0.mk (Kd.R_elder' (by (with_reducible repeat (first | apply Kd.R_alloc | apply Kd.R_drewN | apply Kd.R_drew)); exact HO125.out) (Kd.R_base ho61) hb)
                                    have n4_ := Aside0.mk (Kd.R_elder' (by (with_reducible repeat (first | apply Kd.R_alloc | apply Kd.R_drewN | apply Kd.R_drew)); exact HO129.out) (Kd.R_base ho61) hb)
                                    have n5_ := Aside0.mk (Kd.R_lower (Kd.R_new' (Kd.R_new' (Kd.R_new' (Kd.R_new' (Kd.R_new' ho61 (Kd.R_lt (by (with_reducible repeat (first | apply Kd.R_alloc | apply Kd.R_drewN | apply Kd.R_drew)); exact HO_13.out))) (Kd.R_lt (by (with_reducible repeat (first | apply Kd.R_alloc | apply Kd.R_drewN | apply Kd.R_drew)); exact HO119.out))) (Kd.R_lt (by (with_reducible repeat (first | apply Kd.R_alloc | apply Kd.R_drewN | apply Kd.R_drew)); exact HO122.out))) (Kd.R_lt (by (with_reducible repeat (first | apply Kd.R_alloc | apply Kd.R_drewN | apply Kd.R_drew)); exact HO125.out))) (Kd.R_lt (by (with_reducible repeat (first | apply Kd.R_alloc | apply Kd.R_drewN | apply Kd.R_drew)); exact HO129.out))) (below_size (by repeat (first | (with_reducible first | exact HB.out | apply below_alloc | apply pw_below_drewN | apply below_drew1) | exact HB.out))))
                                    have n6_ := Aside0.mk (below_step (by repeat (first | (with_reducible first | exact HB.out | apply below_alloc | apply pw_below_drewN | apply below_drew1) | exact HB.out)) hb)
                                    clear HO_13
                                    clear HO119
                                    clear HO122
                                    clear HO125
                                    clear HO129
                                    clear HB
                                    have HO_13 := n0_
                                    have HO119 := n1_
                                    have HO122 := n2_
                                    have HO125 := n3_
                                    have HO129 := n4_
                                    have HO134 := n5_
                                    have HB := n6_
                                    clear n0_ n1_ n2_ n3_ n4_ n5_ n6_
                                    clear hb ho61
                                    obtain ⟨Ao63, co63, eo63⟩ := Kd.R_slice HO134.out
                                    (first | (first | subst eo63 | (injection eo63 with e1_ e2_ e3_; subst e1_; have e4_ := e3_.symm; clear e3_; subst e4_)) | (injection eo63 with f1_ f2_ f3_; have f4_ := f1_.symm; have f5_ := f3_.symm; clear f1_ f2_ f3_; subst f4_; subst f5_))
                                    refine hK.out _ _ ⟨HS0_, HS1_⟩ (fun hHeld => ?_)
                                    clear hK K
                                    refine norm_ (a' := ?_) ?_ ?_
                                    rotate_left
                                    · show Act.put _ (some 102) _ = _
                                      simp only [Act.put, List.setIfInBounds_toArray, List.set_cons_zero, List.set_cons_succ, i64_w, i32_w]
                                      rfl
                                    refine last_ (i := 9) (N := some 103) #[true, true, true, true, true, true, true, true, true, true, false] rfl rfl (one_of HT_.out (by kernel_rfl)) (by decide) (fun K hK => ?_)
                                    refine Kd.R_append_rows_step Kd.string (w0 := w) w.heap.size (by rfl) (.tmp 94) (.tmp 102) 26 9 (.string ⟨#[]⟩) 16 rfl Tryd.underlying26 info9 rfl (by decide) (by omega) v118 y117 y132 _ _ _ (fun k_ => some k_ ≠ (.slice (some ad106) y101.length co21 : Value).ownBlock ∧ some k_ ≠ (v121 : Value).ownBlock ∧ some k_ ≠ (.slice Aq84 y123.length cq84 : Value).ownBlock ∧ some k_ ≠ (.slice (some ad130) y127.length co59 : Value).ownBlock ∧ some k_ ≠ (.slice Ao63 y132.length co63 : Value).ownBlock) (fun _ => False) rfl rfl ?aO ?aR (fun _ _ h => h) (fun _ h => h.elim) ?aF ?aB ?aS ?aL ?_
                                    (case aR => repeat (first | exact (Kd.R_reads' HO134.out).2.2 | (with_reducible refine Kd.C_alloc ?_ _) | (with_reducible refine Kd.C_drewN ?_ _) | (with_reducible refine Kd.C_drew ?_)))
                                    (case aB => exact (by repeat (first | (with_reducible first | exact HB.out | apply below_alloc | apply pw_below_drewN | apply below_drew1) | exact HB.out)))
                                    (case aF => exact (fun k_ hk => ⟨Kd.fresh' (Kd.R_lt (by (with_reducible repeat (first | apply Kd.R_alloc | apply Kd.R_drewN | apply Kd.R_drew)); exact HO_13.out)) k_ hk, Kd.fresh' (Kd.R_lt (by (with_reducible repeat (first | apply Kd.R_alloc | apply Kd.R_drewN | apply Kd.R_drew)); exact HO122.out)) k_ hk, Kd.fresh' (Kd.R_lt (by (with_reducible repeat (first | apply Kd.R_alloc | apply Kd.R_drewN | apply Kd.R_drew)); exact HO125.out)) k_ hk, Kd.fresh' (Kd.R_lt (by (with_reducible repeat (first | apply Kd.R_alloc | apply Kd.R_drewN | apply Kd.R_drew)); exact HO129.out)) k_ hk, Kd.fresh' (Kd.R_lt (by (with_reducible repeat (first | apply Kd.R_alloc | apply Kd.R_drewN | apply Kd.R_drew)); exact HO134.out)) k_ hk⟩))
                                    (case aO => exact (by (with_reducible repeat (first | apply Kd.R_alloc | apply Kd.R_drewN | apply Kd.R_drew)); exact Kd.R_mono HO119.out (fun _ hk => ⟨hk.1.1.1.1.2, ⟨hk.1.1.1.2, ⟨hk.1.1.2, ⟨hk.1.2, hk.2⟩⟩⟩⟩)))
                                    (case aS => exact (below_size (by repeat (first | (with_reducible first | exact HB.out | apply below_alloc | apply pw_below_drewN | apply below_drew1) | exact HB.out))))
                                    (case aL => have := LMc43.out; omega)
                                    intro v136 w62 ho hb hg hat
                                    rw [← Ny135.out] at ho
                                    have n0_ := Aside0.mk (Kd.R_after (ok := (fun k_ => some k_ ≠ (v121 : Value).ownBlock ∧ some k_ ≠ (.slice Aq84 y123.length cq84 : Value).ownBlock ∧ some k_ ≠ (.slice (some ad130) y127.length co59 : Value).ownBlock ∧ some k_ ≠ (.slice Ao63 y132.length co63 : Value).ownBlock)) (by (with_reducible repeat (first | apply Kd.R_alloc | apply Kd.R_drewN | apply Kd.R_drew)); exact Kd.R_mono HO_13.out (fun _ hk => ⟨⟨hk.1.1.1.2, ⟨hk.1.1.2, ⟨hk.1.2, hk.2⟩⟩⟩, hk.1.1.1.1.2⟩)) hg hat)
                                    have n1_ := Aside0.mk (Kd.R_after (ok := (fun k_ => some k_ ≠ (.slice (some ad106) y101.length co21 : Value).ownBlock ∧ some k_ ≠ (.slice Aq84 y123.length cq84 : Value).ownBlock ∧ some k_ ≠ (.slice (some ad130) y127.length co59 : Value).ownBlock ∧ some k_ ≠ (.slice Ao63 y132.length co63 : Value).ownBlock)) (by (with_reducible repeat (first | apply Kd.R_alloc | apply Kd.R_drewN | apply Kd.R_drew)); exact Kd.R_mono HO122.out (fun _ hk => ⟨⟨hk.1.1.1.1.2, ⟨hk.1.1.2, ⟨hk.1.2, hk.2⟩⟩⟩, hk.1.1.1.2⟩)) hg hat)
                                    have n2_ := Aside0.mk (Kd.R_after (ok := (fun k_ => some k_ ≠ (.slice (some ad106) y101.length co21 : Value).ownBlock ∧ some k_ ≠ (v121 : Value).ownBlock ∧ some k_ ≠ (.slice (some ad130) y127.length co59 : Value).ownBlock ∧ some k_ ≠ (.slice Ao63 y132.length co63 : Value).ownBlock)) (by (with_reducible repeat (first | apply Kd.R_alloc | apply Kd.R_drewN | apply Kd.R_drew)); exact Kd.R_mono HO125.out (fun _ hk => ⟨⟨hk.1.1.1.1.2, ⟨hk.1.1.2, ⟨hk.1.2, hk.2⟩⟩⟩, hk.1.1.1.2⟩)) hg hat)
                                    have n3_ := Aside0.mk (Kd.R_after (ok := (fun k_ => some k_ ≠ (.slice (some ad106) y101.length co21 : Value).ownBlock ∧ some k_ ≠ (v121 : Value).ownBlock ∧ some k_ ≠ (.slice Aq84 y123.length cq84 : Value).ownBlock ∧ some k_ ≠ (.slice Ao63 y132.length co63 : Value).ownBlock)) (by (with_reducible repeat (first | apply Kd.R_alloc | apply Kd.R_drewN | apply Kd.R_drew)); exact Kd.R_mono HO129.out (fun _ hk => ⟨⟨hk.1.1.1.1.2, ⟨hk.1.1.2, ⟨hk.1.2, hk.2⟩⟩⟩, hk.1.1.1.2⟩)) hg hat)
                                    have n4_ := Aside0.mk (Kd.R_after (ok := (fun k_ => some k_ ≠ (.slice (some ad106) y101.length co21 : Value).ownBlock ∧ some k_ ≠ (v121 : Value).ownBlock ∧ some k_ ≠ (.slice Aq84 y123.length cq84 : Value).ownBlock ∧ some k_ ≠ (.slice (some ad130) y127.length co59 : Value).ownBlock)) (by (with_reducible repeat (first | apply Kd.R_alloc | apply Kd.R_drewN | apply Kd.R_drew)); exact Kd.R_mono HO134.out (fun _ hk => ⟨⟨hk.1.1.1.1.2, ⟨hk.1.1.2, ⟨hk.1.2, hk.2⟩⟩⟩, hk.1.1.1.2⟩)) hg hat)
                                    have n5_ := Aside0.mk (hb)
                                    have n6_ := Aside0.mk (ho)
                                    clear HO_13
                                    clear HO122
                                    clear HO125
                                    clear HO129
                                    clear HO134
                                    clear HB
                                    clear HO119
                                    have HO_13 := n0_
                                    have HO122 := n1_
                                    have HO125 := n2_
                                    have HO129 := n3_
                                    have HO134 := n4_
                                    have HB := n5_
                                    have HO137 := n6_
                                    clear n0_ n1_ n2_ n3_ n4_ n5_ n6_
                                    clear ho hb hg hat
                                    refine hK.out _ _ ?_
                                    clear hK K
                                    refine norm_ (a' := ?_) ?_ ?_
                                    rotate_left
                                    · show Act.put _ (some 103) _ = _
                                      simp only [Act.put, List.setIfInBounds_toArray, List.set_cons_zero, List.set_cons_succ, i64_w, i32_w]
                                      rfl
                                    refine pure_ (i := 10) (N := some 17) (v := ?_) (a' := ?_) #[true, true, true, true, true, true, true, true, true, true, true] rfl rfl (any_of HT_.out (by kernel_rfl)) (fun _ _ _ h => h) (Or.inl ⟨by rfl, ?_⟩) ?_ ?_
                                    rotate_left
                                    · intro w'
                                      go_simp
                                      with_reducible rfl
                                    rotate_left
                                    · simp only [Act.put, List.setIfInBounds_toArray, List.set_cons_zero, List.set_cons_succ, i64_w, i32_w]
                                      rfl
                                    refine done_ (done_of HT_.out (by kernel_rfl)) ?_
                                    have p138 : 0 ≤ (1 : Int) := (by omega)
                                    have q138 : 1 < (y127.length : Int) := of_decide_eq_true (by first | (with_reducible assumption) | assumption)
                                    obtain ⟨ad138, e138, hx138_0⟩ := Kd.at_string (Kd.R_reads' HO129.out).2.2 1 p138 q138
                                    obtain rfl : ad130 = ad138 := (by injection e138)
                                    (try simp only [show (1 : Int).toNat = 1 from rfl, Nat.reduceMul, Nat.reduceEqDiff, Go.Addr.add, ↓reduceIte] at hx138_0)
                                    have qi138 : (1 < y127.length) = True := eq_true (by omega)
                                    (try rw [show ((1 : Int)).toNat = 1 from rfl] at hx138_0)
                                    replace p138 := eq_true p138
                                    replace q138 := eq_true q138
                                    try go_wp2_with (first | ((with_reducible refine gate_dst (N := 110) rfl ?_); (try (refine gate_guard (by rfl) ?_; dsimp only)); refine Kd.R_lit Kd.string _ 9 ?hg (N := 110) ?hd (xs := ([rdOf ByteArray.empty y127 1, (⟨#[120]⟩ : ByteArray), (rdOf ByteArray.empty y101 (ji12)), t108] : List ByteArray)) (inner := [.string (rdOf ByteArray.empty y127 1), .string (⟨#[120]⟩ : ByteArray), .string (rdOf ByteArray.empty y101 (ji12)), .string t108]) (ok := fun _ => True) (okp := fun _ => True) ?hr ?hp (fun _ hk => hk) trivial (Below.refl _ _) (Nat.le_refl _) (by simp) ?_; (case hd => rfl); (case hg => rfl); (case hr => first | (go_simp; done) | (go_simp; rfl)); (case hp => exact (Reps.one (show Kd.M Kd.string _ _ _ (rdOf ByteArray.empty y127 1) [.string (rdOf ByteArray.empty y127 1)] from rfl) (Reps.one (show Kd.M Kd.string _ _ _ (⟨#[120]⟩ : ByteArray) [.string (⟨#[120]⟩ : ByteArray)] from rfl) (Reps.one (show Kd.M Kd.string _ _ _ (rdOf ByteArray.empty y101 (ji12)) [.string (rdOf ByteArray.empty y101 (ji12))] from rfl) (Reps.one (show Kd.M Kd.string _ _ _ t108 [.string t108] from rfl) (Reps.none _ _)))))); intro v140 w64 ho65 hb hg_ hnew_; clear hg_ hnew_; (first | rw [← Ny139.out] at ho65 | (simp only [Int.reduceToNat] at ho65; rw [← Ny139.out] at ho65)); have n0_ := Aside0.mk (Kd.R_elder' (by (with_reducible repeat (first | apply Kd.R_alloc | apply Kd.R_drewN | apply Kd.R_drew)); exact HO_13.out) (Kd.R_base ho65) hb); have n1_ := Aside0.mk (Kd.R_elder' (by (with_reducible repeat (first | apply Kd.R_alloc | apply Kd.R_drewN | apply Kd.R_drew)); exact HO122.out) (Kd.R_base ho65) hb); have n2_ := Aside0.mk (Kd.R_elder' (by (with_reducible repeat (first | apply Kd.R_alloc | apply Kd.R_drewN | apply Kd.R_drew)); exact HO125.out) (Kd.R_base ho65) hb); have n3_ := Aside0.mk (Kd.R_elder' (by (with_reducible repeat (first | apply Kd.R_alloc | apply Kd.R_drewN | apply Kd.R_drew)); exact HO129.out) (Kd.R_base ho65) hb); have n4_ := Aside0.mk (Kd.R_elder' (by (with_reducible repeat (first | apply Kd.R_alloc | apply Kd.R_drewN | apply Kd.R_drew)); exact HO134.out) (Kd.R_base ho65) hb); have n5_ := Aside0.mk (Kd.R_elder' (by (with_reducible repeat (first | apply Kd.R_alloc | apply Kd.R_drewN | apply Kd.R_drew)); exact HO137.out) (Kd.R_base ho65) hb); have n6_ := Aside0.mk (Kd.R_lower (Kd.R_new' (Kd.R_new' (Kd.R_new' (Kd.R_new' (Kd.R_new' (Kd.R_new' ho65 (Kd.R_lt (by (with_reducible repeat (first | apply Kd.R_alloc | apply Kd.R_drewN | apply Kd.R_drew)); exact HO_13.out))) (Kd.R_lt (by (with_reducible repeat (first | apply Kd.R_alloc | apply Kd.R_drewN | apply Kd.R_drew)); exact HO122.out))) (Kd.R_lt (by (with_reducible repeat (first | apply Kd.R_alloc | apply Kd.R_drewN | apply Kd.R_drew)); exact HO125.out))) (Kd.R_lt (by (with_reducible repeat (first | apply Kd.R_alloc | apply Kd.R_drewN | apply Kd.R_drew)); exact HO129.out))) (Kd.R_lt (by (with_reducible repeat (first | apply Kd.R_alloc | apply Kd.R_drewN | apply Kd.R_drew)); exact HO134.out))) (Kd.R_lt (by (with_reducible repeat (first | apply Kd.R_alloc | apply Kd.R_drewN | apply Kd.R_drew)); exact HO137.out))) (below_size (by repeat (first | (with_reducible first | exact HB.out | apply below_alloc | apply pw_below_drewN | apply below_drew1) | exact HB.out)))); have n7_ := Aside0.mk (below_step (by repeat (first | (with_reducible first | exact HB.out | apply below_alloc | apply pw_below_drewN | apply below_drew1) | exact HB.out)) hb); clear HO_13; clear HO122; clear HO125; clear HO129; clear HO134; clear HO137; clear HB; have HO_13 := n0_; have HO122 := n1_; have HO125 := n2_; have HO129 := n3_; have HO134 := n4_; have HO137 := n5_; have HO141 := n6_; have HB := n7_; clear n0_ n1_ n2_ n3_ n4_ n5_ n6_ n7_; clear hb ho65; obtain ⟨Ao67, co67, eo67⟩ := Kd.R_slice HO141.out; (first | subst eo67 | (injection eo67 with e1_ e2_ e3_; subst e1_; have e4_ := e3_.symm; clear e3_; subst e4_))) | ((with_reducible refine gate_builtin (b := .append) (xs := #[.tmp 104, .tmp 110]) rfl ?_); (try (refine gate_guard (by rfl) ?_; dsimp only)); at_builtin; refine Kd.R_append_rows Kd.string (w0 := w) w.heap.size rfl (.tmp 104) (.tmp 110) 26 9 (.string ⟨#[]⟩) 16 rfl Tryd.underlying26 info9 rfl (by decide) (by omega) v121 y120 y139 _ _ _ (fun k_ => some k_ ≠ (.slice (some ad106) y101.length co21 : Value).ownBlock ∧ some k_ ≠ (.slice Aq84 y123.length cq84 : Value).ownBlock ∧ some k_ ≠ (.slice (some ad130) y127.length co59 : Value).ownBlock ∧ some k_ ≠ (.slice Ao63 y132.length co63 : Value).ownBlock ∧ some k_ ≠ (v136 : Value).ownBlock ∧ some k_ ≠ (.slice Ao67 y139.length co67 : Value).ownBlock) (fun _ => False) rfl rfl ?aO ?aR (fun _ _ h => h) (fun _ h => h.elim) ?aF ?aB ?aS ?aL ?_; (case aR => repeat (first | exact (Kd.R_reads' HO141.out).2.2 | (with_reducible refine Kd.C_alloc ?_ _) | (with_reducible refine Kd.C_drewN ?_ _) | (with_reducible refine Kd.C_drew ?_))); (case aB => exact (by repeat (first | (with_reducible first | exact HB.out | apply below_alloc | apply pw_below_drewN | apply below_drew1) | exact HB.out))); (case aF => exact (fun k_ hk => ⟨Kd.fresh' (Kd.R_lt (by (with_reducible repeat (first | apply Kd.R_alloc | apply Kd.R_drewN | apply Kd.R_drew)); exact HO_13.out)) k_ hk, Kd.fresh' (Kd.R_lt (by (with_reducible repeat (first | apply Kd.R_alloc | apply Kd.R_drewN | apply Kd.R_drew)); exact HO125.out)) k_ hk, Kd.fresh' (Kd.R_lt (by (with_reducible repeat (first | apply Kd.R_alloc | apply Kd.R_drewN | apply Kd.R_drew)); exact HO129.out)) k_ hk, Kd.fresh' (Kd.R_lt (by (with_reducible repeat (first | apply Kd.R_alloc | apply Kd.R_drewN | apply Kd.R_drew)); exact HO134.out)) k_ hk, Kd.fresh' (Kd.R_lt (by (with_reducible repeat (first | apply Kd.R_alloc | apply Kd.R_drewN | apply Kd.R_drew)); exact HO137.out)) k_ hk, Kd.fresh' (Kd.R_lt (by (with_reducible repeat (first | apply Kd.R_alloc | apply Kd.R_drewN | apply Kd.R_drew)); exact HO141.out)) k_ hk⟩)); (case aO => exact (by (with_reducible repeat (first | apply Kd.R_alloc | apply Kd.R_drewN | apply Kd.R_drew)); exact Kd.R_mono HO122.out (fun _ hk => ⟨hk.1.1.1, ⟨hk.1.1.2.1, ⟨hk.1.1.2.2.1, ⟨hk.1.1.2.2.2, ⟨hk.1.2, hk.2⟩⟩⟩⟩⟩))); (case aS => exact (below_size (by repeat (first | (with_reducible first | exact HB.out | apply below_alloc | apply pw_below_drewN | apply below_drew1) | exact HB.out)))); (case aL => have := LMc45.out; omega); intro v143 w66 ho hb hg hat; rw [← Ny142.out] at ho; have n0_ := Aside0.mk (Kd.R_after (ok := (fun k_ => some k_ ≠ (.slice Aq84 y123.length cq84 : Value).ownBlock ∧ some k_ ≠ (.slice (some ad130) y127.length co59 : Value).ownBlock ∧ some k_ ≠ (.slice Ao63 y132.length co63 : Value).ownBlock ∧ some k_ ≠ (v136 : Value).ownBlock ∧ some k_ ≠ (.slice Ao67 y139.length co67 : Value).ownBlock)) (by (with_reducible repeat (first | apply Kd.R_alloc | apply Kd.R_drewN | apply Kd.R_drew)); exact Kd.R_mono HO_13.out (fun _ hk => ⟨⟨hk.1.1.2.1, ⟨hk.1.1.2.2.1, ⟨hk.1.1.2.2.2, ⟨hk.1.2, hk.2⟩⟩⟩⟩, hk.1.1.1⟩)) hg hat); have n1_ := Aside0.mk (Kd.R_after (ok := (fun k_ => some k_ ≠ (.slice (some ad106) y101.length co21 : Value).ownBlock ∧ some k_ ≠ (.slice (some ad130) y127.length co59 : Value).ownBlock ∧ some k_ ≠ (.slice Ao63 y132.length co63 : Value).ownBlock ∧ some k_ ≠ (v136 : Value).ownBlock ∧ some k_ ≠ (.slice Ao67 y139.length co67 : Value).ownBlock)) (by (with_reducible repeat (first | apply Kd.R_alloc | apply Kd.R_drewN | apply Kd.R_drew)); exact Kd.R_mono HO125.out (fun _ hk => ⟨⟨hk.1.1.1, ⟨hk.1.1.2.2.1, ⟨hk.1.1.2.2.2, ⟨hk.1.2, hk.2⟩⟩⟩⟩, hk.1.1.2.1⟩)) hg hat); have n2_ := Aside0.mk (Kd.R_after (ok := (fun k_ => some k_ ≠ (.slice (some ad106) y101.length co21 : Value).ownBlock ∧ some k_ ≠ (.slice Aq84 y123.length cq84 : Value).ownBlock ∧ some k_ ≠ (.slice Ao63 y132.length co63 : Value).ownBlock ∧ some k_ ≠ (v136 : Value).ownBlock ∧ some k_ ≠ (.slice Ao67 y139.length co67 : Value).ownBlock)) (by (with_reducible repeat (first | apply Kd.R_alloc | apply Kd.R_drewN | apply Kd.R_drew)); exact Kd.R_mono HO129.out (fun _ hk => ⟨⟨hk.1.1.1, ⟨hk.1.1.2.2.1, ⟨hk.1.1.2.2.2, ⟨hk.1.2, hk.2⟩⟩⟩⟩, hk.1.1.2.1⟩)) hg hat); have n3_ := Aside0.mk (Kd.R_after (ok := (fun k_ => some k_ ≠ (.slice (some ad106) y101.length co21 : Value).ownBlock ∧ some k_ ≠ (.slice Aq84 y123.length cq84 : Value).ownBlock ∧ some k_ ≠ (.slice (some ad130) y127.length co59 : Value).ownBlock ∧ some k_ ≠ (v136 : Value).ownBlock ∧ some k_ ≠ (.slice Ao67 y139.length co67 : Value).ownBlock)) (by (with_reducible repeat (first | apply Kd.R_alloc | apply Kd.R_drewN | apply Kd.R_drew)); exact Kd.R_mono HO134.out (fun _ hk => ⟨⟨hk.1.1.1, ⟨hk.1.1.2.2.1, ⟨hk.1.1.2.2.2, ⟨hk.1.2, hk.2⟩⟩⟩⟩, hk.1.1.2.1⟩)) hg hat); have n4_ := Aside0.mk (Kd.R_after (ok := (fun k_ => some k_ ≠ (.slice (some ad106) y101.length co21 : Value).ownBlock ∧ some k_ ≠ (.slice Aq84 y123.length cq84 : Value).ownBlock ∧ some k_ ≠ (.slice (some ad130) y127.length co59 : Value).ownBlock ∧ some k_ ≠ (.slice Ao63 y132.length co63 : Value).ownBlock ∧ some k_ ≠ (.slice Ao67 y139.length co67 : Value).ownBlock)) (by (with_reducible repeat (first | apply Kd.R_alloc | apply Kd.R_drewN | apply Kd.R_drew)); exact Kd.R_mono HO137.out (fun _ hk => ⟨⟨hk.1.1, ⟨hk.1.2.2.1, ⟨hk.1.2.2.2.1, ⟨hk.1.2.2.2.2, hk.2⟩⟩⟩⟩, hk.1.2.1⟩)) hg hat); have n5_ := Aside0.mk (Kd.R_after (ok := (fun k_ => some k_ ≠ (.slice (some ad106) y101.length co21 : Value).ownBlock ∧ some k_ ≠ (.slice Aq84 y123.length cq84 : Value).ownBlock ∧ some k_ ≠ (.slice (some ad130) y127.length co59 : Value).ownBlock ∧ some k_ ≠ (.slice Ao63 y132.length co63 : Value).ownBlock ∧ some k_ ≠ (v136 : Value).ownBlock)) (by (with_reducible repeat (first | apply Kd.R_alloc | apply Kd.R_drewN | apply Kd.R_drew)); exact Kd.R_mono HO141.out (fun _ hk => ⟨⟨hk.1.1.1.1.1.2, ⟨hk.1.1.1.2, ⟨hk.1.1.2, ⟨hk.1.2, hk.2⟩⟩⟩⟩, hk.1.1.1.1.2⟩)) hg hat); have n6_ := Aside0.mk (hb); have n7_ := Aside0.mk (ho); clear HO_13; clear HO125; clear HO129; clear HO134; clear HO137; clear HO141; clear HB; clear HO122; have HO_13 := n0_; have HO125 := n1_; have HO129 := n2_; have HO134 := n3_; have HO137 := n4_; have HO141 := n5_; have HB := n6_; have HO144 := n7_; clear n0_ n1_ n2_ n3_ n4_ n5_ n6_ n7_; clear ho hb hg hat; obtain ⟨Ao68, co68, eo68⟩ := Kd.R_slice HO137.out; (first | subst eo68 | (injection eo68 with e1_ e2_ e3_; subst e1_; have e4_ := e3_.symm; clear e3_; subst e4_))) | ((with_reducible refine gate_callee (f := 11) rfl ?_); refine goesL_ (some 114) rfl rfl Tryd.func11 (by kernel_rfl) rfl #[.slice Ao68 y135.length co68] rfl (by (try simp only [List.map_toArray, List.map_cons, List.map_nil]); first | done | rfl | (simp only [List.length_drop, List.length_take]; rfl)) ?_; (with_reducible refine (Go.Proofs.YtjefbpfpobgmaaaDoor.PFx.laws_refFilter.calls kj17 _ _ y135 t145 true _ ?side1 ?side2 A46.out).mono ?_); (case side1 => repeat (first | exact (Kd.R_reads' HO137.out).2.2 | (with_reducible refine Kd.C_alloc ?_ _) | (with_reducible refine Kd.C_drewN ?_ _) | (with_reducible refine Kd.C_drew ?_))); (case side2 => exact (Kd.R_reads' HO137.out).2.1); rintro e w69 ⟨rfl, hb⟩; refine ⟨_, rfl, ?_⟩; have n0_ := Aside0.mk (Kd.R_below (by (with_reducible repeat (first | apply Kd.R_alloc | apply Kd.R_drewN | apply Kd.R_drew)); exact HO_13.out) hb); have n1_ := Aside0.mk (Kd.R_below (by (with_reducible repeat (first | apply Kd.R_alloc | apply Kd.R_drewN | apply Kd.R_drew)); exact HO125.out) hb); have n2_ := Aside0.mk (Kd.R_below (by (with_reducible repeat (first | apply Kd.R_alloc | apply Kd.R_drewN | apply Kd.R_drew)); exact HO129.out) hb); have n3_ := Aside0.mk (Kd.R_below (by (with_reducible repeat (first | apply Kd.R_alloc | apply Kd.R_drewN | apply Kd.R_drew)); exact HO134.out) hb); have n4_ := Aside0.mk (Kd.R_below (by (with_reducible repeat (first | apply Kd.R_alloc | apply Kd.R_drewN | apply Kd.R_drew)); exact HO137.out) hb); have n5_ := Aside0.mk (Kd.R_below (by (with_reducible repeat (first | apply Kd.R_alloc | apply Kd.R_drewN | apply Kd.R_drew)); exact HO141.out) hb); have n6_ := Aside0.mk (Kd.R_below (by (with_reducible repeat (first | apply Kd.R_alloc | apply Kd.R_drewN | apply Kd.R_drew)); exact HO144.out) hb); have n7_ := Aside0.mk (below_step (by repeat (first | (with_reducible first | exact HB.out | apply below_alloc | apply pw_below_drewN | apply below_drew1) | exact HB.out)) hb); clear HO_13; clear HO125; clear HO129; clear HO134; clear HO137; clear HO141; clear HO144; clear HB; have HO_13 := n0_; have HO125 := n1_; have HO129 := n2_; have HO134 := n3_; have HO137 := n4_; have HO141 := n5_; have HO144 := n6_; have HB := n7_; clear n0_ n1_ n2_ n3_ n4_ n5_ n6_ n7_; (try clear hb); (try clear hb2); (try clear hk); (try clear hi); obtain ⟨Ao70, co70, eo70⟩ := Kd.R_slice HO144.out; (first | subst eo70 | (injection eo70 with e1_ e2_ e3_; subst e1_; have e4_ := e3_.symm; clear e3_; subst e4_))) | ((with_reducible refine gate_callee (f := 11) rfl ?_); refine goesL_ (some 119) rfl rfl Tryd.func11 (by kernel_rfl) rfl #[.slice Ao70 y142.length co70] rfl (by (try simp only [List.map_toArray, List.map_cons, List.map_nil]); first | done | rfl | (simp only [List.length_drop, List.length_take]; rfl)) ?_; (with_reducible refine (Go.Proofs.YtjefbpfpobgmaaaDoor.PFx.laws_refFilter.calls kj17 _ _ y142 t147 true _ ?side1 ?side2 A47.out).mono ?_); (case side1 => repeat (first | exact (Kd.R_reads' HO144.out).2.2 | (with_reducible refine Kd.C_alloc ?_ _) | (with_reducible refine Kd.C_drewN ?_ _) | (with_reducible refine Kd.C_drew ?_))); (case side2 => exact (Kd.R_reads' HO144.out).2.1); rintro e w71 ⟨rfl, hb⟩; refine ⟨_, rfl, ?_⟩; have n0_ := Aside0.mk (Kd.R_below (by (with_reducible repeat (first | apply Kd.R_alloc | apply Kd.R_drewN | apply Kd.R_drew)); exact HO_13.out) hb); have n1_ := Aside0.mk (Kd.R_below (by (with_reducible repeat (first | apply Kd.R_alloc | apply Kd.R_drewN | apply Kd.R_drew)); exact HO125.out) hb); have n2_ := Aside0.mk (Kd.R_below (by (with_reducible repeat (first | apply Kd.R_alloc | apply Kd.R_drewN | apply Kd.R_drew)); exact HO129.out) hb); have n3_ := Aside0.mk (Kd.R_below (by (with_reducible repeat (first | apply Kd.R_alloc | apply Kd.R_drewN | apply Kd.R_drew)); exact HO134.out) hb); have n4_ := Aside0.mk (Kd.R_below (by (with_reducible repeat (first | apply Kd.R_alloc | apply Kd.R_drewN | apply Kd.R_drew)); exact HO137.out) hb); have n5_ := Aside0.mk (Kd.R_below (by (with_reducible repeat (first | apply Kd.R_alloc | apply Kd.R_drewN | apply Kd.R_drew)); exact HO141.out) hb); have n6_ := Aside0.mk (Kd.R_below (by (with_reducible repeat (first | apply Kd.R_alloc | apply Kd.R_drewN | apply Kd.R_drew)); exact HO144.out) hb); have n7_ := Aside0.mk (below_step (by repeat (first | (with_reducible first | exact HB.out | apply below_alloc | apply pw_below_drewN | apply below_drew1) | exact HB.out)) hb); clear HO_13; clear HO125; clear HO129; clear HO134; clear HO137; clear HO141; clear HO144; clear HB; have HO_13 := n0_; have HO125 := n1_; have HO129 := n2_; have HO134 := n3_; have HO137 := n4_; have HO141 := n5_; have HO144 := n6_; have HB := n7_; clear n0_ n1_ n2_ n3_ n4_ n5_ n6_ n7_; (try clear hb); (try clear hb2); (try clear hk); (try clear hi)))
                                    go_ret
                                    exact ⟨by first | rfl | (simp [errW_none, errW_some] <;> rfl) | (simp only [← hji12]; first | rfl | (simp [errW_none, errW_some] <;> rfl)) | (generalize ByteArray.toList _ = l_; cases l_ <;> first | rfl | (simp; done)) | (simp [*, errW_none, errW_some] <;> rfl), by repeat (first | (with_reducible first | exact HB.out | apply below_alloc | apply pw_below_drewN | apply below_drew1) | exact HB.out)⟩
                                  · replace c49 := Bool.eq_false_iff.mpr c49
                                    subst c49
                                    have H1 : (none) = some r := by rw [if_neg (show ¬ (false = true) by decide)] at H; exact H
                                    clear H
                                    have H := H1
                                    clear H1
                                    exact absurd H (by simp)
                                · replace c48 := Bool.eq_false_iff.mpr c48
                                  subst c48
                                  have H1 : (none) = some r := by rw [if_neg (show ¬ (false = true) by decide)] at H; exact H
                                  clear H
                                  have H := H1
                                  clear H1
                                  exact absurd H (by simp)
                              · rw [if_neg c45] at H
                                exact absurd H (by simp)
                            · rw [if_neg c44] at H
                              exact absurd H (by simp)
                          · rw [if_neg c43] at H
                            exact absurd H (by simp)
                        · rw [if_neg c42] at H
                          exact absurd H (by simp)
                      · replace c41 := Bool.eq_false_iff.mpr c41
                        subst c41
                        have H1 : (if 0 < (y123.length : Int) then ((some (([rdOf ByteArray.empty y123 0, (⟨#[120]⟩ : ByteArray), rdOf ByteArray.empty y101 0, t108] : List ByteArray) : List ByteArray)).bind fun y151 => (if y117.length + y151.length < 8796093022208 then (if 1 < (y123.length : Int) then ((some (([rdOf ByteArray.empty y123 1, (⟨#[120]⟩ : ByteArray), (rdOf ByteArray.empty y101 (ji12)), t108] : List ByteArray) : List ByteArray)).bind fun y158 => (if y120.length + y158.length < 8796093022208 then ((Go.Proofs.YtjefbpfpobgmaaaDoor.PFx.laws_refFilter.f kj17 (y117 ++ y151)).bind fun bt164 => ((Go.Proofs.YtjefbpfpobgmaaaDoor.PFx.laws_refFilter.f kj17 (y120 ++ y158)).bind fun bt166 => (if bt164.2 = true then (if bt166.2 = true then (some (bt164.1.toList == bt166.1.toList)) else (none)) else (none)))) else (none))) else (none)) else (none))) else (none)) = some r := by rw [if_neg (show ¬ (false = true) by decide)] at H; exact H
                        clear H
                        have H := H1
                        clear H1
                        by_cases c72 : 0 < (y123.length : Int)
                        · rw [if_pos c72] at H
                          have c72b0 : decide (0 < (y123.length : Int)) = true := decide_eq_true c72
                          have c72b1 : decide (0 < y123.length) = true := decide_eq_true (by omega)
                          clear c72
                          obtain ⟨y151, hy151⟩ : ∃ y_ : List ByteArray, y_ = (([rdOf ByteArray.empty y123 0, (⟨#[120]⟩ : ByteArray), rdOf ByteArray.empty y101 0, t108] : List ByteArray)) := ⟨_, rfl⟩
                          replace H : (if y117.length + y151.length < 8796093022208 then (if 1 < (y123.length : Int) then ((some (([rdOf ByteArray.empty y123 1, (⟨#[120]⟩ : ByteArray), (rdOf ByteArray.empty y101 (ji12)), t108] : List ByteArray) : List ByteArray)).bind fun y158 => (if y120.length + y158.length < 8796093022208 then ((Go.Proofs.YtjefbpfpobgmaaaDoor.PFx.laws_refFilter.f kj17 (y117 ++ y151)).bind fun bt164 => ((Go.Proofs.YtjefbpfpobgmaaaDoor.PFx.laws_refFilter.f kj17 (y120 ++ y158)).bind fun bt166 => (if bt164.2 = true then (if bt166.2 = true then (some (bt164.1.toList == bt166.1.toList)) else (none)) else (none)))) else (none))) else (none)) else (none)) = some r := by first | (rw [hy151]; with_reducible exact H) | (have H2_ := (Option.bind_some _ _).symm.trans H; rw [hy151]; with_reducible exact H2_) | (have H2_ := (Option.bind_some _ _).symm.trans H; with_reducible exact H2_) | with_reducible exact H | (rw [hy151]; exact H) | exact H
                          have Ny151 := Aside0.mk hy151
                          clear hy151
                          by_cases c73 : y117.length + y151.length < 8796093022208
                          · rw [if_pos c73] at H
                            have LMc73 := Aside0.mk c73
                            clear c73
                            obtain ⟨y154, hy154⟩ : ∃ y_ : List ByteArray, y_ = (y117 ++ y151) := ⟨_, rfl⟩
                            replace H : (if 1 < (y123.length : Int) then ((some (([rdOf ByteArray.empty y123 1, (⟨#[120]⟩ : ByteArray), (rdOf ByteArray.empty y101 (ji12)), t108] : List ByteArray) : List ByteArray)).bind fun y158 => (if y120.length + y158.length < 8796093022208 then ((Go.Proofs.YtjefbpfpobgmaaaDoor.PFx.laws_refFilter.f kj17 y154).bind fun bt164 => ((Go.Proofs.YtjefbpfpobgmaaaDoor.PFx.laws_refFilter.f kj17 (y120 ++ y158)).bind fun bt166 => (if bt164.2 = true then (if bt166.2 = true then (some (bt164.1.toList == bt166.1.toList)) else (none)) else (none)))) else (none))) else (none)) = some r := by first | (rw [hy154]; with_reducible exact H) | (have H2_ := (Option.bind_some _ _).symm.trans H; rw [hy154]; with_reducible exact H2_) | (have H2_ := (Option.bind_some _ _).symm.trans H; with_reducible exact H2_) | with_reducible exact H | (rw [hy154]; exact H) | exact H
                            have Ny154 := Aside0.mk hy154
                            clear hy154
                            by_cases c74 : 1 < (y123.length : Int)
                            · rw [if_pos c74] at H
                              have c74b0 : decide (1 < (y123.length : Int)) = true := decide_eq_true c74
                              have c74b1 : decide (1 < y123.length) = true := decide_eq_true (by omega)
                              clear c74
                              obtain ⟨y158, hy158⟩ : ∃ y_ : List ByteArray, y_ = (([rdOf ByteArray.empty y123 1, (⟨#[120]⟩ : ByteArray), (rdOf ByteArray.empty y101 (ji12)), t108] : List ByteArray)) := ⟨_, rfl⟩
                              replace H : (if y120.length + y158.length < 8796093022208 then ((Go.Proofs.YtjefbpfpobgmaaaDoor.PFx.laws_refFilter.f kj17 y154).bind fun bt164 => ((Go.Proofs.YtjefbpfpobgmaaaDoor.PFx.laws_refFilter.f kj17 (y120 ++ y158)).bind fun bt166 => (if bt164.2 = true then (if bt166.2 = true then (some (bt164.1.toList == bt166.1.toList)) else (none)) else (none)))) else (none)) = some r := by first | (rw [hy158]; with_reducible exact H) | (have H2_ := (Option.bind_some _ _).symm.trans H; rw [hy158]; with_reducible exact H2_) | (have H2_ := (Option.bind_some _ _).symm.trans H; with_reducible exact H2_) | with_reducible exact H | (rw [hy158]; exact H) | exact H
                              have Ny158 := Aside0.mk hy158
                              clear hy158
                              by_cases c75 : y120.length + y158.length < 8796093022208
                              · rw [if_pos c75] at H
                                have LMc75 := Aside0.mk c75
                                clear c75
                                obtain ⟨y161, hy161⟩ : ∃ y_ : List ByteArray, y_ = (y120 ++ y158) := ⟨_, rfl⟩
                                replace H : ((Go.Proofs.YtjefbpfpobgmaaaDoor.PFx.laws_refFilter.f kj17 y154).bind fun bt164 => ((Go.Proofs.YtjefbpfpobgmaaaDoor.PFx.laws_refFilter.f kj17 y161).bind fun bt166 => (if bt164.2 = true then (if bt166.2 = true then (some (bt164.1.toList == bt166.1.toList)) else (none)) else (none)))) = some r := by first | (rw [hy161]; with_reducible exact H) | (have H2_ := (Option.bind_some _ _).symm.trans H; rw [hy161]; with_reducible exact H2_) | (have H2_ := (Option.bind_some _ _).symm.trans H; with_reducible exact H2_) | with_reducible exact H | (rw [hy161]; exact H) | exact H
                                have Ny161 := Aside0.mk hy161
                                clear hy161
                                replace H := Option.bind_eq_some_iff.mp H
                                obtain ⟨⟨t164, t165⟩, A760, H⟩ := H
                                replace H : ((Go.Proofs.YtjefbpfpobgmaaaDoor.PFx.laws_refFilter.f kj17 y161).bind fun bt166 => (if t165 = true then (if bt166.2 = true then (some (t164.toList == bt166.1.toList)) else (none)) else (none))) = some r := H
                                have A76 := Aside0.mk A760
                                clear A760
                                replace H := Option.bind_eq_some_iff.mp H
                                obtain ⟨⟨t166, t167⟩, A770, H⟩ := H
                                replace H : (if t165 = true then (if t167 = true then (some (t164.toList == t166.toList)) else (none)) else (none)) = some r := H
                                have A77 := Aside0.mk A770
                                clear A770
                                by_cases c78 : t165 = true
                                · subst c78
                                  have H1 : (if t167 = true then (some (t164.toList == t166.toList)) else (none)) = some r := by rw [if_pos rfl] at H; exact H
                                  clear H
                                  have H := H1
                                  clear H1
                                  by_cases c79 : t167 = true
                                  · subst c79
                                    have H1 : (some (t164.toList == t166.toList)) = some r := by rw [if_pos rfl] at H; exact H
                                    clear H
                                    have H := H1
                                    clear H1
                                    obtain rfl := Option.some.inj H
                                    have p116 : 0 ≤ (0 : Int) := (by omega)
                                    have q116 : 0 < (y101.length : Int) := of_decide_eq_true (by first | (with_reducible assumption) | assumption)
                                    obtain ⟨ad116, e116, hx116_0⟩ := Kd.at_string (Kd.R_reads' HO_13.out).2.2 0 p116 q116
                                    obtain rfl : ad106 = ad116 := (by injection e116)
                                    have qi116 : (0 < y101.length) = True := eq_true (by omega)
                                    (try rw [show ((0 : Int)).toNat = 0 from rfl] at hx116_0)
                                    (try rw [Addr.add_zero'] at hx116_0)
                                    replace p116 := eq_true p116
                                    replace q116 := eq_true q116
                                    try go_wp2_with (first | ((with_reducible refine gate_dst (N := 78) rfl ?_); (try (refine gate_guard (by rfl) ?_; dsimp only)); refine Kd.R_lit Kd.string _ 9 ?hg (N := 78) ?hd (xs := ([(⟨#[120]⟩ : ByteArray), rdOf ByteArray.empty y101 0, t107] : List ByteArray)) (inner := [.string (⟨#[120]⟩ : ByteArray), .string (rdOf ByteArray.empty y101 0), .string t107]) (ok := fun _ => True) (okp := fun _ => True) ?hr ?hp (fun _ hk => hk) trivial (Below.refl _ _) (Nat.le_refl _) (by simp) ?_; (case hd => rfl); (case hg => rfl); (case hr => first | (go_simp; done) | (go_simp; rfl)); (case hp => exact (Reps.one (show Kd.M Kd.string _ _ _ (⟨#[120]⟩ : ByteArray) [.string (⟨#[120]⟩ : ByteArray)] from rfl) (Reps.one (show Kd.M Kd.string _ _ _ (rdOf ByteArray.empty y101 0) [.string (rdOf ByteArray.empty y101 0)] from rfl) (Reps.one (show Kd.M Kd.string _ _ _ t107 [.string t107] from rfl) (Reps.none _ _))))); intro v118 w80 ho81 hb hg_ hnew_; clear hg_ hnew_; (first | rw [← Ny117.out] at ho81 | (simp only [Int.reduceToNat] at ho81; rw [← Ny117.out] at ho81)); have n0_ := Aside0.mk (Kd.R_elder' (by (with_reducible repeat (first | apply Kd.R_alloc | apply Kd.R_drewN | apply Kd.R_drew)); exact HO_13.out) (Kd.R_base ho81) hb); have n1_ := Aside0.mk (Kd.R_lower (Kd.R_new' ho81 (Kd.R_lt (by (with_reducible repeat (first | apply Kd.R_alloc | apply Kd.R_drewN | apply Kd.R_drew)); exact HO_13.out))) (below_size (by repeat (first | (with_reducible first | exact HB.out | apply below_alloc | apply pw_below_drewN | apply below_drew1) | exact HB.out)))); have n2_ := Aside0.mk (below_step (by repeat (first | (with_reducible first | exact HB.out | apply below_alloc | apply pw_below_drewN | apply below_drew1) | exact HB.out)) hb); clear HO_13; clear HB; have HO_13 := n0_; have HO119 := n1_; have HB := n2_; clear n0_ n1_ n2_; clear hb ho81) | ((with_reducible refine gate_dst (N := 81) rfl ?_); (try (refine gate_guard (by rfl) ?_; dsimp only)); refine Kd.R_lit Kd.string _ 9 ?hg (N := 81) ?hd (xs := ([(⟨#[120]⟩ : ByteArray), (rdOf ByteArray.empty y101 (ji12)), t107] : List ByteArray)) (inner := [.string (⟨#[120]⟩ : ByteArray), .string (rdOf ByteArray.empty y101 (ji12)), .string t107]) (ok := fun _ => True) (okp := fun _ => True) ?hr ?hp (fun _ hk => hk) trivial (Below.refl _ _) (Nat.le_refl _) (by simp) ?_; (case hd => rfl); (case hg => rfl); (case hr => first | (go_simp; done) | (go_simp; rfl)); (case hp => exact (Reps.one (show Kd.M Kd.string _ _ _ (⟨#[120]⟩ : ByteArray) [.string (⟨#[120]⟩ : ByteArray)] from rfl) (Reps.one (show Kd.M Kd.string _ _ _ (rdOf ByteArray.empty y101 (ji12)) [.string (rdOf ByteArray.empty y101 (ji12))] from rfl) (Reps.one (show Kd.M Kd.string _ _ _ t107 [.string t107] from rfl) (Reps.none _ _))))); intro v121 w82 ho83 hb hg_ hnew_; clear hg_ hnew_; (first | rw [← Ny120.out] at ho83 | (simp only [Int.reduceToNat] at ho83; rw [← Ny120.out] at ho83)); have n0_ := Aside0.mk (Kd.R_elder' (by (with_reducible repeat (first | apply Kd.R_alloc | apply Kd.R_drewN | apply Kd.R_drew)); exact HO_13.out) (Kd.R_base ho83) hb); have n1_ := Aside0.mk (Kd.R_elder' (by (with_reducible repeat (first | apply Kd.R_alloc | apply Kd.R_drewN | apply Kd.R_drew)); exact HO119.out) (Kd.R_base ho83) hb); have n2_ := Aside0.mk (Kd.R_lower (Kd.R_new' (Kd.R_new' ho83 (Kd.R_lt (by (with_reducible repeat (first | apply Kd.R_alloc | apply Kd.R_drewN | apply Kd.R_drew)); exact HO_13.out))) (Kd.R_lt (by (with_reducible repeat (first | apply Kd.R_alloc | apply Kd.R_drewN | apply Kd.R_drew)); exact HO119.out))) (below_size (by repeat (first | (with_reducible first | exact HB.out | apply below_alloc | apply pw_below_drewN | apply below_drew1) | exact HB.out)))); have n3_ := Aside0.mk (below_step (by repeat (first | (with_reducible first | exact HB.out | apply below_alloc | apply pw_below_drewN | apply below_drew1) | exact HB.out)) hb); clear HO_13; clear HO119; clear HB; have HO_13 := n0_; have HO119 := n1_; have HO122 := n2_; have HB := n3_; clear n0_ n1_ n2_ n3_; clear hb ho83) | ((with_reducible refine gate_dst (N := 84) rfl ?_); (try (refine gate_guard (by rfl) ?_; dsimp only)); refine Kd.R_lit Kd.string _ 9 ?hg (N := 84) ?hd (xs := ([(⟨#[111, 114]⟩ : ByteArray), (⟨#[124, 124]⟩ : ByteArray)] : List ByteArray)) (inner := [.string (⟨#[111, 114]⟩ : ByteArray), .string (⟨#[124, 124]⟩ : ByteArray)]) (ok := fun _ => True) (okp := fun _ => True) ?hr ?hp (fun _ hk => hk) trivial (Below.refl _ _) (Nat.le_refl _) (by simp) ?_; (case hd => rfl); (case hg => rfl); (case hr => first | (go_simp; done) | (go_simp; rfl)); (case hp => exact (Reps.one (show Kd.M Kd.string _ _ _ (⟨#[111, 114]⟩ : ByteArray) [.string (⟨#[111, 114]⟩ : ByteArray)] from rfl) (Reps.one (show Kd.M Kd.string _ _ _ (⟨#[124, 124]⟩ : ByteArray) [.string (⟨#[124, 124]⟩ : ByteArray)] from rfl) (Reps.none _ _)))); intro v124 w84 ho85 hb hg_ hnew_; clear hg_ hnew_; (first | rw [← Ny123.out] at ho85 | (simp only [Int.reduceToNat] at ho85; rw [← Ny123.out] at ho85)); have n0_ := Aside0.mk (Kd.R_elder' (by (with_reducible repeat (first | apply Kd.R_alloc | apply Kd.R_drewN | apply Kd.R_drew)); exact HO_13.out) (Kd.R_base ho85) hb); have n1_ := Aside0.mk (Kd.R_elder' (by (with_reducible repeat (first | apply Kd.R_alloc | apply Kd.R_drewN | apply Kd.R_drew)); exact HO119.out) (Kd.R_base ho85) hb); have n2_ := Aside0.mk (Kd.R_elder' (by (with_reducible repeat (first | apply Kd.R_alloc | apply Kd.R_drewN | apply Kd.R_drew)); exact HO122.out) (Kd.R_base ho85) hb); have n3_ := Aside0.mk (Kd.R_lower (Kd.R_new' (Kd.R_new' (Kd.R_new' ho85 (Kd.R_lt (by (with_reducible repeat (first | apply Kd.R_alloc | apply Kd.R_drewN | apply Kd.R_drew)); exact HO_13.out))) (Kd.R_lt (by (with_reducible repeat (first | apply Kd.R_alloc | apply Kd.R_drewN | apply Kd.R_drew)); exact HO119.out))) (Kd.R_lt (by (with_reducible repeat (first | apply Kd.R_alloc | apply Kd.R_drewN | apply Kd.R_drew)); exact HO122.out))) (below_size (by repeat (first | (with_reducible first | exact HB.out | apply below_alloc | apply pw_below_drewN | apply below_drew1) | exact HB.out)))); have n4_ := Aside0.mk (below_step (by repeat (first | (with_reducible first | exact HB.out | apply below_alloc | apply pw_below_drewN | apply below_drew1) | exact HB.out)) hb); clear HO_13; clear HO119; clear HO122; clear HB; have HO_13 := n0_; have HO119 := n1_; have HO122 := n2_; have HO125 := n3_; have HB := n4_; clear n0_ n1_ n2_ n3_ n4_; clear hb ho85; obtain ⟨Aq84, cq84, eq84⟩ := Kd.R_slice HO125.out; subst eq84) | ((with_reducible refine gate_callee (f := 10) rfl ?_); refine goesL_ (some 88) rfl rfl Tryd.func10 (by kernel_rfl) rfl #[.int .i64 (wrap64 (Int.tdiv a1 7)), .int .i64 2] rfl (by (try simp only [List.map_toArray, List.map_cons, List.map_nil]); first | done | rfl | (simp only [List.length_drop, List.length_take]; rfl)) ?_; (with_reducible refine (Go.Proofs.YtjefbpfpobgmaaaDoor.PFx.laws_gridNumber.calls (wrap64 (Int.tdiv a1 7)) 2 t126 _ A40.out).mono ?_); rintro e w' ⟨rfl, ⟨nd, rfl⟩⟩; refine ⟨_, rfl, ?_⟩))
                                    (try ((first | (rw [drewN_self w84]; generalize hq_ : World.drewN w84 _ = w84) | (rw [drewN_self (World.alloc (World.alloc w84 _) _)]; generalize hq_ : World.drewN (World.alloc (World.alloc w84 _) _) _ = w84) | (rw [drewN_self (World.alloc w84 _)]; generalize hq_ : World.drewN (World.alloc w84 _) _ = w84)); have n0_ : Aside0 (Kd.R Kd.string 9 w84 w.heap.size _ v118 y117) := ⟨by rw [← hq_]; exact (by (with_reducible repeat (first | apply Kd.R_alloc | apply Kd.R_drewN | apply Kd.R_drew)); exact HO119.out)⟩; have n1_ : Aside0 (Kd.R Kd.string 9 w84 w.heap.size _ v121 y120) := ⟨by rw [← hq_]; exact (by (with_reducible repeat (first | apply Kd.R_alloc | apply Kd.R_drewN | apply Kd.R_drew)); exact HO122.out)⟩; have n2_ : Aside0 (Kd.R Kd.string 9 w84 w.heap.size _ (.slice Aq84 y123.length cq84) y123) := ⟨by rw [← hq_]; exact (by (with_reducible repeat (first | apply Kd.R_alloc | apply Kd.R_drewN | apply Kd.R_drew)); exact HO125.out)⟩; have n3_ : Aside0 (Kd.R Kd.string 9 w84 w.heap.size _ (.slice (some ad106) y101.length co21) y101) := ⟨by rw [← hq_]; exact (by (with_reducible repeat (first | apply Kd.R_alloc | apply Kd.R_drewN | apply Kd.R_drew)); exact HO_13.out)⟩; have n4_ : Aside0 (Below w.heap.size w w84) := ⟨by rw [← hq_]; exact (by repeat (first | (with_reducible first | exact HB.out | apply below_alloc | apply pw_below_drewN | apply below_drew1) | exact HB.out))⟩; clear HO119 HO122 HO125 HO_13 HB hq_; have HO119 := n0_; have HO122 := n1_; have HO125 := n2_; have HO_13 := n3_; have HB := n4_; clear n0_ n1_ n2_ n3_ n4_))
                                    have n0_ := Aside0.mk (Kd.R_drew HO_13.out)
                                    have n1_ := Aside0.mk (Kd.R_drew HO119.out)
                                    have n2_ := Aside0.mk (Kd.R_drew HO122.out)
                                    have n3_ := Aside0.mk (Kd.R_drew HO125.out)
                                    have n4_ := Aside0.mk (below_drew1 HB.out)
                                    clear HO_13
                                    clear HO119
                                    clear HO122
                                    clear HO125
                                    clear HB
                                    have HO_13 := n0_
                                    have HO119 := n1_
                                    have HO122 := n2_
                                    have HO125 := n3_
                                    have HB := n4_
                                    clear n0_ n1_ n2_ n3_ n4_
                                    obtain ⟨Ao87, co87, eo87⟩ := Kd.R_slice HO125.out
                                    (first | (first | subst eo87 | (injection eo87 with e1_ e2_ e3_; subst e1_; have e4_ := e3_.symm; clear e3_; subst e4_)) | (injection eo87 with f1_ f2_ f3_; have f4_ := f1_.symm; have f5_ := f3_.symm; clear f1_ f2_ f3_; subst f4_; subst f5_))
                                    have p149 : 0 ≤ (0 : Int) := (by omega)
                                    have q149 : 0 < (y123.length : Int) := of_decide_eq_true (by first | (with_reducible assumption) | assumption)
                                    obtain ⟨ad149, e149, hx149_0⟩ := Kd.at_string (Kd.R_reads' HO125.out).2.2 0 p149 q149
                                    cases e149
                                    have qi149 : (0 < y123.length) = True := eq_true (by omega)
                                    (try rw [show ((0 : Int)).toNat = 0 from rfl] at hx149_0)
                                    (try rw [Addr.add_zero'] at hx149_0)
                                    replace p149 := eq_true p149
                                    replace q149 := eq_true q149
                                    have p150 : 0 ≤ (0 : Int) := (by omega)
                                    have q150 : 0 < (y101.length : Int) := of_decide_eq_true (by first | (with_reducible assumption) | assumption)
                                    obtain ⟨ad150, e150, hx150_0⟩ := Kd.at_string (Kd.R_reads' HO_13.out).2.2 0 p150 q150
                                    obtain rfl : ad106 = ad150 := (by injection e150)
                                    have qi150 : (0 < y101.length) = True := eq_true (by omega)
                                    (try rw [show ((0 : Int)).toNat = 0 from rfl] at hx150_0)
                                    (try rw [Addr.add_zero'] at hx150_0)
                                    replace p150 := eq_true p150
                                    replace q150 := eq_true q150
                                    refine start_ (n := 11) (S := fun w' => w'.cell? ad149 = some (.string (rdOf ByteArray.empty y123 0)) ∧ w'.cell? ad106 = some (.string (rdOf ByteArray.empty y101 0))) (ds := [9]) #[false, false, false, false, false, false, false, false, false, false, false] (by kernel_rfl) rfl rfl ⟨hx149_0, hx150_0⟩ (fun hHeld => ?_); refine with_tabW laws_FnFilterWords.tab15 laws_FnFilterWords.bits15 (fun HT_ HW_ => ?_)
                                    generalize w84.drew = w86 at HO_13 HO119 HO122 HO125 HB hx149_0 hx150_0 hHeld ⊢
                                    refine pure_ (i := 0) (N := some 94) (v := ?_) (a' := ?_) #[true, false, false, false, false, false, false, false, false, false, false] rfl rfl (any_of HT_.out (by kernel_rfl)) (fun _ _ _ h => h) (Or.inl ⟨by rfl, ?_⟩) ?_ ?_
                                    rotate_left
                                    · intro w'
                                      go_simp
                                      with_reducible rfl
                                    rotate_left
                                    · simp only [Act.put, List.setIfInBounds_toArray, List.set_cons_zero, List.set_cons_succ, i64_w, i32_w]
                                      rfl
                                    refine pure_ (i := 1) (N := some 95) (v := ?_) (a' := ?_) #[true, true, false, false, false, false, false, false, false, false, false] rfl rfl (any_of HT_.out (by kernel_rfl)) (fun _ _ _ h => h) (Or.inl ⟨by rfl, ?_⟩) ?_ ?_
                                    rotate_left
                                    · intro w'
                                      go_simp
                                      with_reducible rfl
                                    rotate_left
                                    · simp only [Act.put, List.setIfInBounds_toArray, List.set_cons_zero, List.set_cons_succ, i64_w, i32_w]
                                      rfl
                                    refine pure_ (i := 2) (N := some 96) (v := ?_) (a' := ?_) #[true, true, true, false, false, false, false, false, false, false, false] rfl rfl (any_of HT_.out (by kernel_rfl)) (fun _ _ _ h => h) (Or.inl ⟨by rfl, ?_⟩) ?_ ?_
                                    rotate_left
                                    · intro w'
                                      go_simp
                                      with_reducible rfl
                                    rotate_left
                                    · simp only [Act.put, List.setIfInBounds_toArray, List.set_cons_zero, List.set_cons_succ, i64_w, i32_w]
                                      rfl
                                    refine pure_ (i := 4) (N := some 98) (v := ?_) (a' := ?_) #[true, true, true, false, true, false, false, false, false, false, false] rfl rfl (any_of HT_.out (by kernel_rfl)) (fun _ _ _ h => h) (Or.inl ⟨by rfl, ?_⟩) ?_ ?_
                                    rotate_left
                                    · intro w'
                                      go_simp
                                      with_reducible rfl
                                    rotate_left
                                    · simp only [Act.put, List.setIfInBounds_toArray, List.set_cons_zero, List.set_cons_succ, i64_w, i32_w]
                                      rfl
                                    refine pure_ (i := 5) (N := some 99) (v := ?_) (a' := ?_) #[true, true, true, false, true, true, false, false, false, false, false] rfl rfl (any_of HT_.out (by kernel_rfl)) (fun _ _ _ h => h) (Or.inl ⟨by rfl, ?_⟩) ?_ ?_
                                    rotate_left
                                    · intro w'
                                      go_simp
                                      with_reducible rfl
                                    rotate_left
                                    · simp only [Act.put, List.setIfInBounds_toArray, List.set_cons_zero, List.set_cons_succ, i64_w, i32_w]
                                      rfl
                                    refine pure_ (i := 7) (N := some 101) (v := ?_) (a' := ?_) #[true, true, true, false, true, true, false, true, false, false, false] rfl rfl (any_of HT_.out (by kernel_rfl)) (fun _ _ _ h => h) (Or.inl ⟨by rfl, ?_⟩) ?_ ?_
                                    rotate_left
                                    · intro w'
                                      go_simp
                                      with_reducible rfl
                                    rotate_left
                                    · simp only [Act.put, List.setIfInBounds_toArray, List.set_cons_zero, List.set_cons_succ, i64_w, i32_w]
                                      rfl
                                    refine take_ (i := 3) (N := some 97) (v := ?_) (a' := ?_) #[true, true, true, true, true, true, false, true, false, false, false] rfl rfl (take_ofW HT_.out HW_.out (by kernel_rfl)) (fun _ _ _ h => h) (Or.inl ⟨by rfl, ?_⟩) hHeld ?_ ?_
                                    rotate_left
                                    · rintro w' ⟨s0, s1⟩
                                      go_simp
                                      with_reducible rfl
                                    rotate_left
                                    · simp only [Act.put, List.setIfInBounds_toArray, List.set_cons_zero, List.set_cons_succ, i64_w, i32_w]
                                      rfl
                                    refine take_ (i := 6) (N := some 100) (v := ?_) (a' := ?_) #[true, true, true, true, true, true, true, true, false, false, false] rfl rfl (take_ofW HT_.out HW_.out (by kernel_rfl)) (fun _ _ _ h => h) (Or.inl ⟨by rfl, ?_⟩) hHeld ?_ ?_
                                    rotate_left
                                    · rintro w' ⟨s0, s1⟩
                                      go_simp
                                      with_reducible rfl
                                    rotate_left
                                    · simp only [Act.put, List.setIfInBounds_toArray, List.set_cons_zero, List.set_cons_succ, i64_w, i32_w]
                                      rfl
                                    refine one_ (i := 8) (N := some 102) #[true, true, true, true, true, true, true, true, true, false, false] rfl rfl (one_of HT_.out (by kernel_rfl)) (by decide) (fun K hK => ?_)
                                    refine Kd.R_lit_step Kd.string _ 9 ?hg (N := 102) ?hd (xs := ([rdOf ByteArray.empty y123 0, (⟨#[120]⟩ : ByteArray), rdOf ByteArray.empty y101 0, t108] : List ByteArray)) (inner := [.string (rdOf ByteArray.empty y123 0), .string (⟨#[120]⟩ : ByteArray), .string (rdOf ByteArray.empty y101 0), .string t108]) (ok := fun _ => True) (okp := fun _ => True) ?hr ?hp (fun _ hk => hk) trivial (Below.refl _ _) (Nat.le_refl _) (by simp) ?_; (case hd => rfl); (case hg => rfl); (case hr => first | (go_simp; done) | (go_simp; rfl)); (case hp => exact (Reps.one (show Kd.M Kd.string _ _ _ (rdOf ByteArray.empty y123 0) [.string (rdOf ByteArray.empty y123 0)] from rfl) (Reps.one (show Kd.M Kd.string _ _ _ (⟨#[120]⟩ : ByteArray) [.string (⟨#[120]⟩ : ByteArray)] from rfl) (Reps.one (show Kd.M Kd.string _ _ _ (rdOf ByteArray.empty y101 0) [.string (rdOf ByteArray.empty y101 0)] from rfl) (Reps.one (show Kd.M Kd.string _ _ _ t108 [.string t108] from rfl) (Reps.none _ _))))))
                                    intro v152 w88 ho89 hb hg_ hnew_
                                    have HS0_ := (hb.cell (World.block_lt_of_cell? _ _ (hHeld.1))).trans (hHeld.1)
                                    have HS1_ := (hb.cell (World.block_lt_of_cell? _ _ (hHeld.2))).trans (hHeld.2)
                                    clear hg_ hnew_
                                    (first | rw [← Ny151.out] at ho89 | (simp only [Int.reduceToNat] at ho89; rw [← Ny151.out] at ho89))
                                    have n0_ := Aside0.mk (Kd.R_elder' (by (with_reducible repeat (first | apply Kd.R_alloc | apply Kd.R_drewN | apply Kd.R_drew)); exact HO_13.out) (Kd.R_base ho89) hb)
                                    have n1_ := Aside0.mk (Kd.R_elder' (by (with_reducible repeat (first | apply Kd.R_alloc | apply Kd.R_drewN | apply Kd.R_drew)); exact HO119.out) (Kd.R_base ho89) hb)
                                    have n2_ := Aside0.mk (Kd.R_elder' (by (with_reducible repeat (first | apply Kd.R_alloc | apply Kd.R_drewN | apply Kd.R_drew)); exact HO122.out) (Kd.R_base ho89) hb)
                                    have n3_ := Aside0.mk (Kd.R_elder' (by (with_reducible repeat (first | apply Kd.R_alloc | apply Kd.R_drewN | apply Kd.R_drew)); exact HO125.out) (Kd.R_base ho89) hb)
                                    have n4_ := Aside0.mk (Kd.R_lower (Kd.R_new' (Kd.R_new' (Kd.R_new' (Kd.R_new' ho89 (Kd.R_lt (by (with_reducible repeat (first | apply Kd.R_alloc | apply Kd.R_drewN | apply Kd.R_drew)); exact HO_13.out))) (Kd.R_lt (by (with_reducible repeat (first | apply Kd.R_alloc | apply Kd.R_drewN | apply Kd.R_drew)); exact HO119.out))) (Kd.R_lt (by (with_reducible repeat (first | apply Kd.R_alloc | apply Kd.R_drewN | apply Kd.R_drew)); exact HO122.out))) (Kd.R_lt (by (with_reducible repeat (first | apply Kd.R_alloc | apply Kd.R_drewN | apply Kd.R_drew)); exact HO125.out))) (below_size (by repeat (first | (with_reducible first | exact HB.out | apply below_alloc | apply pw_below_drewN | apply below_drew1) | exact HB.out))))
                                    have n5_ := Aside0.mk (below_step (by repeat (first | (with_reducible first | exact HB.out | apply below_alloc | apply pw_below_drewN | apply below_drew1) | exact HB.out)) hb)
                                    clear HO_13
                                    clear HO119
                                    clear HO122
                                    clear HO125
                                    clear HB
                                    have HO_13 := n0_
                                    have HO119 := n1_
                                    have HO122 := n2_
                                    have HO125 := n3_
                                    have HO153 := n4_
                                    have HB := n5_
                                    clear n0_ n1_ n2_ n3_ n4_ n5_
                                    clear hb ho89
                                    obtain ⟨Ao91, co91, eo91⟩ := Kd.R_slice HO153.out
                                    (first | (first | subst eo91 | (injection eo91 with e1_ e2_ e3_; subst e1_; have e4_ := e3_.symm; clear e3_; subst e4_)) | (injection eo91 with f1_ f2_ f3_; have f4_ := f1_.symm; have f5_ := f3_.symm; clear f1_ f2_ f3_; subst f4_; subst f5_))
                                    refine hK.out _ _ ⟨HS0_, HS1_⟩ (fun hHeld => ?_)
                                    clear hK K
                                    refine norm_ (a' := ?_) ?_ ?_
                                    rotate_left
                                    · show Act.put _ (some 102) _ = _
                                      simp only [Act.put, List.setIfInBounds_toArray, List.set_cons_zero, List.set_cons_succ, i64_w, i32_w]
                                      rfl
                                    refine last_ (i := 9) (N := some 103) #[true, true, true, true, true, true, true, true, true, true, false] rfl rfl (one_of HT_.out (by kernel_rfl)) (by decide) (fun K hK => ?_)
                                    refine Kd.R_append_rows_step Kd.string (w0 := w) w.heap.size (by rfl) (.tmp 94) (.tmp 102) 26 9 (.string ⟨#[]⟩) 16 rfl Tryd.underlying26 info9 rfl (by decide) (by omega) v118 y117 y151 _ _ _ (fun k_ => some k_ ≠ (.slice (some ad106) y101.length co21 : Value).ownBlock ∧ some k_ ≠ (v121 : Value).ownBlock ∧ some k_ ≠ (.slice (some ad149) y123.length co87 : Value).ownBlock ∧ some k_ ≠ (.slice Ao91 y151.length co91 : Value).ownBlock) (fun _ => False) rfl rfl ?aO ?aR (fun _ _ h => h) (fun _ h => h.elim) ?aF ?aB ?aS ?aL ?_
                                    (case aR => repeat (first | exact (Kd.R_reads' HO153.out).2.2 | (with_reducible refine Kd.C_alloc ?_ _) | (with_reducible refine Kd.C_drewN ?_ _) | (with_reducible refine Kd.C_drew ?_)))
                                    (case aB => exact (by repeat (first | (with_reducible first | exact HB.out | apply below_alloc | apply pw_below_drewN | apply below_drew1) | exact HB.out)))
                                    (case aF => exact (fun k_ hk => ⟨Kd.fresh' (Kd.R_lt (by (with_reducible repeat (first | apply Kd.R_alloc | apply Kd.R_drewN | apply Kd.R_drew)); exact HO_13.out)) k_ hk, Kd.fresh' (Kd.R_lt (by (with_reducible repeat (first | apply Kd.R_alloc | apply Kd.R_drewN | apply Kd.R_drew)); exact HO122.out)) k_ hk, Kd.fresh' (Kd.R_lt (by (with_reducible repeat (first | apply Kd.R_alloc | apply Kd.R_drewN | apply Kd.R_drew)); exact HO125.out)) k_ hk, Kd.fresh' (Kd.R_lt (by (with_reducible repeat (first | apply Kd.R_alloc | apply Kd.R_drewN | apply Kd.R_drew)); exact HO153.out)) k_ hk⟩))
                                    (case aO => exact (by (with_reducible repeat (first | apply Kd.R_alloc | apply Kd.R_drewN | apply Kd.R_drew)); exact Kd.R_mono HO119.out (fun _ hk => ⟨hk.1.1.1.2, ⟨hk.1.1.2, ⟨hk.1.2, hk.2⟩⟩⟩)))
                                    (case aS => exact (below_size (by repeat (first | (with_reducible first | exact HB.out | apply below_alloc | apply pw_below_drewN | apply below_drew1) | exact HB.out))))
                                    (case aL => have := LMc73.out; omega)
                                    intro v155 w90 ho hb hg hat
                                    rw [← Ny154.out] at ho
                                    have n0_ := Aside0.mk (Kd.R_after (ok := (fun k_ => some k_ ≠ (v121 : Value).ownBlock ∧ some k_ ≠ (.slice (some ad149) y123.length co87 : Value).ownBlock ∧ some k_ ≠ (.slice Ao91 y151.length co91 : Value).ownBlock)) (by (with_reducible repeat (first | apply Kd.R_alloc | apply Kd.R_drewN | apply Kd.R_drew)); exact Kd.R_mono HO_13.out (fun _ hk => ⟨⟨hk.1.1.2, ⟨hk.1.2, hk.2⟩⟩, hk.1.1.1.2⟩)) hg hat)
                                    have n1_ := Aside0.mk (Kd.R_after (ok := (fun k_ => some k_ ≠ (.slice (some ad106) y101.length co21 : Value).ownBlock ∧ some k_ ≠ (.slice (some ad149) y123.length co87 : Value).ownBlock ∧ some k_ ≠ (.slice Ao91 y151.length co91 : Value).ownBlock)) (by (with_reducible repeat (first | apply Kd.R_alloc | apply Kd.R_drewN | apply Kd.R_drew)); exact Kd.R_mono HO122.out (fun _ hk => ⟨⟨hk.1.1.1.2, ⟨hk.1.2, hk.2⟩⟩, hk.1.1.2⟩)) hg hat)
                                    have n2_ := Aside0.mk (Kd.R_after (ok := (fun k_ => some k_ ≠ (.slice (some ad106) y101.length co21 : Value).ownBlock ∧ some k_ ≠ (v121 : Value).ownBlock ∧ some k_ ≠ (.slice Ao91 y151.length co91 : Value).ownBlock)) (by (with_reducible repeat (first | apply Kd.R_alloc | apply Kd.R_drewN | apply Kd.R_drew)); exact Kd.R_mono HO125.out (fun _ hk => ⟨⟨hk.1.1.1.2, ⟨hk.1.2, hk.2⟩⟩, hk.1.1.2⟩)) hg hat)
                                    have n3_ := Aside0.mk (Kd.R_after (ok := (fun k_ => some k_ ≠ (.slice (some ad106) y101.length co21 : Value).ownBlock ∧ some k_ ≠ (v121 : Value).ownBlock ∧ some k_ ≠ (.slice (some ad149) y123.length co87 : Value).ownBlock)) (by (with_reducible repeat (first | apply Kd.R_alloc | apply Kd.R_drewN | apply Kd.R_drew)); exact Kd.R_mono HO153.out (fun _ hk => ⟨⟨hk.1.1.1.2, ⟨hk.1.2, hk.2⟩⟩, hk.1.1.2⟩)) hg hat)
                                    have n4_ := Aside0.mk (hb)
                                    have n5_ := Aside0.mk (ho)
                                    clear HO_13
                                    clear HO122
                                    clear HO125
                                    clear HO153
                                    clear HB
                                    clear HO119
                                    have HO_13 := n0_
                                    have HO122 := n1_
                                    have HO125 := n2_
                                    have HO153 := n3_
                                    have HB := n4_
                                    have HO156 := n5_
                                    clear n0_ n1_ n2_ n3_ n4_ n5_
                                    clear ho hb hg hat
                                    refine hK.out _ _ ?_
                                    clear hK K
                                    refine norm_ (a' := ?_) ?_ ?_
                                    rotate_left
                                    · show Act.put _ (some 103) _ = _
                                      simp only [Act.put, List.setIfInBounds_toArray, List.set_cons_zero, List.set_cons_succ, i64_w, i32_w]
                                      rfl
                                    refine pure_ (i := 10) (N := some 17) (v := ?_) (a' := ?_) #[true, true, true, true, true, true, true, true, true, true, true] rfl rfl (any_of HT_.out (by kernel_rfl)) (fun _ _ _ h => h) (Or.inl ⟨by rfl, ?_⟩) ?_ ?_
                                    rotate_left
                                    · intro w'
                                      go_simp
                                      with_reducible rfl
                                    rotate_left
                                    · simp only [Act.put, List.setIfInBounds_toArray, List.set_cons_zero, List.set_cons_succ, i64_w, i32_w]
                                      rfl
                                    refine done_ (done_of HT_.out (by kernel_rfl)) ?_
                                    have p157 : 0 ≤ (1 : Int) := (by omega)
                                    have q157 : 1 < (y123.length : Int) := of_decide_eq_true (by first | (with_reducible assumption) | assumption)
                                    obtain ⟨ad157, e157, hx157_0⟩ := Kd.at_string (Kd.R_reads' HO125.out).2.2 1 p157 q157
                                    obtain rfl : ad149 = ad157 := (by injection e157)
                                    (try simp only [show (1 : Int).toNat = 1 from rfl, Nat.reduceMul, Nat.reduceEqDiff, Go.Addr.add, ↓reduceIte] at hx157_0)
                                    have qi157 : (1 < y123.length) = True := eq_true (by omega)
                                    (try rw [show ((1 : Int)).toNat = 1 from rfl] at hx157_0)
                                    replace p157 := eq_true p157
                                    replace q157 := eq_true q157
                                    try go_wp2_with (first | ((with_reducible refine gate_dst (N := 110) rfl ?_); (try (refine gate_guard (by rfl) ?_; dsimp only)); refine Kd.R_lit Kd.string _ 9 ?hg (N := 110) ?hd (xs := ([rdOf ByteArray.empty y123 1, (⟨#[120]⟩ : ByteArray), (rdOf ByteArray.empty y101 (ji12)), t108] : List ByteArray)) (inner := [.string (rdOf ByteArray.empty y123 1), .string (⟨#[120]⟩ : ByteArray), .string (rdOf ByteArray.empty y101 (ji12)), .string t108]) (ok := fun _ => True) (okp := fun _ => True) ?hr ?hp (fun _ hk => hk) trivial (Below.refl _ _) (Nat.le_refl _) (by simp) ?_; (case hd => rfl); (case hg => rfl); (case hr => first | (go_simp; done) | (go_simp; rfl)); (case hp => exact (Reps.one (show Kd.M Kd.string _ _ _ (rdOf ByteArray.empty y123 1) [.string (rdOf ByteArray.empty y123 1)] from rfl) (Reps.one (show Kd.M Kd.string _ _ _ (⟨#[120]⟩ : ByteArray) [.string (⟨#[120]⟩ : ByteArray)] from rfl) (Reps.one (show Kd.M Kd.string _ _ _ (rdOf ByteArray.empty y101 (ji12)) [.string (rdOf ByteArray.empty y101 (ji12))] from rfl) (Reps.one (show Kd.M Kd.string _ _ _ t108 [.string t108] from rfl) (Reps.none _ _)))))); intro v159 w92 ho93 hb hg_ hnew_; clear hg_ hnew_; (first | rw [← Ny158.out] at ho93 | (simp only [Int.reduceToNat] at ho93; rw [← Ny158.out] at ho93)); have n0_ := Aside0.mk (Kd.R_elder' (by (with_reducible repeat (first | apply Kd.R_alloc | apply Kd.R_drewN | apply Kd.R_drew)); exact HO_13.out) (Kd.R_base ho93) hb); have n1_ := Aside0.mk (Kd.R_elder' (by (with_reducible repeat (first | apply Kd.R_alloc | apply Kd.R_drewN | apply Kd.R_drew)); exact HO122.out) (Kd.R_base ho93) hb); have n2_ := Aside0.mk (Kd.R_elder' (by (with_reducible repeat (first | apply Kd.R_alloc | apply Kd.R_drewN | apply Kd.R_drew)); exact HO125.out) (Kd.R_base ho93) hb); have n3_ := Aside0.mk (Kd.R_elder' (by (with_reducible repeat (first | apply Kd.R_alloc | apply Kd.R_drewN | apply Kd.R_drew)); exact HO153.out) (Kd.R_base ho93) hb); have n4_ := Aside0.mk (Kd.R_elder' (by (with_reducible repeat (first | apply Kd.R_alloc | apply Kd.R_drewN | apply Kd.R_drew)); exact HO156.out) (Kd.R_base ho93) hb); have n5_ := Aside0.mk (Kd.R_lower (Kd.R_new' (Kd.R_new' (Kd.R_new' (Kd.R_new' (Kd.R_new' ho93 (Kd.R_lt (by (with_reducible repeat (first | apply Kd.R_alloc | apply Kd.R_drewN | apply Kd.R_drew)); exact HO_13.out))) (Kd.R_lt (by (with_reducible repeat (first | apply Kd.R_alloc | apply Kd.R_drewN | apply Kd.R_drew)); exact HO122.out))) (Kd.R_lt (by (with_reducible repeat (first | apply Kd.R_alloc | apply Kd.R_drewN | apply Kd.R_drew)); exact HO125.out))) (Kd.R_lt (by (with_reducible repeat (first | apply Kd.R_alloc | apply Kd.R_drewN | apply Kd.R_drew)); exact HO153.out))) (Kd.R_lt (by (with_reducible repeat (first | apply Kd.R_alloc | apply Kd.R_drewN | apply Kd.R_drew)); exact HO156.out))) (below_size (by repeat (first | (with_reducible first | exact HB.out | apply below_alloc | apply pw_below_drewN | apply below_drew1) | exact HB.out)))); have n6_ := Aside0.mk (below_step (by repeat (first | (with_reducible first | exact HB.out | apply below_alloc | apply pw_below_drewN | apply below_drew1) | exact HB.out)) hb); clear HO_13; clear HO122; clear HO125; clear HO153; clear HO156; clear HB; have HO_13 := n0_; have HO122 := n1_; have HO125 := n2_; have HO153 := n3_; have HO156 := n4_; have HO160 := n5_; have HB := n6_; clear n0_ n1_ n2_ n3_ n4_ n5_ n6_; clear hb ho93; obtain ⟨Ao95, co95, eo95⟩ := Kd.R_slice HO160.out; (first | subst eo95 | (injection eo95 with e1_ e2_ e3_; subst e1_; have e4_ := e3_.symm; clear e3_; subst e4_))) | ((with_reducible refine gate_builtin (b := .append) (xs := #[.tmp 104, .tmp 110]) rfl ?_); (try (refine gate_guard (by rfl) ?_; dsimp only)); at_builtin; refine Kd.R_append_rows Kd.string (w0 := w) w.heap.size rfl (.tmp 104) (.tmp 110) 26 9 (.string ⟨#[]⟩) 16 rfl Tryd.underlying26 info9 rfl (by decide) (by omega) v121 y120 y158 _ _ _ (fun k_ => some k_ ≠ (.slice (some ad106) y101.length co21 : Value).ownBlock ∧ some k_ ≠ (.slice (some ad149) y123.length co87 : Value).ownBlock ∧ some k_ ≠ (.slice Ao91 y151.length co91 : Value).ownBlock ∧ some k_ ≠ (v155 : Value).ownBlock ∧ some k_ ≠ (.slice Ao95 y158.length co95 : Value).ownBlock) (fun _ => False) rfl rfl ?aO ?aR (fun _ _ h => h) (fun _ h => h.elim) ?aF ?aB ?aS ?aL ?_; (case aR => repeat (first | exact (Kd.R_reads' HO160.out).2.2 | (with_reducible refine Kd.C_alloc ?_ _) | (with_reducible refine Kd.C_drewN ?_ _) | (with_reducible refine Kd.C_drew ?_))); (case aB => exact (by repeat (first | (with_reducible first | exact HB.out | apply below_alloc | apply pw_below_drewN | apply below_drew1) | exact HB.out))); (case aF => exact (fun k_ hk => ⟨Kd.fresh' (Kd.R_lt (by (with_reducible repeat (first | apply Kd.R_alloc | apply Kd.R_drewN | apply Kd.R_drew)); exact HO_13.out)) k_ hk, Kd.fresh' (Kd.R_lt (by (with_reducible repeat (first | apply Kd.R_alloc | apply Kd.R_drewN | apply Kd.R_drew)); exact HO125.out)) k_ hk, Kd.fresh' (Kd.R_lt (by (with_reducible repeat (first | apply Kd.R_alloc | apply Kd.R_drewN | apply Kd.R_drew)); exact HO153.out)) k_ hk, Kd.fresh' (Kd.R_lt (by (with_reducible repeat (first | apply Kd.R_alloc | apply Kd.R_drewN | apply Kd.R_drew)); exact HO156.out)) k_ hk, Kd.fresh' (Kd.R_lt (by (with_reducible repeat (first | apply Kd.R_alloc | apply Kd.R_drewN | apply Kd.R_drew)); exact HO160.out)) k_ hk⟩)); (case aO => exact (by (with_reducible repeat (first | apply Kd.R_alloc | apply Kd.R_drewN | apply Kd.R_drew)); exact Kd.R_mono HO122.out (fun _ hk => ⟨hk.1.1.1, ⟨hk.1.1.2.1, ⟨hk.1.1.2.2, ⟨hk.1.2, hk.2⟩⟩⟩⟩))); (case aS => exact (below_size (by repeat (first | (with_reducible first | exact HB.out | apply below_alloc | apply pw_below_drewN | apply below_drew1) | exact HB.out)))); (case aL => have := LMc75.out; omega); intro v162 w94 ho hb hg hat; rw [← Ny161.out] at ho; have n0_ := Aside0.mk (Kd.R_after (ok := (fun k_ => some k_ ≠ (.slice (some ad149) y123.length co87 : Value).ownBlock ∧ some k_ ≠ (.slice Ao91 y151.length co91 : Value).ownBlock ∧ some k_ ≠ (v155 : Value).ownBlock ∧ some k_ ≠ (.slice Ao95 y158.length co95 : Value).ownBlock)) (by (with_reducible repeat (first | apply Kd.R_alloc | apply Kd.R_drewN | apply Kd.R_drew)); exact Kd.R_mono HO_13.out (fun _ hk => ⟨⟨hk.1.1.2.1, ⟨hk.1.1.2.2, ⟨hk.1.2, hk.2⟩⟩⟩, hk.1.1.1⟩)) hg hat); have n1_ := Aside0.mk (Kd.R_after (ok := (fun k_ => some k_ ≠ (.slice (some ad106) y101.length co21 : Value).ownBlock ∧ some k_ ≠ (.slice Ao91 y151.length co91 : Value).ownBlock ∧ some k_ ≠ (v155 : Value).ownBlock ∧ some k_ ≠ (.slice Ao95 y158.length co95 : Value).ownBlock)) (by (with_reducible repeat (first | apply Kd.R_alloc | apply Kd.R_drewN | apply Kd.R_drew)); exact Kd.R_mono HO125.out (fun _ hk => ⟨⟨hk.1.1.1, ⟨hk.1.1.2.2, ⟨hk.1.2, hk.2⟩⟩⟩, hk.1.1.2.1⟩)) hg hat); have n2_ := Aside0.mk (Kd.R_after (ok := (fun k_ => some k_ ≠ (.slice (some ad106) y101.length co21 : Value).ownBlock ∧ some k_ ≠ (.slice (some ad149) y123.length co87 : Value).ownBlock ∧ some k_ ≠ (v155 : Value).ownBlock ∧ some k_ ≠ (.slice Ao95 y158.length co95 : Value).ownBlock)) (by (with_reducible repeat (first | apply Kd.R_alloc | apply Kd.R_drewN | apply Kd.R_drew)); exact Kd.R_mono HO153.out (fun _ hk => ⟨⟨hk.1.1.1, ⟨hk.1.1.2.2, ⟨hk.1.2, hk.2⟩⟩⟩, hk.1.1.2.1⟩)) hg hat); have n3_ := Aside0.mk (Kd.R_after (ok := (fun k_ => some k_ ≠ (.slice (some ad106) y101.length co21 : Value).ownBlock ∧ some k_ ≠ (.slice (some ad149) y123.length co87 : Value).ownBlock ∧ some k_ ≠ (.slice Ao91 y151.length co91 : Value).ownBlock ∧ some k_ ≠ (.slice Ao95 y158.length co95 : Value).ownBlock)) (by (with_reducible repeat (first | apply Kd.R_alloc | apply Kd.R_drewN | apply Kd.R_drew)); exact Kd.R_mono HO156.out (fun _ hk => ⟨⟨hk.1.1, ⟨hk.1.2.2.1, ⟨hk.1.2.2.2, hk.2⟩⟩⟩, hk.1.2.1⟩)) hg hat); have n4_ := Aside0.mk (Kd.R_after (ok := (fun k_ => some k_ ≠ (.slice (some ad106) y101.length co21 : Value).ownBlock ∧ some k_ ≠ (.slice (some ad149) y123.length co87 : Value).ownBlock ∧ some k_ ≠ (.slice Ao91 y151.length co91 : Value).ownBlock ∧ some k_ ≠ (v155 : Value).ownBlock)) (by (with_reducible repeat (first | apply Kd.R_alloc | apply Kd.R_drewN | apply Kd.R_drew)); exact Kd.R_mono HO160.out (fun _ hk => ⟨⟨hk.1.1.1.1.2, ⟨hk.1.1.2, ⟨hk.1.2, hk.2⟩⟩⟩, hk.1.1.1.2⟩)) hg hat); have n5_ := Aside0.mk (hb); have n6_ := Aside0.mk (ho); clear HO_13; clear HO125; clear HO153; clear HO156; clear HO160; clear HB; clear HO122; have HO_13 := n0_; have HO125 := n1_; have HO153 := n2_; have HO156 := n3_; have HO160 := n4_; have HB := n5_; have HO163 := n6_; clear n0_ n1_ n2_ n3_ n4_ n5_ n6_; clear ho hb hg hat; obtain ⟨Ao96, co96, eo96⟩ := Kd.R_slice HO156.out; (first | subst eo96 | (injection eo96 with e1_ e2_ e3_; subst e1_; have e4_ := e3_.symm; clear e3_; subst e4_))) | ((with_reducible refine gate_callee (f := 11) rfl ?_); refine goesL_ (some 114) rfl rfl Tryd.func11 (by kernel_rfl) rfl #[.slice Ao96 y154.length co96] rfl (by (try simp only [List.map_toArray, List.map_cons, List.map_nil]); first | done | rfl | (simp only [List.length_drop, List.length_take]; rfl)) ?_; (with_reducible refine (Go.Proofs.YtjefbpfpobgmaaaDoor.PFx.laws_refFilter.calls kj17 _ _ y154 t164 true _ ?side1 ?side2 A76.out).mono ?_); (case side1 => repeat (first | exact (Kd.R_reads' HO156.out).2.2 | (with_reducible refine Kd.C_alloc ?_ _) | (with_reducible refine Kd.C_drewN ?_ _) | (with_reducible refine Kd.C_drew ?_))); (case side2 => exact (Kd.R_reads' HO156.out).2.1); rintro e w97 ⟨rfl, hb⟩; refine ⟨_, rfl, ?_⟩; have n0_ := Aside0.mk (Kd.R_below (by (with_reducible repeat (first | apply Kd.R_alloc | apply Kd.R_drewN | apply Kd.R_drew)); exact HO_13.out) hb); have n1_ := Aside0.mk (Kd.R_below (by (with_reducible repeat (first | apply Kd.R_alloc | apply Kd.R_drewN | apply Kd.R_drew)); exact HO125.out) hb); have n2_ := Aside0.mk (Kd.R_below (by (with_reducible repeat (first | apply Kd.R_alloc | apply Kd.R_drewN | apply Kd.R_drew)); exact HO153.out) hb); have n3_ := Aside0.mk (Kd.R_below (by (with_reducible repeat (first | apply Kd.R_alloc | apply Kd.R_drewN | apply Kd.R_drew)); exact HO156.out) hb); have n4_ := Aside0.mk (Kd.R_below (by (with_reducible repeat (first | apply Kd.R_alloc | apply Kd.R_drewN | apply Kd.R_drew)); exact HO160.out) hb); have n5_ := Aside0.mk (Kd.R_below (by (with_reducible repeat (first | apply Kd.R_alloc | apply Kd.R_drewN | apply Kd.R_drew)); exact HO163.out) hb); have n6_ := Aside0.mk (below_step (by repeat (first | (with_reducible first | exact HB.out | apply below_alloc | apply pw_below_drewN | apply below_drew1) | exact HB.out)) hb); clear HO_13; clear HO125; clear HO153; clear HO156; clear HO160; clear HO163; clear HB; have HO_13 := n0_; have HO125 := n1_; have HO153 := n2_; have HO156 := n3_; have HO160 := n4_; have HO163 := n5_; have HB := n6_; clear n0_ n1_ n2_ n3_ n4_ n5_ n6_; (try clear hb); (try clear hb2); (try clear hk); (try clear hi); obtain ⟨Ao98, co98, eo98⟩ := Kd.R_slice HO163.out; (first | subst eo98 | (injection eo98 with e1_ e2_ e3_; subst e1_; have e4_ := e3_.symm; clear e3_; subst e4_))) | ((with_reducible refine gate_callee (f := 11) rfl ?_); refine goesL_ (some 119) rfl rfl Tryd.func11 (by kernel_rfl) rfl #[.slice Ao98 y161.length co98] rfl (by (try simp only [List.map_toArray, List.map_cons, List.map_nil]); first | done | rfl | (simp only [List.length_drop, List.length_take]; rfl)) ?_; (with_reducible refine (Go.Proofs.YtjefbpfpobgmaaaDoor.PFx.laws_refFilter.calls kj17 _ _ y161 t166 true _ ?side1 ?side2 A77.out).mono ?_); (case side1 => repeat (first | exact (Kd.R_reads' HO163.out).2.2 | (with_reducible refine Kd.C_alloc ?_ _) | (with_reducible refine Kd.C_drewN ?_ _) | (with_reducible refine Kd.C_drew ?_))); (case side2 => exact (Kd.R_reads' HO163.out).2.1); rintro e w99 ⟨rfl, hb⟩; refine ⟨_, rfl, ?_⟩; have n0_ := Aside0.mk (Kd.R_below (by (with_reducible repeat (first | apply Kd.R_alloc | apply Kd.R_drewN | apply Kd.R_drew)); exact HO_13.out) hb); have n1_ := Aside0.mk (Kd.R_below (by (with_reducible repeat (first | apply Kd.R_alloc | apply Kd.R_drewN | apply Kd.R_drew)); exact HO125.out) hb); have n2_ := Aside0.mk (Kd.R_below (by (with_reducible repeat (first | apply Kd.R_alloc | apply Kd.R_drewN | apply Kd.R_drew)); exact HO153.out) hb); have n3_ := Aside0.mk (Kd.R_below (by (with_reducible repeat (first | apply Kd.R_alloc | apply Kd.R_drewN | apply Kd.R_drew)); exact HO156.out) hb); have n4_ := Aside0.mk (Kd.R_below (by (with_reducible repeat (first | apply Kd.R_alloc | apply Kd.R_drewN | apply Kd.R_drew)); exact HO160.out) hb); have n5_ := Aside0.mk (Kd.R_below (by (with_reducible repeat (first | apply Kd.R_alloc | apply Kd.R_drewN | apply Kd.R_drew)); exact HO163.out) hb); have n6_ := Aside0.mk (below_step (by repeat (first | (with_reducible first | exact HB.out | apply below_alloc | apply pw_below_drewN | apply below_drew1) | exact HB.out)) hb); clear HO_13; clear HO125; clear HO153; clear HO156; clear HO160; clear HO163; clear HB; have HO_13 := n0_; have HO125 := n1_; have HO153 := n2_; have HO156 := n3_; have HO160 := n4_; have HO163 := n5_; have HB := n6_; clear n0_ n1_ n2_ n3_ n4_ n5_ n6_; (try clear hb); (try clear hb2); (try clear hk); (try clear hi)))
                                    go_ret
                                    exact ⟨by first | rfl | (simp [errW_none, errW_some] <;> rfl) | (simp only [← hji12]; first | rfl | (simp [errW_none, errW_some] <;> rfl)) | (generalize ByteArray.toList _ = l_; cases l_ <;> first | rfl | (simp; done)) | (simp [*, errW_none, errW_some] <;> rfl), by repeat (first | (with_reducible first | exact HB.out | apply below_alloc | apply pw_below_drewN | apply below_drew1) | exact HB.out)⟩
                                  · replace c79 := Bool.eq_false_iff.mpr c79
                                    subst c79
                                    have H1 : (none) = some r := by rw [if_neg (show ¬ (false = true) by decide)] at H; exact H
                                    clear H
                                    have H := H1
                                    clear H1
                                    exact absurd H (by simp)
                                · replace c78 := Bool.eq_false_iff.mpr c78
                                  subst c78
                                  have H1 : (none) = some r := by rw [if_neg (show ¬ (false = true) by decide)] at H; exact H
                                  clear H
                                  have H := H1
                                  clear H1
                                  exact absurd H (by simp)
                              · rw [if_neg c75] at H
                                exact absurd H (by simp)
                            · rw [if_neg c74] at H
                              exact absurd H (by simp)
                          · rw [if_neg c73] at H
                            exact absurd H (by simp)
                        · rw [if_neg c72] at H
                          exact absurd H (by simp)
                    · replace c39 := Bool.eq_false_iff.mpr c39
                      subst c39
                      have H1 : ((Go.Proofs.YtjefbpfpobgmaaaDoor.PFx.laws_refFilter.f kj17 y117).bind fun bt168 => ((Go.Proofs.YtjefbpfpobgmaaaDoor.PFx.laws_refFilter.f kj17 y120).bind fun bt170 => (if bt168.2 = true then (if bt170.2 = true then (some (bt168.1.toList == bt170.1.toList)) else (none)) else (none)))) = some r := by rw [if_neg (show ¬ (false = true) by decide)] at H; exact H
                      clear H
                      have H := H1
                      clear H1
                      replace H := Option.bind_eq_some_iff.mp H
                      obtain ⟨⟨t168, t169⟩, A1000, H⟩ := H
                      replace H : ((Go.Proofs.YtjefbpfpobgmaaaDoor.PFx.laws_refFilter.f kj17 y120).bind fun bt170 => (if t169 = true then (if bt170.2 = true then (some (t168.toList == bt170.1.toList)) else (none)) else (none))) = some r := H
                      have A100 := Aside0.mk A1000
                      clear A1000
                      replace H := Option.bind_eq_some_iff.mp H
                      obtain ⟨⟨t170, t171⟩, A1010, H⟩ := H
                      replace H : (if t169 = true then (if t171 = true then (some (t168.toList == t170.toList)) else (none)) else (none)) = some r := H
                      have A101 := Aside0.mk A1010
                      clear A1010
                      by_cases c102 : t169 = true
                      · subst c102
                        have H1 : (if t171 = true then (some (t168.toList == t170.toList)) else (none)) = some r := by rw [if_pos rfl] at H; exact H
                        clear H
                        have H := H1
                        clear H1
                        by_cases c103 : t171 = true
                        · subst c103
                          have H1 : (some (t168.toList == t170.toList)) = some r := by rw [if_pos rfl] at H; exact H
                          clear H
                          have H := H1
                          clear H1
                          obtain rfl := Option.some.inj H
                          have p116 : 0 ≤ (0 : Int) := (by omega)
                          have q116 : 0 < (y101.length : Int) := of_decide_eq_true (by first | (with_reducible assumption) | assumption)
                          obtain ⟨ad116, e116, hx116_0⟩ := Kd.at_string (Kd.R_reads' HO_13.out).2.2 0 p116 q116
                          obtain rfl : ad106 = ad116 := (by injection e116)
                          have qi116 : (0 < y101.length) = True := eq_true (by omega)
                          (try rw [show ((0 : Int)).toNat = 0 from rfl] at hx116_0)
                          (try rw [Addr.add_zero'] at hx116_0)
                          replace p116 := eq_true p116
                          replace q116 := eq_true q116
                          go_wp2_with (first | ((with_reducible refine gate_dst (N := 78) rfl ?_); (try (refine gate_guard (by rfl) ?_; dsimp only)); refine Kd.R_lit Kd.string _ 9 ?hg (N := 78) ?hd (xs := ([(⟨#[120]⟩ : ByteArray), rdOf ByteArray.empty y101 0, t107] : List ByteArray)) (inner := [.string (⟨#[120]⟩ : ByteArray), .string (rdOf ByteArray.empty y101 0), .string t107]) (ok := fun _ => True) (okp := fun _ => True) ?hr ?hp (fun _ hk => hk) trivial (Below.refl _ _) (Nat.le_refl _) (by simp) ?_; (case hd => rfl); (case hg => rfl); (case hr => first | (go_simp; done) | (go_simp; rfl)); (case hp => exact (Reps.one (show Kd.M Kd.string _ _ _ (⟨#[120]⟩ : ByteArray) [.string (⟨#[120]⟩ : ByteArray)] from rfl) (Reps.one (show Kd.M Kd.string _ _ _ (rdOf ByteArray.empty y101 0) [.string (rdOf ByteArray.empty y101 0)] from rfl) (Reps.one (show Kd.M Kd.string _ _ _ t107 [.string t107] from rfl) (Reps.none _ _))))); intro v118 w104 ho105 hb hg_ hnew_; clear hg_ hnew_; (first | rw [← Ny117.out] at ho105 | (simp only [Int.reduceToNat] at ho105; rw [← Ny117.out] at ho105)); have n0_ := Aside0.mk (Kd.R_elder' (by (with_reducible repeat (first | apply Kd.R_alloc | apply Kd.R_drewN | apply Kd.R_drew)); exact HO_13.out) (Kd.R_base ho105) hb); have n1_ := Aside0.mk (Kd.R_lower (Kd.R_new' ho105 (Kd.R_lt (by (with_reducible repeat (first | apply Kd.R_alloc | apply Kd.R_drewN | apply Kd.R_drew)); exact HO_13.out))) (below_size (by repeat (first | (with_reducible first | exact HB.out | apply below_alloc | apply pw_below_drewN | apply below_drew1) | exact HB.out)))); have n2_ := Aside0.mk (below_step (by repeat (first | (with_reducible first | exact HB.out | apply below_alloc | apply pw_below_drewN | apply below_drew1) | exact HB.out)) hb); clear HO_13; clear HB; have HO_13 := n0_; have HO119 := n1_; have HB := n2_; clear n0_ n1_ n2_; clear hb ho105) | ((with_reducible refine gate_dst (N := 81) rfl ?_); (try (refine gate_guard (by rfl) ?_; dsimp only)); refine Kd.R_lit Kd.string _ 9 ?hg (N := 81) ?hd (xs := ([(⟨#[120]⟩ : ByteArray), (rdOf ByteArray.empty y101 (ji12)), t107] : List ByteArray)) (inner := [.string (⟨#[120]⟩ : ByteArray), .string (rdOf ByteArray.empty y101 (ji12)), .string t107]) (ok := fun _ => True) (okp := fun _ => True) ?hr ?hp (fun _ hk => hk) trivial (Below.refl _ _) (Nat.le_refl _) (by simp) ?_; (case hd => rfl); (case hg => rfl); (case hr => first | (go_simp; done) | (go_simp; rfl)); (case hp => exact (Reps.one (show Kd.M Kd.string _ _ _ (⟨#[120]⟩ : ByteArray) [.string (⟨#[120]⟩ : ByteArray)] from rfl) (Reps.one (show Kd.M Kd.string _ _ _ (rdOf ByteArray.empty y101 (ji12)) [.string (rdOf ByteArray.empty y101 (ji12))] from rfl) (Reps.one (show Kd.M Kd.string _ _ _ t107 [.string t107] from rfl) (Reps.none _ _))))); intro v121 w106 ho107 hb hg_ hnew_; clear hg_ hnew_; (first | rw [← Ny120.out] at ho107 | (simp only [Int.reduceToNat] at ho107; rw [← Ny120.out] at ho107)); have n0_ := Aside0.mk (Kd.R_elder' (by (with_reducible repeat (first | apply Kd.R_alloc | apply Kd.R_drewN | apply Kd.R_drew)); exact HO_13.out) (Kd.R_base ho107) hb); have n1_ := Aside0.mk (Kd.R_elder' (by (with_reducible repeat (first | apply Kd.R_alloc | apply Kd.R_drewN | apply Kd.R_drew)); exact HO119.out) (Kd.R_base ho107) hb); have n2_ := Aside0.mk (Kd.R_lower (Kd.R_new' (Kd.R_new' ho107 (Kd.R_lt (by (with_reducible repeat (first | apply Kd.R_alloc | apply Kd.R_drewN | apply Kd.R_drew)); exact HO_13.out))) (Kd.R_lt (by (with_reducible repeat (first | apply Kd.R_alloc | apply Kd.R_drewN | apply Kd.R_drew)); exact HO119.out))) (below_size (by repeat (first | (with_reducible first | exact HB.out | apply below_alloc | apply pw_below_drewN | apply below_drew1) | exact HB.out)))); have n3_ := Aside0.mk (below_step (by repeat (first | (with_reducible first | exact HB.out | apply below_alloc | apply pw_below_drewN | apply below_drew1) | exact HB.out)) hb); clear HO_13; clear HO119; clear HB; have HO_13 := n0_; have HO119 := n1_; have HO122 := n2_; have HB := n3_; clear n0_ n1_ n2_ n3_; clear hb ho107; obtain ⟨Ao108, co108, eo108⟩ := Kd.R_slice HO119.out; (first | subst eo108 | (injection eo108 with e1_ e2_ e3_; subst e1_; have e4_ := e3_.symm; clear e3_; subst e4_))) | ((with_reducible refine gate_callee (f := 11) rfl ?_); refine goesL_ (some 114) rfl rfl Tryd.func11 (by kernel_rfl) rfl #[.slice Ao108 y117.length co108] rfl (by (try simp only [List.map_toArray, List.map_cons, List.map_nil]); first | done | rfl | (simp only [List.length_drop, List.length_take]; rfl)) ?_; (with_reducible refine (Go.Proofs.YtjefbpfpobgmaaaDoor.PFx.laws_refFilter.calls kj17 _ _ y117 t168 true _ ?side1 ?side2 A100.out).mono ?_); (case side1 => repeat (first | exact (Kd.R_reads' HO119.out).2.2 | (with_reducible refine Kd.C_alloc ?_ _) | (with_reducible refine Kd.C_drewN ?_ _) | (with_reducible refine Kd.C_drew ?_))); (case side2 => exact (Kd.R_reads' HO119.out).2.1); rintro e w109 ⟨rfl, hb⟩; refine ⟨_, rfl, ?_⟩; have n0_ := Aside0.mk (Kd.R_below (by (with_reducible repeat (first | apply Kd.R_alloc | apply Kd.R_drewN | apply Kd.R_drew)); exact HO_13.out) hb); have n1_ := Aside0.mk (Kd.R_below (by (with_reducible repeat (first | apply Kd.R_alloc | apply Kd.R_drewN | apply Kd.R_drew)); exact HO119.out) hb); have n2_ := Aside0.mk (Kd.R_below (by (with_reducible repeat (first | apply Kd.R_alloc | apply Kd.R_drewN | apply Kd.R_drew)); exact HO122.out) hb); have n3_ := Aside0.mk (below_step (by repeat (first | (with_reducible first | exact HB.out | apply below_alloc | apply pw_below_drewN | apply below_drew1) | exact HB.out)) hb); clear HO_13; clear HO119; clear HO122; clear HB; have HO_13 := n0_; have HO119 := n1_; have HO122 := n2_; have HB := n3_; clear n0_ n1_ n2_ n3_; (try clear hb); (try clear hb2); (try clear hk); (try clear hi); obtain ⟨Ao110, co110, eo110⟩ := Kd.R_slice HO122.out; (first | subst eo110 | (injection eo110 with e1_ e2_ e3_; subst e1_; have e4_ := e3_.symm; clear e3_; subst e4_))) | ((with_reducible refine gate_callee (f := 11) rfl ?_); refine goesL_ (some 119) rfl rfl Tryd.func11 (by kernel_rfl) rfl #[.slice Ao110 y120.length co110] rfl (by (try simp only [List.map_toArray, List.map_cons, List.map_nil]); first | done | rfl | (simp only [List.length_drop, List.length_take]; rfl)) ?_; (with_reducible refine (Go.Proofs.YtjefbpfpobgmaaaDoor.PFx.laws_refFilter.calls kj17 _ _ y120 t170 true _ ?side1 ?side2 A101.out).mono ?_); (case side1 => repeat (first | exact (Kd.R_reads' HO122.out).2.2 | (with_reducible refine Kd.C_alloc ?_ _) | (with_reducible refine Kd.C_drewN ?_ _) | (with_reducible refine Kd.C_drew ?_))); (case side2 => exact (Kd.R_reads' HO122.out).2.1); rintro e w111 ⟨rfl, hb⟩; refine ⟨_, rfl, ?_⟩; have n0_ := Aside0.mk (Kd.R_below (by (with_reducible repeat (first | apply Kd.R_alloc | apply Kd.R_drewN | apply Kd.R_drew)); exact HO_13.out) hb); have n1_ := Aside0.mk (Kd.R_below (by (with_reducible repeat (first | apply Kd.R_alloc | apply Kd.R_drewN | apply Kd.R_drew)); exact HO119.out) hb); have n2_ := Aside0.mk (Kd.R_below (by (with_reducible repeat (first | apply Kd.R_alloc | apply Kd.R_drewN | apply Kd.R_drew)); exact HO122.out) hb); have n3_ := Aside0.mk (below_step (by repeat (first | (with_reducible first | exact HB.out | apply below_alloc | apply pw_below_drewN | apply below_drew1) | exact HB.out)) hb); clear HO_13; clear HO119; clear HO122; clear HB; have HO_13 := n0_; have HO119 := n1_; have HO122 := n2_; have HB := n3_; clear n0_ n1_ n2_ n3_; (try clear hb); (try clear hb2); (try clear hk); (try clear hi)))
                          go_ret
                          exact ⟨by first | rfl | (simp [errW_none, errW_some] <;> rfl) | (simp only [← hji12]; first | rfl | (simp [errW_none, errW_some] <;> rfl)) | (generalize ByteArray.toList _ = l_; cases l_ <;> first | rfl | (simp; done)) | (simp [*, errW_none, errW_some] <;> rfl), by repeat (first | (with_reducible first | exact HB.out | apply below_alloc | apply pw_below_drewN | apply below_drew1) | exact HB.out)⟩
                        · replace c103 := Bool.eq_false_iff.mpr c103
                          subst c103
                          have H1 : (none) = some r := by rw [if_neg (show ¬ (false = true) by decide)] at H; exact H
                          clear H
                          have H := H1
                          clear H1
                          exact absurd H (by simp)
                      · replace c102 := Bool.eq_false_iff.mpr c102
                        subst c102
                        have H1 : (none) = some r := by rw [if_neg (show ¬ (false = true) by decide)] at H; exact H
                        clear H
                        have H := H1
                        clear H1
                        exact absurd H (by simp)
                  · rw [if_neg c38] at H
                    exact absurd H (by simp)
          · rw [if_neg c14] at H
            exact absurd H (by simp)
        · rw [if_neg c13] at H
          exact absurd H (by simp)

end Go.Proofs.YtjefbpfpobgmaaaDoor.PFyb
