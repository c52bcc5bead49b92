/- Contracts of functions that the text "Fw" uses: the call ends in what the plain Lean function says, where that says something. Written by a program of this session. No conditions. -/
import Derived.Test.YtjefbpfpobgmaaaDoorPFwx0
namespace Go.Proofs.YtjefbpfpobgmaaaDoor.PFw
open Go.RowKit Go.Proofs.YtjefbpfpobgmaaaDoorW.PrintWords Go.Proofs.YtjefbpfpobgmaaaDoorW.PrintLast Go.Proofs.YtjefbpfpobgmaaaDoorW.PrintMore
attribute [local go_sem] max2_int min2_int max_two min_two max_three min_three max_four min_four   -- for this text's walks alone
set_option linter.unusedVariables false
set_option linter.unusedSimpArgs false

/-! ### excelize_File_parseFilterExpression: function 28 -/
mutual
def excelize_File_parseFilterExpression.j0 : Nat → Value → ByteArray → List ByteArray → List Int → List ByteArray → Int → Bool → Option (List Int × List ByteArray × Option Int)
  | 0, _, _, _, _, _, _, _ => none
  | k + 1, x0, x1, x2, x9, x10, x11, x32 => if x32 = true then (excelize_File_parseFilterExpression.j1 k x0 x1 x2 x9 x10 1) else (excelize_File_parseFilterExpression.j1 k x0 x1 x2 x9 x10 x11)
def excelize_File_parseFilterExpression.j1 : Nat → Value → ByteArray → List ByteArray → List Int → List ByteArray → Int → Option (List Int × List ByteArray × Option Int)
  | 0, _, _, _, _, _, _ => none
  | k + 1, x0, x1, x2, x9, x10, x11 => if 3 ≤ (x2.length : Int) then ((Go.Proofs.YtjefbpfpobgmaaaDoor.FwTok.excelize_File_parseFilterTokens.f k x0 x1 (x2.take 3)).bind fun bt105 => (if bt105.2.2.isNone = true then (if 4 ≤ 7 then (if 7 ≤ (x2.length : Int) then ((Go.Proofs.YtjefbpfpobgmaaaDoor.FwTok.excelize_File_parseFilterTokens.f k x0 x1 ((x2.take 7).drop 4)).bind fun bt112 => (if bt112.2.2.isNone = true then (if 0 < (bt105.1.length : Int) then (if 0 < (bt112.1.length : Int) then (some ((([rd bt105.1 0, x11, rd bt112.1 0] : List Int)), (([bt105.2.1, bt112.2.1] : List ByteArray)), none)) else (none)) else (none)) else (some (x9, x10, some (bt112.2.2.getD 0))))) else (none)) else (none)) else (some (x9, x10, some (bt105.2.2.getD 0))))) else (none)
end
def excelize_File_parseFilterExpression.f (k : Nat) (a0 : Value) (a1 : ByteArray) (l2 : List ByteArray) : Option (List Int × List ByteArray × Option Int) := if (l2.length : Int) = 7 then (if 3 < (l2.length : Int) then ((Go.Proofs.YtjefbpfpobgmaaaDoor.PFv.excelize_zzContains.f k (rdOf ByteArray.empty l2 3) (⟨#[111, 114]⟩ : ByteArray)).bind fun t102 => (if t102 = true then (excelize_File_parseFilterExpression.j0 k a0 a1 l2 ([] : List Int) ([] : List ByteArray) 0 true) else ((Go.Proofs.YtjefbpfpobgmaaaDoor.PFv.excelize_zzContains.f k (rdOf ByteArray.empty l2 3) (⟨#[124, 124]⟩ : ByteArray)).bind fun t103 => (excelize_File_parseFilterExpression.j0 k a0 a1 l2 ([] : List Int) ([] : List ByteArray) 0 t103)))) else (none)) else ((Go.Proofs.YtjefbpfpobgmaaaDoor.FwTok.excelize_File_parseFilterTokens.f k a0 a1 l2).bind fun bt126 => (if bt126.2.2.isNone = true then (some (bt126.1, (([bt126.2.1] : List ByteArray)), none)) else (some (([] : List Int), ([] : List ByteArray), some (bt126.2.2.getD 0)))))
theorem excelize_File_parseFilterExpression.mono_l : ∀ k, (∀ y0 y1 y2 y3 y4 y5 y6, LeO (excelize_File_parseFilterExpression.j0 k y0 y1 y2 y3 y4 y5 y6) (excelize_File_parseFilterExpression.j0 (k + 1) y0 y1 y2 y3 y4 y5 y6)) ∧ (∀ y0 y1 y2 y3 y4 y5, LeO (excelize_File_parseFilterExpression.j1 k y0 y1 y2 y3 y4 y5) (excelize_File_parseFilterExpression.j1 (k + 1) y0 y1 y2 y3 y4 y5))
  | 0 => ⟨fun _ _ _ _ _ _ _ r h => by simp [excelize_File_parseFilterExpression.j0] at h, fun _ _ _ _ _ _ r h => by simp [excelize_File_parseFilterExpression.j1] at h⟩
  | k + 1 => by
    obtain ⟨ih0, ih1⟩ := excelize_File_parseFilterExpression.mono_l k
    refine ⟨?_, ?_⟩
    · intro y0 y1 y2 y3 y4 y5 y6
      unfold excelize_File_parseFilterExpression.j0
      repeat' first
      | (with_reducible exact ih0 _ _ _ _ _ _ _)
      | (with_reducible exact ih1 _ _ _ _ _ _)
      | (with_reducible exact Go.Proofs.YtjefbpfpobgmaaaDoor.FwTok.excelize_File_parseFilterTokens.mono _ _ _ _)
      | (with_reducible exact Go.Proofs.YtjefbpfpobgmaaaDoor.PFv.excelize_zzContains.mono _ _ _)
      | (with_reducible exact LeO.refl _)
      | (with_reducible exact LeO.none _)
      | (with_reducible refine LeO.ite ?_ ?_)
      | (with_reducible refine LeO.bind ?_ (fun _ => ?_))
      | exact ih0 _ _ _ _ _ _ _
      | exact ih1 _ _ _ _ _ _
      | exact Go.Proofs.YtjefbpfpobgmaaaDoor.FwTok.excelize_File_parseFilterTokens.mono _ _ _ _
      | exact Go.Proofs.YtjefbpfpobgmaaaDoor.PFv.excelize_zzContains.mono _ _ _
      | exact LeO.none _
      | refine LeO.ite ?_ ?_
      | refine LeO.bind ?_ (fun _ => ?_)
    · intro y0 y1 y2 y3 y4 y5
      unfold excelize_File_parseFilterExpression.j1
      repeat' first
      | (with_reducible exact ih0 _ _ _ _ _ _ _)
      | (with_reducible exact ih1 _ _ _ _ _ _)
      | (with_reducible exact Go.Proofs.YtjefbpfpobgmaaaDoor.FwTok.excelize_File_parseFilterTokens.mono _ _ _ _)
      | (with_reducible exact Go.Proofs.YtjefbpfpobgmaaaDoor.PFv.excelize_zzContains.mono _ _ _)
      | (with_reducible exact LeO.refl _)
      | (with_reducible exact LeO.none _)
      | (with_reducible refine LeO.ite ?_ ?_)
      | (with_reducible refine LeO.bind ?_ (fun _ => ?_))
      | exact ih0 _ _ _ _ _ _ _
      | exact ih1 _ _ _ _ _ _
      | exact Go.Proofs.YtjefbpfpobgmaaaDoor.FwTok.excelize_File_parseFilterTokens.mono _ _ _ _
      | exact Go.Proofs.YtjefbpfpobgmaaaDoor.PFv.excelize_zzContains.mono _ _ _
      | exact LeO.none _
      | refine LeO.ite ?_ ?_
      | refine LeO.bind ?_ (fun _ => ?_)
theorem excelize_File_parseFilterExpression.mono : ∀ a0 a1 a2 k, LeO (excelize_File_parseFilterExpression.f k a0 a1 a2) (excelize_File_parseFilterExpression.f (k + 1) a0 a1 a2) := by
  intro a0 a1 a2 k
  obtain ⟨ih0, ih1⟩ := excelize_File_parseFilterExpression.mono_l k
  unfold excelize_File_parseFilterExpression.f
  repeat' first
      | (with_reducible exact ih0 _ _ _ _ _ _ _)
      | (with_reducible exact ih1 _ _ _ _ _ _)
      | (with_reducible exact Go.Proofs.YtjefbpfpobgmaaaDoor.FwTok.excelize_File_parseFilterTokens.mono _ _ _ _)
      | (with_reducible exact Go.Proofs.YtjefbpfpobgmaaaDoor.PFv.excelize_zzContains.mono _ _ _)
      | (with_reducible exact LeO.refl _)
      | (with_reducible exact LeO.none _)
      | (with_reducible refine LeO.ite ?_ ?_)
      | (with_reducible refine LeO.bind ?_ (fun _ => ?_))
      | exact ih0 _ _ _ _ _ _ _
      | exact ih1 _ _ _ _ _ _
      | exact Go.Proofs.YtjefbpfpobgmaaaDoor.FwTok.excelize_File_parseFilterTokens.mono _ _ _ _
      | exact Go.Proofs.YtjefbpfpobgmaaaDoor.PFv.excelize_zzContains.mono _ _ _
      | exact LeO.none _
      | refine LeO.ite ?_ ?_
      | refine LeO.bind ?_ (fun _ => ?_)
def excelize_File_parseFilterExpression.T13 : Bool × List (List Nat × List Nat) := (true, [([], []), ([0], [0]), ([1], [1]), ([], []), ([], []), ([4], [4]), ([5], [5]), ([2, 3, 6], [2, 3, 6]), ([], []), ([], []), ([8, 9], [8, 9]), ([7, 0, 1, 2, 3, 4, 5, 6, 7], [7]), ([10, 11, 0, 1, 2, 3, 4, 5, 6, 7, 8, 9, 10, 11], [10]), ([12, 0, 1, 2, 3, 4, 5, 6, 7, 8, 9, 10, 11, 12], [])])
def excelize_File_parseFilterExpression.B13 : List Nat := [0, 1, 3, 0, 0, 16, 48, 127, 0, 0, 768, 255, 4095, 8191]
theorem excelize_File_parseFilterExpression.tab13 : rtab .any (opsOf Tryd.f28 13) = excelize_File_parseFilterExpression.T13 := by kernel_rfl
theorem excelize_File_parseFilterExpression.bits13 : waitsOk excelize_File_parseFilterExpression.T13.2 excelize_File_parseFilterExpression.B13 = true := by kernel_rfl
set_option maxHeartbeats 8000000 in
set_option maxRecDepth 100000 in
theorem excelize_File_parseFilterExpression.calls (k : Nat) (a0 : Value) (a1 : ByteArray) (A2 : Option Addr) (c2 : Nat) (l2 : List ByteArray) (r1 : List Int) (r2 : List ByteArray) (r3 : Option Int) (w : World) (hr2 : Kd.C Kd.string w A2 l2.length l2) (hc2 : l2.length ≤ c2) (h : excelize_File_parseFilterExpression.f k a0 a1 l2 = some (r1, r2, r3)) :
    Calls Tryd.prog 28 #[a0, .string a1, .slice A2 l2.length c2] w fun e w' => ∃ v0_ v1_ : Value, e = .returned (.tuple #[v0_, v1_, errW r3]) ∧ Kd.R (Kd.int .i64) 3 w' w.heap.size (fun _ => True) v0_ r1 ∧ Kd.R Kd.string 9 w' w.heap.size (fun _ => True) v1_ r2 ∧ Below w.heap.size w w' := by
  have hu41 := Tryd.underlying41
  have HR2 := Aside0.mk hr2
  have HC2 := Aside0.mk hc2
  clear hr2 hc2
  have HB := Aside0.mk (Below.refl w.heap.size w)
  have H : (if (l2.length : Int) = 7 then (if 3 < (l2.length : Int) then ((Go.Proofs.YtjefbpfpobgmaaaDoor.PFv.excelize_zzContains.f k (rdOf ByteArray.empty l2 3) (⟨#[111, 114]⟩ : ByteArray)).bind fun t102 => (if t102 = true then (excelize_File_parseFilterExpression.j0 k a0 a1 l2 ([] : List Int) ([] : List ByteArray) 0 true) else ((Go.Proofs.YtjefbpfpobgmaaaDoor.PFv.excelize_zzContains.f k (rdOf ByteArray.empty l2 3) (⟨#[124, 124]⟩ : ByteArray)).bind fun t103 => (excelize_File_parseFilterExpression.j0 k a0 a1 l2 ([] : List Int) ([] : List ByteArray) 0 t103)))) else (none)) else ((Go.Proofs.YtjefbpfpobgmaaaDoor.FwTok.excelize_File_parseFilterTokens.f k a0 a1 l2).bind fun bt126 => (if bt126.2.2.isNone = true then (some (bt126.1, (([bt126.2.1] : List ByteArray)), none)) else (some (([] : List Int), ([] : List ByteArray), some (bt126.2.2.getD 0)))))) = some (r1, r2, r3) := h
  clear h
  by_cases c4 : (l2.length : Int) = 7
  · rw [if_pos c4] at H
    have c4b0 : ((l2.length : Int) == 7) = true := beq_iff_eq.mpr c4
    have c4b1 : ((l2.length : Int) != 7) = false := bne_eq_false_iff_eq.mpr c4
    clear c4
    by_cases c5 : 3 < (l2.length : Int)
    · rw [if_pos c5] at H
      have c5b0 : decide (3 < (l2.length : Int)) = true := decide_eq_true c5
      have c5b1 : decide (3 < l2.length) = true := decide_eq_true (by omega)
      clear c5
      have HC6 := Aside0.mk H
      clear H
      go_enter Tryd.func28, Tryd.ntmps28
      try go_wp2
      have n0_ := Aside0.mk (below_drew1 HB.out)
      clear HB
      have HB := n0_
      clear n0_
      have p101 : 0 ≤ (3 : Int) := (by omega)
      have q101 : 3 < (l2.length : Int) := of_decide_eq_true (by first | (with_reducible assumption) | assumption)
      obtain ⟨ad101, e101, hx101_0⟩ := Kd.at_string HR2.out 3 p101 q101
      have hw101_0 := hx101_0
      (try rw [show ((3 : Int)).toNat = 3 from rfl] at hw101_0)
      (try rw [show 3 * 1 = 3 from rfl] at hw101_0)
      (try simp only [Nat.reduceMul, Nat.reduceEqDiff, Go.Addr.add, ↓reduceIte] at hw101_0)
      cases e101
      (try simp only [show (3 : Int).toNat = 3 from rfl, Nat.reduceMul, Nat.reduceEqDiff, Go.Addr.add, ↓reduceIte] at hx101_0)
      have qi101 : (3 < l2.length) = True := eq_true (by omega)
      (try rw [show ((3 : Int)).toNat = 3 from rfl] at hx101_0)
      replace hx101_0 := (HB.out.cell (World.block_lt_of_cell? w _ hx101_0)).trans hx101_0
      replace p101 := eq_true p101
      replace q101 := eq_true q101
      refine start_ (n := 5) (S := fun w' => w'.cell? ⟨ad101.block, ad101.off + 3, none⟩ = some (.string (rdOf ByteArray.empty l2 3))) (ds := []) #[false, false, false, false, false] (by kernel_rfl) rfl rfl (((HB.out.cell (World.block_lt_of_cell? w _ hw101_0)).trans hw101_0)) (fun hHeld => ?_)
      generalize w.drew = w7 at HB hx101_0 hHeld ⊢
      refine pure_ (i := 0) (N := some 24) (v := ?_) (a' := ?_) #[true, false, false, false, false] rfl rfl (by kernel_rfl) (fun _ _ _ h => h) (Or.inl ⟨by rfl, ?_⟩) ?_ ?_
      rotate_left
      · intro w'
        go_simp
        with_reducible rfl
      rotate_left
      · simp only [Act.put, List.setIfInBounds_toArray, List.set_cons_zero, List.set_cons_succ, i64_w, i32_w]
        rfl
      refine pure_ (i := 1) (N := some 25) (v := ?_) (a' := ?_) #[true, true, false, false, false] rfl rfl (by kernel_rfl) (fun _ _ _ h => h) (Or.inl ⟨by rfl, ?_⟩) ?_ ?_
      rotate_left
      · intro w'
        go_simp
        with_reducible rfl
      rotate_left
      · simp only [Act.put, List.setIfInBounds_toArray, List.set_cons_zero, List.set_cons_succ, i64_w, i32_w]
        rfl
      refine pure_ (i := 3) (N := some 11) (v := ?_) (a' := ?_) #[true, true, false, true, false] rfl rfl (by kernel_rfl) (fun _ _ _ h => h) (Or.inl ⟨by rfl, ?_⟩) ?_ ?_
      rotate_left
      · intro w'
        go_simp
        with_reducible rfl
      rotate_left
      · simp only [Act.put, List.setIfInBounds_toArray, List.set_cons_zero, List.set_cons_succ, i64_w, i32_w]
        rfl
      refine take_ (i := 2) (N := some 26) (v := ?_) (a' := ?_) #[true, true, true, true, false] rfl rfl (by kernel_rfl) (fun _ _ _ h => h) (Or.inl ⟨by rfl, ?_⟩) hHeld ?_ ?_
      rotate_left
      · intro w' s0
        go_simp
        with_reducible rfl
      rotate_left
      · simp only [Act.put, List.setIfInBounds_toArray, List.set_cons_zero, List.set_cons_succ, i64_w, i32_w]
        rfl
      refine pure_ (i := 4) (N := some 12) (v := ?_) (a' := ?_) #[true, true, true, true, true] rfl rfl (by kernel_rfl) (fun _ _ _ h => h) (Or.inl ⟨by rfl, ?_⟩) ?_ ?_
      rotate_left
      · intro w'
        go_simp
        with_reducible rfl
      rotate_left
      · simp only [Act.put, List.setIfInBounds_toArray, List.set_cons_zero, List.set_cons_succ, i64_w, i32_w]
        rfl
      refine done_ (by kernel_rfl) ?_
      go_upto_region 5 with (fail)
      go_cut [32] (fun v32 wc => ∃ (kq : Nat) (x32_5 : Bool), v32 = .bool x32_5 ∧ Aside0 (excelize_File_parseFilterExpression.j0 kq a0 a1 l2 ([] : List Int) ([] : List ByteArray) 0 x32_5 = some (r1, r2, r3)) ∧ Aside0 (kq ≤ k) ∧ Aside0 (Kd.R (Kd.int .i64) 3 wc w.heap.size (fun _ => True) (.slice none 0 0) ([] : List Int)) ∧ Aside0 (Kd.R Kd.string 9 wc w.heap.size (fun _ => True) (.slice none 0 0) ([] : List ByteArray)) ∧ Aside0 (Below w.heap.size w wc))
      case first =>
        have H := HC6.out
        clear HC6
        replace H := Option.bind_eq_some_iff.mp H
        obtain ⟨t102, A80, H⟩ := H
        replace H : (if t102 = true then (excelize_File_parseFilterExpression.j0 k a0 a1 l2 ([] : List Int) ([] : List ByteArray) 0 true) else ((Go.Proofs.YtjefbpfpobgmaaaDoor.PFv.excelize_zzContains.f k (rdOf ByteArray.empty l2 3) (⟨#[124, 124]⟩ : ByteArray)).bind fun t103 => (excelize_File_parseFilterExpression.j0 k a0 a1 l2 ([] : List Int) ([] : List ByteArray) 0 t103))) = some (r1, r2, r3) := H
        have A8 := Aside0.mk A80
        clear A80
        by_cases c9 : t102 = true
        · subst c9
          have H1 : (excelize_File_parseFilterExpression.j0 k a0 a1 l2 ([] : List Int) ([] : List ByteArray) 0 true) = some (r1, r2, r3) := by rw [if_pos rfl] at H; exact H
          clear H
          have H := H1
          clear H1
          have H' := Aside0.mk H
          clear H
          go_wp2_with (first | ((with_reducible refine gate_callee (f := 32) rfl ?_); refine goesL_ (some 28) rfl rfl Tryd.func32 (by kernel_rfl) rfl #[.string (rdOf ByteArray.empty l2 3), .string (⟨#[111, 114]⟩ : ByteArray)] rfl (by (try simp only [List.map_toArray, List.map_cons, List.map_nil]); first | done | rfl | (simp only [List.length_drop, List.length_take]; rfl)) ?_; (with_reducible refine (Go.Proofs.YtjefbpfpobgmaaaDoor.PFv.excelize_zzContains.calls k (rdOf ByteArray.empty l2 3) (⟨#[111, 114]⟩ : ByteArray) true _ A8.out).mono ?_); rintro e w' ⟨rfl, ⟨nd, rfl⟩⟩; refine ⟨_, rfl, ?_⟩))
          go_meet
          case rel => exact ⟨_, (true), (by first | rfl | (simp; done) | (simp [*]; done)), H', ⟨by first | omega | exact Nat.le_refl _⟩, ⟨by first | exact Kd.R_nil _ _ _ _ _ | exact Kd.N_nil _ _ _ _ _ | exact Kd.V_nil _ _ _ _ _ | exact Kd.Q_nil _ _ _ _ _ | exact Kd.S_nil _ _ _ _ _⟩, ⟨by first | exact Kd.R_nil _ _ _ _ _ | exact Kd.N_nil _ _ _ _ _ | exact Kd.V_nil _ _ _ _ _ | exact Kd.Q_nil _ _ _ _ _ | exact Kd.S_nil _ _ _ _ _⟩, ⟨by repeat (first | (with_reducible first | exact HB.out | apply below_alloc | apply pw_below_drewN | apply below_drew1) | exact HB.out)⟩⟩
        · replace c9 := Bool.eq_false_iff.mpr c9
          subst c9
          have H1 : ((Go.Proofs.YtjefbpfpobgmaaaDoor.PFv.excelize_zzContains.f k (rdOf ByteArray.empty l2 3) (⟨#[124, 124]⟩ : ByteArray)).bind fun t103 => (excelize_File_parseFilterExpression.j0 k a0 a1 l2 ([] : List Int) ([] : List ByteArray) 0 t103)) = some (r1, r2, r3) := by rw [if_neg (show ¬ (false = true) by decide)] at H; exact H
          clear H
          have H := H1
          clear H1
          replace H := Option.bind_eq_some_iff.mp H
          obtain ⟨t103, A100, H⟩ := H
          replace H : (excelize_File_parseFilterExpression.j0 k a0 a1 l2 ([] : List Int) ([] : List ByteArray) 0 t103) = some (r1, r2, r3) := H
          have A10 := Aside0.mk A100
          clear A100
          have H' := Aside0.mk H
          clear H
          go_wp2_with (first | ((with_reducible refine gate_callee (f := 32) rfl ?_); refine goesL_ (some 28) rfl rfl Tryd.func32 (by kernel_rfl) rfl #[.string (rdOf ByteArray.empty l2 3), .string (⟨#[111, 114]⟩ : ByteArray)] rfl (by (try simp only [List.map_toArray, List.map_cons, List.map_nil]); first | done | rfl | (simp only [List.length_drop, List.length_take]; rfl)) ?_; (with_reducible refine (Go.Proofs.YtjefbpfpobgmaaaDoor.PFv.excelize_zzContains.calls k (rdOf ByteArray.empty l2 3) (⟨#[111, 114]⟩ : ByteArray) false _ A8.out).mono ?_); rintro e w' ⟨rfl, ⟨nd, rfl⟩⟩; refine ⟨_, rfl, ?_⟩) | (go_at_call 32; (with_reducible refine (Go.Proofs.YtjefbpfpobgmaaaDoor.PFv.excelize_zzContains.calls k (rdOf ByteArray.empty l2 3) (⟨#[124, 124]⟩ : ByteArray) t103 _ A10.out).mono ?_); rintro e w' ⟨rfl, ⟨nd, rfl⟩⟩))
          go_meet
          case rel => exact ⟨_, (t103), (by first | rfl | (simp; done) | (simp [*]; done)), H', ⟨by first | omega | exact Nat.le_refl _⟩, ⟨by first | exact Kd.R_nil _ _ _ _ _ | exact Kd.N_nil _ _ _ _ _ | exact Kd.V_nil _ _ _ _ _ | exact Kd.Q_nil _ _ _ _ _ | exact Kd.S_nil _ _ _ _ _⟩, ⟨by first | exact Kd.R_nil _ _ _ _ _ | exact Kd.N_nil _ _ _ _ _ | exact Kd.V_nil _ _ _ _ _ | exact Kd.Q_nil _ _ _ _ _ | exact Kd.S_nil _ _ _ _ _⟩, ⟨by repeat (first | (with_reducible first | exact HB.out | apply below_alloc | apply pw_below_drewN | apply below_drew1) | exact HB.out)⟩⟩
      case rest =>
        clear HC6
        try clear p1
        try clear q1
        try clear hx1
        try clear qi1
        try clear c2
        try clear p2
        try clear c3
        try clear c4
        try clear c4b0
        try clear c4b1
        try clear c5
        try clear c5b0
        try clear c5b1
        try clear c9
        try clear p10
        try clear q10
        try clear hx10
        try clear qi10
        try clear hx101_0
        try clear p101
        try clear q101
        obtain ⟨kq, x32_5, rfl, HA, HJ5, HO_9, HO_10, HB⟩ := hcut
        cases kq with
        | zero => exact absurd HA.out (by simp [excelize_File_parseFilterExpression.j0])
        | succ kj5 =>
          have H := HA.out
          clear HA
          simp only [excelize_File_parseFilterExpression.j0] at H
          have HC11 := Aside0.mk H
          clear H
          go_upto_if 32 with (fail)
          go_cut [11] (fun v11 wc => ∃ (kq : Nat) (x11_10 : Int), v11 = .int .i64 x11_10 ∧ Aside0 (excelize_File_parseFilterExpression.j1 kq a0 a1 l2 ([] : List Int) ([] : List ByteArray) x11_10 = some (r1, r2, r3)) ∧ Aside0 (kq ≤ kj5) ∧ Aside0 (Kd.R (Kd.int .i64) 3 wc w.heap.size (fun _ => True) (.slice none 0 0) ([] : List Int)) ∧ Aside0 (Kd.R Kd.string 9 wc w.heap.size (fun _ => True) (.slice none 0 0) ([] : List ByteArray)) ∧ Aside0 (Below w.heap.size w wc))
          case first =>
            have H := HC11.out
            clear HC11
            by_cases c12 : x32_5 = true
            · subst c12
              have H1 : (excelize_File_parseFilterExpression.j1 kj5 a0 a1 l2 ([] : List Int) ([] : List ByteArray) 1) = some (r1, r2, r3) := by rw [if_pos rfl] at H; exact H
              clear H
              have H := H1
              clear H1
              have H' := Aside0.mk H
              clear H
              go_wp2
              go_meet
              case rel => exact ⟨_, (1), (by first | rfl | (simp; done) | (simp [*]; done)), H', ⟨by have := HJ5.out; first | omega | exact Nat.le_refl _⟩, ⟨by (with_reducible repeat (first | apply Kd.R_alloc | apply Kd.R_drewN | apply Kd.R_drew)); exact HO_9.out⟩, ⟨by (with_reducible repeat (first | apply Kd.R_alloc | apply Kd.R_drewN | apply Kd.R_drew)); exact HO_10.out⟩, ⟨by repeat (first | (with_reducible first | exact HB.out | apply below_alloc | apply pw_below_drewN | apply below_drew1) | exact HB.out)⟩⟩
            · replace c12 := Bool.eq_false_iff.mpr c12
              subst c12
              have H1 : (excelize_File_parseFilterExpression.j1 kj5 a0 a1 l2 ([] : List Int) ([] : List ByteArray) 0) = some (r1, r2, r3) := by rw [if_neg (show ¬ (false = true) by decide)] at H; exact H
              clear H
              have H := H1
              clear H1
              have H' := Aside0.mk H
              clear H
              go_wp2
              go_meet
              case rel => exact ⟨_, (0), (by first | rfl | (simp; done) | (simp [*]; done)), H', ⟨by have := HJ5.out; first | omega | exact Nat.le_refl _⟩, ⟨by (with_reducible repeat (first | apply Kd.R_alloc | apply Kd.R_drewN | apply Kd.R_drew)); exact HO_9.out⟩, ⟨by (with_reducible repeat (first | apply Kd.R_alloc | apply Kd.R_drewN | apply Kd.R_drew)); exact HO_10.out⟩, ⟨by repeat (first | (with_reducible first | exact HB.out | apply below_alloc | apply pw_below_drewN | apply below_drew1) | exact HB.out)⟩⟩
          case rest =>
            clear HC11
            try clear c1
            try clear p1
            try clear q1
            try clear hx1
            try clear qi1
            try clear c2
            try clear p2
            try clear c3
            try clear c4
            try clear c4b0
            try clear c4b1
            try clear c5
            try clear c5b0
            try clear c5b1
            try clear c9
            try clear p10
            try clear q10
            try clear hx10
            try clear qi10
            try clear c12
            try clear hx101_0
            try clear p1
            try clear p10
            try clear p101
            try clear p2
            try clear q1
            try clear q10
            try clear q101
            obtain ⟨kq, x11_10, rfl, HA, HJ10, HO_9, HO_10, HB⟩ := hcut
            cases kq with
            | zero => exact absurd HA.out (by simp [excelize_File_parseFilterExpression.j1])
            | succ kj10 =>
              have H := HA.out
              clear HA
              simp only [excelize_File_parseFilterExpression.j1] at H
              by_cases c13 : 3 ≤ (l2.length : Int)
              · rw [if_pos c13] at H
                have c13b0 := eq_true c13
                have c13b1 : decide (3 ≤ (l2.length : Int)) = true := decide_eq_true c13
                clear c13
                replace H := Option.bind_eq_some_iff.mp H
                obtain ⟨⟨t105, t106, t107⟩, A140, H⟩ := H
                replace H : (if t107.isNone = true then (if 4 ≤ 7 then (if 7 ≤ (l2.length : Int) then ((Go.Proofs.YtjefbpfpobgmaaaDoor.FwTok.excelize_File_parseFilterTokens.f kj10 a0 a1 ((l2.take 7).drop 4)).bind fun bt112 => (if bt112.2.2.isNone = true then (if 0 < (t105.length : Int) then (if 0 < (bt112.1.length : Int) then (some ((([rd t105 0, x11_10, rd bt112.1 0] : List Int)), (([t106, bt112.2.1] : List ByteArray)), none)) else (none)) else (none)) else (some (([] : List Int), ([] : List ByteArray), some (bt112.2.2.getD 0))))) else (none)) else (none)) else (some (([] : List Int), ([] : List ByteArray), some (t107.getD 0)))) = some (r1, r2, r3) := H
                have A14 := Aside0.mk A140
                clear A140
                rcases t107 with _ | q110
                · have H1 : (if 4 ≤ 7 then (if 7 ≤ (l2.length : Int) then ((Go.Proofs.YtjefbpfpobgmaaaDoor.FwTok.excelize_File_parseFilterTokens.f kj10 a0 a1 ((l2.take 7).drop 4)).bind fun bt112 => (if bt112.2.2.isNone = true then (if 0 < (t105.length : Int) then (if 0 < (bt112.1.length : Int) then (some ((([rd t105 0, x11_10, rd bt112.1 0] : List Int)), (([t106, bt112.2.1] : List ByteArray)), none)) else (none)) else (none)) else (some (([] : List Int), ([] : List ByteArray), some (bt112.2.2.getD 0))))) else (none)) else (none)) = some (r1, r2, r3) := by rw [if_pos (show (none : Option Int).isNone = true by rfl)] at H; exact H
                  clear H
                  have H := H1
                  clear H1
                  try simp only [errW_none, errW_some]
                  by_cases c15 : 4 ≤ 7
                  · rw [if_pos c15] at H
                    have c15b0 := eq_true c15
                    have c15b1 : decide (4 ≤ 7) = true := decide_eq_true c15
                    clear c15
                    by_cases c16 : 7 ≤ (l2.length : Int)
                    · rw [if_pos c16] at H
                      have c16b0 := eq_true c16
                      have c16b1 : decide (7 ≤ (l2.length : Int)) = true := decide_eq_true c16
                      clear c16
                      replace H := Option.bind_eq_some_iff.mp H
                      obtain ⟨⟨t112, t113, t114⟩, A170, H⟩ := H
                      replace H : (if t114.isNone = true then (if 0 < (t105.length : Int) then (if 0 < (t112.length : Int) then (some ((([rd t105 0, x11_10, rd t112 0] : List Int)), (([t106, t113] : List ByteArray)), none)) else (none)) else (none)) else (some (([] : List Int), ([] : List ByteArray), some (t114.getD 0)))) = some (r1, r2, r3) := H
                      have A17 := Aside0.mk A170
                      clear A170
                      rcases t114 with _ | q117
                      · have H1 : (if 0 < (t105.length : Int) then (if 0 < (t112.length : Int) then (some ((([rd t105 0, x11_10, rd t112 0] : List Int)), (([t106, t113] : List ByteArray)), none)) else (none)) else (none)) = some (r1, r2, r3) := by rw [if_pos (show (none : Option Int).isNone = true by rfl)] at H; exact H
                        clear H
                        have H := H1
                        clear H1
                        try simp only [errW_none, errW_some]
                        by_cases c18 : 0 < (t105.length : Int)
                        · rw [if_pos c18] at H
                          have c18b0 : decide (0 < (t105.length : Int)) = true := decide_eq_true c18
                          have c18b1 : decide (0 < t105.length) = true := decide_eq_true (by omega)
                          clear c18
                          by_cases c19 : 0 < (t112.length : Int)
                          · rw [if_pos c19] at H
                            have c19b0 : decide (0 < (t112.length : Int)) = true := decide_eq_true c19
                            have c19b1 : decide (0 < t112.length) = true := decide_eq_true (by omega)
                            clear c19
                            obtain ⟨y120, hy120⟩ : ∃ y_ : List Int, y_ = (([rd t105 0, x11_10, rd t112 0] : List Int)) := ⟨_, rfl⟩
                            replace H : (some (y120, (([t106, t113] : List ByteArray)), none)) = some (r1, r2, r3) := by first | (rw [hy120]; with_reducible exact H) | (have H2_ := (Option.bind_some _ _).symm.trans H; rw [hy120]; with_reducible exact H2_) | (have H2_ := (Option.bind_some _ _).symm.trans H; with_reducible exact H2_) | with_reducible exact H | (rw [hy120]; exact H) | exact H
                            have Ny120 := Aside0.mk hy120
                            clear hy120
                            obtain ⟨y123, hy123⟩ : ∃ y_ : List ByteArray, y_ = (([t106, t113] : List ByteArray)) := ⟨_, rfl⟩
                            replace H : (some (y120, y123, none)) = some (r1, r2, r3) := by first | (rw [hy123]; with_reducible exact H) | (have H2_ := (Option.bind_some _ _).symm.trans H; rw [hy123]; with_reducible exact H2_) | (have H2_ := (Option.bind_some _ _).symm.trans H; with_reducible exact H2_) | with_reducible exact H | (rw [hy123]; exact H) | exact H
                            have Ny123 := Aside0.mk hy123
                            clear hy123
                            simp only [Option.some.injEq, Prod.mk.injEq] at H
                            obtain ⟨rfl, rfl, rfl⟩ := H
                            obtain ⟨i020, hi020, _, hsz20, _⟩ := info_parts info9
                            obtain ⟨hcut20, hA20, hC20⟩ := print_take_of (P := Tryd.prog) Value.string (⟨#[]⟩ : ByteArray) 26 9 .i64 Tryd.underlying26 hi020 hsz20 (some ad101) c2 l2 3 (by omega) (of_decide_eq_true (by first | (with_reducible assumption) | assumption)) HC2.out
                            have HR104 := Aside0.mk (Kd.C_of_reads (h1 := fun _ => rfl) (hA20 _ (Kd.reads_of_C HR2.out)))
                            have HC104 := Aside0.mk hC20
                            clear hA20 hC20 hi020 hsz20
                            try go_wp2_with (first | ((with_reducible refine gate_callee (f := 33) rfl ?_); refine goesL_ (some 38) rfl rfl Tryd.func33 (by kernel_rfl) rfl #[a0, .string a1, .slice (some ad101) (l2.take 3).length c2] rfl (by (try simp only [List.map_toArray, List.map_cons, List.map_nil]); first | done | (rw [show (l2.take 3).length = 3 from (by rw [List.length_take]; have h_ : (3 : Int) ≤ (l2.length : Int) := of_decide_eq_true (by first | (with_reducible assumption) | assumption); omega)] <;> rfl) | rfl | (simp only [List.length_drop, List.length_take]; rfl)) ?_; (with_reducible refine (Go.Proofs.YtjefbpfpobgmaaaDoor.FwTok.excelize_File_parseFilterTokens.calls kj10 a0 a1 _ _ (l2.take 3) t105 t106 none _ ?side1 ?side2 A14.out).mono ?_); (case side1 => repeat (first | exact (Kd.C_below HR104.out HB.out) | (with_reducible refine Kd.C_alloc ?_ _) | (with_reducible refine Kd.C_drewN ?_ _) | (with_reducible refine Kd.C_drew ?_))); (case side2 => exact HC104.out); rintro e w21 ⟨v108, rfl, ho0, hb⟩; refine ⟨_, rfl, ?_⟩; have n0_ := Aside0.mk (Kd.R_elder' (by (with_reducible repeat (first | apply Kd.R_alloc | apply Kd.R_drewN | apply Kd.R_drew)); exact HO_9.out) (Kd.R_base ho0) hb); have n1_ := Aside0.mk (Kd.R_below (by (with_reducible repeat (first | apply Kd.R_alloc | apply Kd.R_drewN | apply Kd.R_drew)); exact HO_10.out) hb); have n2_ := Aside0.mk (Kd.R_lower (Kd.R_new' ho0 (Kd.R_lt (by (with_reducible repeat (first | apply Kd.R_alloc | apply Kd.R_drewN | apply Kd.R_drew)); exact HO_9.out))) (below_size (by repeat (first | (with_reducible first | exact HB.out | apply below_alloc | apply pw_below_drewN | apply below_drew1) | exact HB.out)))); have n3_ := Aside0.mk (below_step (by repeat (first | (with_reducible first | exact HB.out | apply below_alloc | apply pw_below_drewN | apply below_drew1) | exact HB.out)) hb); clear HO_9; clear HO_10; clear HB; have HO_9 := n0_; have HO_10 := n1_; have HO109 := n2_; have HB := n3_; clear n0_ n1_ n2_ n3_; (try clear hb); (try clear hb2); (try clear hk); (try clear hi); (try clear ho0); (try simp only [errW_none, errW_some, Go.Proofs.YtjefbpfpobgmaaaDoor.FwTok.errV_none, Go.Proofs.YtjefbpfpobgmaaaDoor.FwTok.errV_some]); obtain ⟨i022, hi022, _, hsz22, _⟩ := info_parts info9; obtain ⟨A22, hcut22, hA22, hC22⟩ := print_mid_of (P := Tryd.prog) Value.string (⟨#[]⟩ : ByteArray) 26 9 .i64 .i64 Tryd.underlying26 hi022 hsz22 (some ad101) c2 l2 4 7 (by omega) (by first | omega | exact of_decide_eq_true (by first | (with_reducible assumption) | assumption)) (of_decide_eq_true (by first | (with_reducible assumption) | assumption)) HC2.out; have HR111 := Aside0.mk (Kd.C_of_reads (h1 := fun _ => rfl) (hA22 _ (Kd.reads_of_C HR2.out))); have HC111 := Aside0.mk hC22; clear hA22 hC22 hi022 hsz22) | ((with_reducible refine gate_callee (f := 33) rfl ?_); refine goesL_ (some 52) rfl rfl Tryd.func33 (by kernel_rfl) rfl #[a0, .string a1, .slice A22 ((l2.take 7).drop 4).length (c2 - 4)] rfl (by (try simp only [List.map_toArray, List.map_cons, List.map_nil]); first | done | (rw [show ((l2.take 7).drop 4).length = (7 - 4) from (by rw [List.length_drop, List.length_take]; have h_ : (7 : Int) ≤ (l2.length : Int) := of_decide_eq_true (by first | (with_reducible assumption) | assumption); omega)] <;> rfl) | rfl | (simp only [List.length_drop, List.length_take]; rfl)) ?_; (with_reducible refine (Go.Proofs.YtjefbpfpobgmaaaDoor.FwTok.excelize_File_parseFilterTokens.calls kj10 a0 a1 _ _ ((l2.take 7).drop 4) t112 t113 none _ ?side1 ?side2 A17.out).mono ?_); (case side1 => repeat (first | exact (Kd.C_below HR111.out HB.out) | (with_reducible refine Kd.C_alloc ?_ _) | (with_reducible refine Kd.C_drewN ?_ _) | (with_reducible refine Kd.C_drew ?_))); (case side2 => exact HC111.out); rintro e w23 ⟨v115, rfl, ho0, hb⟩; refine ⟨_, rfl, ?_⟩; have n0_ := Aside0.mk (Kd.R_elder' (by (with_reducible repeat (first | apply Kd.R_alloc | apply Kd.R_drewN | apply Kd.R_drew)); exact HO_9.out) (Kd.R_base ho0) hb); have n1_ := Aside0.mk (Kd.R_below (by (with_reducible repeat (first | apply Kd.R_alloc | apply Kd.R_drewN | apply Kd.R_drew)); exact HO_10.out) hb); have n2_ := Aside0.mk (Kd.R_elder' (by (with_reducible repeat (first | apply Kd.R_alloc | apply Kd.R_drewN | apply Kd.R_drew)); exact HO109.out) (Kd.R_base ho0) hb); have n3_ := Aside0.mk (Kd.R_lower (Kd.R_new' (Kd.R_new' ho0 (Kd.R_lt (by (with_reducible repeat (first | apply Kd.R_alloc | apply Kd.R_drewN | apply Kd.R_drew)); exact HO_9.out))) (Kd.R_lt (by (with_reducible repeat (first | apply Kd.R_alloc | apply Kd.R_drewN | apply Kd.R_drew)); exact HO109.out))) (below_size (by repeat (first | (with_reducible first | exact HB.out | apply below_alloc | apply pw_below_drewN | apply below_drew1) | exact HB.out)))); have n4_ := Aside0.mk (below_step (by repeat (first | (with_reducible first | exact HB.out | apply below_alloc | apply pw_below_drewN | apply below_drew1) | exact HB.out)) hb); clear HO_9; clear HO_10; clear HO109; clear HB; have HO_9 := n0_; have HO_10 := n1_; have HO109 := n2_; have HO116 := n3_; have HB := n4_; clear n0_ n1_ n2_ n3_ n4_; (try clear hb); (try clear hb2); (try clear hk); (try clear hi); (try clear ho0); (try simp only [errW_none, errW_some, Go.Proofs.YtjefbpfpobgmaaaDoor.FwTok.errV_none, Go.Proofs.YtjefbpfpobgmaaaDoor.FwTok.errV_some])))
                            have n0_ := Aside0.mk (Kd.R_drew HO_9.out)
                            have n1_ := Aside0.mk (Kd.R_drew HO_10.out)
                            have n2_ := Aside0.mk (Kd.R_drew HO109.out)
                            have n3_ := Aside0.mk (Kd.R_drew HO116.out)
                            have n4_ := Aside0.mk (below_drew1 HB.out)
                            clear HO_9
                            clear HO_10
                            clear HO109
                            clear HO116
                            clear HB
                            have HO_9 := n0_
                            have HO_10 := n1_
                            have HO109 := n2_
                            have HO116 := n3_
                            have HB := n4_
                            clear n0_ n1_ n2_ n3_ n4_
                            obtain ⟨Ao25, co25, eo25⟩ := Kd.R_slice HO109.out
                            (first | subst eo25 | (injection eo25 with f1_ f2_ f3_; have f4_ := f1_.symm; have f5_ := f3_.symm; clear f1_ f2_ f3_; subst f4_; subst f5_))
                            have p118 : 0 ≤ (0 : Int) := (by omega)
                            have q118 : 0 < (t105.length : Int) := of_decide_eq_true (by first | (with_reducible assumption) | assumption)
                            obtain ⟨ad118, e118, hx118_0⟩ := Kd.at_int (Kd.R_reads' HO109.out).2.2 0 p118 q118
                            cases e118
                            have qi118 : (0 < t105.length) = True := eq_true (by omega)
                            (try rw [show ((0 : Int)).toNat = 0 from rfl] at hx118_0)
                            (try rw [Addr.add_zero'] at hx118_0)
                            replace p118 := eq_true p118
                            replace q118 := eq_true q118
                            obtain ⟨Ao26, co26, eo26⟩ := Kd.R_slice HO116.out
                            (first | subst eo26 | (injection eo26 with f1_ f2_ f3_; have f4_ := f1_.symm; have f5_ := f3_.symm; clear f1_ f2_ f3_; subst f4_; subst f5_))
                            have p119 : 0 ≤ (0 : Int) := (by omega)
                            have q119 : 0 < (t112.length : Int) := of_decide_eq_true (by first | (with_reducible assumption) | assumption)
                            obtain ⟨ad119, e119, hx119_0⟩ := Kd.at_int (Kd.R_reads' HO116.out).2.2 0 p119 q119
                            cases e119
                            have qi119 : (0 < t112.length) = True := eq_true (by omega)
                            (try rw [show ((0 : Int)).toNat = 0 from rfl] at hx119_0)
                            (try rw [Addr.add_zero'] at hx119_0)
                            replace p119 := eq_true p119
                            replace q119 := eq_true q119
                            refine start_ (n := 14) (S := fun w' => w'.cell? ad118 = some (.int .i64 (rd t105 0)) ∧ w'.cell? ad119 = some (.int .i64 (rd t112 0))) (ds := []) #[false, false, false, false, false, false, false, false, false, false, false, false, false, false] (by kernel_rfl) rfl rfl ⟨hx118_0, hx119_0⟩ (fun hHeld => ?_); refine with_tabW excelize_File_parseFilterExpression.tab13 excelize_File_parseFilterExpression.bits13 (fun HT_ HW_ => ?_)
                            generalize w23.drew = w24 at HO_9 HO_10 HO109 HO116 HB hx118_0 hx119_0 hHeld ⊢
                            refine pure_ (i := 0) (N := some 61) (v := ?_) (a' := ?_) #[true, false, false, false, false, false, false, false, false, false, false, false, false, false] rfl rfl (any_of HT_.out (by kernel_rfl)) (fun _ _ _ h => h) (Or.inl ⟨by rfl, ?_⟩) ?_ ?_
                            rotate_left
                            · intro w'
                              go_simp
                              with_reducible rfl
                            rotate_left
                            · simp only [Act.put, List.setIfInBounds_toArray, List.set_cons_zero, List.set_cons_succ, i64_w, i32_w]
                              rfl
                            refine pure_ (i := 1) (N := some 62) (v := ?_) (a' := ?_) #[true, true, false, false, false, false, false, false, false, false, false, false, false, false] rfl rfl (any_of HT_.out (by kernel_rfl)) (fun _ _ _ h => h) (Or.inl ⟨by rfl, ?_⟩) ?_ ?_
                            rotate_left
                            · intro w'
                              go_simp
                              with_reducible rfl
                            rotate_left
                            · simp only [Act.put, List.setIfInBounds_toArray, List.set_cons_zero, List.set_cons_succ, i64_w, i32_w]
                              rfl
                            refine pure_ (i := 3) (N := some 64) (v := ?_) (a' := ?_) #[true, true, false, true, false, false, false, false, false, false, false, false, false, false] rfl rfl (any_of HT_.out (by kernel_rfl)) (fun _ _ _ h => h) (Or.inl ⟨by rfl, ?_⟩) ?_ ?_
                            rotate_left
                            · intro w'
                              go_simp
                              with_reducible rfl
                            rotate_left
                            · simp only [Act.put, List.setIfInBounds_toArray, List.set_cons_zero, List.set_cons_succ, i64_w, i32_w]
                              rfl
                            refine pure_ (i := 4) (N := some 65) (v := ?_) (a' := ?_) #[true, true, false, true, true, false, false, false, false, false, false, false, false, false] rfl rfl (any_of HT_.out (by kernel_rfl)) (fun _ _ _ h => h) (Or.inl ⟨by rfl, ?_⟩) ?_ ?_
                            rotate_left
                            · intro w'
                              go_simp
                              with_reducible rfl
                            rotate_left
                            · simp only [Act.put, List.setIfInBounds_toArray, List.set_cons_zero, List.set_cons_succ, i64_w, i32_w]
                              rfl
                            refine pure_ (i := 5) (N := some 66) (v := ?_) (a' := ?_) #[true, true, false, true, true, true, false, false, false, false, false, false, false, false] rfl rfl (any_of HT_.out (by kernel_rfl)) (fun _ _ _ h => h) (Or.inl ⟨by rfl, ?_⟩) ?_ ?_
                            rotate_left
                            · intro w'
                              go_simp
                              with_reducible rfl
                            rotate_left
                            · simp only [Act.put, List.setIfInBounds_toArray, List.set_cons_zero, List.set_cons_succ, i64_w, i32_w]
                              rfl
                            refine pure_ (i := 8) (N := some 69) (v := ?_) (a' := ?_) #[true, true, false, true, true, true, false, false, true, false, false, false, false, false] rfl rfl (any_of HT_.out (by kernel_rfl)) (fun _ _ _ h => h) (Or.inl ⟨by rfl, ?_⟩) ?_ ?_
                            rotate_left
                            · intro w'
                              go_simp
                              with_reducible rfl
                            rotate_left
                            · simp only [Act.put, List.setIfInBounds_toArray, List.set_cons_zero, List.set_cons_succ, i64_w, i32_w]
                              rfl
                            refine pure_ (i := 9) (N := some 70) (v := ?_) (a' := ?_) #[true, true, false, true, true, true, false, false, true, true, false, false, false, false] rfl rfl (any_of HT_.out (by kernel_rfl)) (fun _ _ _ h => h) (Or.inl ⟨by rfl, ?_⟩) ?_ ?_
                            rotate_left
                            · intro w'
                              go_simp
                              with_reducible rfl
                            rotate_left
                            · simp only [Act.put, List.setIfInBounds_toArray, List.set_cons_zero, List.set_cons_succ, i64_w, i32_w]
                              rfl
                            refine take_ (i := 2) (N := some 63) (v := ?_) (a' := ?_) #[true, true, true, true, true, true, false, false, true, true, false, false, false, false] rfl rfl (take_ofW HT_.out HW_.out (by kernel_rfl)) (fun _ _ _ h => h) (Or.inl ⟨by rfl, ?_⟩) hHeld ?_ ?_
                            rotate_left
                            · rintro w' ⟨s0, s1⟩
                              go_simp
                              with_reducible rfl
                            rotate_left
                            · simp only [Act.put, List.setIfInBounds_toArray, List.set_cons_zero, List.set_cons_succ, i64_w, i32_w]
                              rfl
                            refine take_ (i := 6) (N := some 67) (v := ?_) (a' := ?_) #[true, true, true, true, true, true, true, false, true, true, false, false, false, false] rfl rfl (take_ofW HT_.out HW_.out (by kernel_rfl)) (fun _ _ _ h => h) (Or.inl ⟨by rfl, ?_⟩) hHeld ?_ ?_
                            rotate_left
                            · rintro w' ⟨s0, s1⟩
                              go_simp
                              with_reducible rfl
                            rotate_left
                            · simp only [Act.put, List.setIfInBounds_toArray, List.set_cons_zero, List.set_cons_succ, i64_w, i32_w]
                              rfl
                            refine join_ (σ := Value × Value) 2 #[true, true, true, true, true, true, true, true, true, true, true, true, false, false] (fun s_ => [(68, s_.1), (71, s_.2), (6, s_.1)]) (fun s_ w' => (w'.cell? ad118 = some (.int .i64 (rd t105 0)) ∧ w'.cell? ad119 = some (.int .i64 (rd t112 0))) ∧ (Kd.R (Kd.int .i64) 3 w' w.heap.size (fun k_ => some k_ ≠ (.slice (some ad119) t112.length co26 : Value).ownBlock ∧ some k_ ≠ (s_.1 : Value).ownBlock ∧ some k_ ≠ (.slice none 0 0 : Value).ownBlock) (.slice (some ad118) t105.length co25) t105) ∧ (Kd.R (Kd.int .i64) 3 w' w.heap.size (fun k_ => some k_ ≠ (.slice (some ad118) t105.length co25 : Value).ownBlock ∧ some k_ ≠ (s_.1 : Value).ownBlock ∧ some k_ ≠ (.slice none 0 0 : Value).ownBlock) (.slice (some ad119) t112.length co26) t112) ∧ (Kd.R (Kd.int .i64) 3 w' w.heap.size (fun k_ => some k_ ≠ (.slice (some ad118) t105.length co25 : Value).ownBlock ∧ some k_ ≠ (.slice (some ad119) t112.length co26 : Value).ownBlock ∧ some k_ ≠ (.slice none 0 0 : Value).ownBlock) s_.1 y120) ∧ (Kd.R Kd.string 9 w' w.heap.size (fun k_ => some k_ ≠ (.slice none 0 0 : Value).ownBlock) s_.2 y123) ∧ (Kd.R Kd.string 9 w' w.heap.size (fun k_ => some k_ ≠ (s_.2 : Value).ownBlock) (.slice none 0 0) ([] : List ByteArray)) ∧ (Kd.R (Kd.int .i64) 3 w' w.heap.size (fun k_ => some k_ ≠ (.slice (some ad118) t105.length co25 : Value).ownBlock ∧ some k_ ≠ (.slice (some ad119) t112.length co26 : Value).ownBlock ∧ some k_ ≠ (s_.1 : Value).ownBlock) (.slice none 0 0) ([] : List Int)) ∧ (Below w.heap.size w w')) ?_ ?_
                            rotate_left
                            · intro hCont
                              refine two_ (i := 7) (j := 10) (Ni := some 68) (Nj := some 71) #[true, true, true, true, true, true, true, true, true, true, false, false, false, false] #[true, true, true, true, true, true, true, false, true, true, true, false, false, false] rfl rfl rfl rfl (two_of HT_.out (by kernel_rfl)) (by decide) (by decide) (fun K hK => ?_) (fun K hK => ?_)
                              · skip
                                refine Kd.R_lit_step (Kd.int .i64) _ 3 ?hg (N := 68) ?hd (xs := ([rd t105 0, x11_10, rd t112 0] : List Int)) (inner := [.int .i64 (rd t105 0), .int .i64 x11_10, .int .i64 (rd t112 0)]) (ok := fun _ => True) (okp := fun _ => True) ?hr ?hp (fun _ hk => hk) trivial (Below.refl _ _) (Nat.le_refl _) (by simp) ?_; (case hd => rfl); (case hg => rfl); (case hr => first | (go_simp; done) | (go_simp; rfl)); (case hp => exact (Reps.one (show Kd.M (Kd.int .i64) _ _ _ (rd t105 0) [.int .i64 (rd t105 0)] from rfl) (Reps.one (show Kd.M (Kd.int .i64) _ _ _ x11_10 [.int .i64 x11_10] from rfl) (Reps.one (show Kd.M (Kd.int .i64) _ _ _ (rd t112 0) [.int .i64 (rd t112 0)] from rfl) (Reps.none _ _)))))
                                intro v121 w27 ho28 hb hg_ hnew_
                                have HS0_ := (hb.cell (World.block_lt_of_cell? _ _ (hHeld.1))).trans (hHeld.1)
                                have HS1_ := (hb.cell (World.block_lt_of_cell? _ _ (hHeld.2))).trans (hHeld.2)
                                clear hg_ hnew_
                                (first | rw [← Ny120.out] at ho28 | (simp only [Int.reduceToNat] at ho28; rw [← Ny120.out] at ho28))
                                have n0_ := Aside0.mk (Kd.R_elder' (by (with_reducible repeat (first | apply Kd.R_alloc | apply Kd.R_drewN | apply Kd.R_drew)); exact HO_9.out) (Kd.R_base ho28) hb)
                                have n1_ := Aside0.mk (Kd.R_below (by (with_reducible repeat (first | apply Kd.R_alloc | apply Kd.R_drewN | apply Kd.R_drew)); exact HO_10.out) hb)
                                have n2_ := Aside0.mk (Kd.R_elder' (by (with_reducible repeat (first | apply Kd.R_alloc | apply Kd.R_drewN | apply Kd.R_drew)); exact HO109.out) (Kd.R_base ho28) hb)
                                have n3_ := Aside0.mk (Kd.R_elder' (by (with_reducible repeat (first | apply Kd.R_alloc | apply Kd.R_drewN | apply Kd.R_drew)); exact HO116.out) (Kd.R_base ho28) hb)
                                have n4_ := Aside0.mk (Kd.R_lower (Kd.R_new' (Kd.R_new' (Kd.R_new' ho28 (Kd.R_lt (by (with_reducible repeat (first | apply Kd.R_alloc | apply Kd.R_drewN | apply Kd.R_drew)); exact HO_9.out))) (Kd.R_lt (by (with_reducible repeat (first | apply Kd.R_alloc | apply Kd.R_drewN | apply Kd.R_drew)); exact HO109.out))) (Kd.R_lt (by (with_reducible repeat (first | apply Kd.R_alloc | apply Kd.R_drewN | apply Kd.R_drew)); exact HO116.out))) (below_size (by repeat (first | (with_reducible first | exact HB.out | apply below_alloc | apply pw_below_drewN | apply below_drew1) | exact HB.out))))
                                have n5_ := Aside0.mk (below_step (by repeat (first | (with_reducible first | exact HB.out | apply below_alloc | apply pw_below_drewN | apply below_drew1) | exact HB.out)) hb)
                                clear HO_9
                                clear HO_10
                                clear HO109
                                clear HO116
                                clear HB
                                have HO_9 := n0_
                                have HO_10 := n1_
                                have HO109 := n2_
                                have HO116 := n3_
                                have HO122 := n4_
                                have HB := n5_
                                clear n0_ n1_ n2_ n3_ n4_ n5_
                                clear hb ho28
                                refine hK.out _ _ ⟨HS0_, HS1_⟩ (fun hHeld => ?_)
                                clear hK K
                                refine norm_ (a' := ?_) ?_ ?_
                                rotate_left
                                · show Act.put _ (some 68) _ = _
                                  simp only [Act.put, List.setIfInBounds_toArray, List.set_cons_zero, List.set_cons_succ, i64_w, i32_w]
                                  rfl
                                refine pure_ (i := 11) (N := some 6) (v := ?_) (a' := ?_) #[true, true, true, true, true, true, true, true, true, true, false, true, false, false] rfl rfl (any_of HT_.out (by kernel_rfl)) (fun _ _ _ h => h) (Or.inl ⟨by rfl, ?_⟩) ?_ ?_
                                rotate_left
                                · intro w'
                                  go_simp
                                  with_reducible rfl
                                rotate_left
                                · simp only [Act.put, List.setIfInBounds_toArray, List.set_cons_zero, List.set_cons_succ, i64_w, i32_w]
                                  rfl
                                refine one_ (i := 10) (N := some 71) #[true, true, true, true, true, true, true, true, true, true, true, true, false, false] rfl rfl (one_of HT_.out (by kernel_rfl)) (by decide) (fun K hK => ?_)
                                refine Kd.R_lit_step Kd.string _ 9 ?hg (N := 71) ?hd (xs := ([t106, t113] : List ByteArray)) (inner := [.string t106, .string t113]) (ok := fun _ => True) (okp := fun _ => True) ?hr ?hp (fun _ hk => hk) trivial (Below.refl _ _) (Nat.le_refl _) (by simp) ?_; (case hd => rfl); (case hg => rfl); (case hr => first | (go_simp; done) | (go_simp; rfl)); (case hp => exact (Reps.one (show Kd.M Kd.string _ _ _ t106 [.string t106] from rfl) (Reps.one (show Kd.M Kd.string _ _ _ t113 [.string t113] from rfl) (Reps.none _ _))))
                                intro v124 w29 ho30 hb hg_ hnew_
                                have HS0_ := (hb.cell (World.block_lt_of_cell? _ _ (hHeld.1))).trans (hHeld.1)
                                have HS1_ := (hb.cell (World.block_lt_of_cell? _ _ (hHeld.2))).trans (hHeld.2)
                                clear hg_ hnew_
                                (first | rw [← Ny123.out] at ho30 | (simp only [Int.reduceToNat] at ho30; rw [← Ny123.out] at ho30))
                                have n0_ := Aside0.mk (Kd.R_below (by (with_reducible repeat (first | apply Kd.R_alloc | apply Kd.R_drewN | apply Kd.R_drew)); exact HO_9.out) hb)
                                have n1_ := Aside0.mk (Kd.R_elder' (by (with_reducible repeat (first | apply Kd.R_alloc | apply Kd.R_drewN | apply Kd.R_drew)); exact HO_10.out) (Kd.R_base ho30) hb)
                                have n2_ := Aside0.mk (Kd.R_below (by (with_reducible repeat (first | apply Kd.R_alloc | apply Kd.R_drewN | apply Kd.R_drew)); exact HO109.out) hb)
                                have n3_ := Aside0.mk (Kd.R_below (by (with_reducible repeat (first | apply Kd.R_alloc | apply Kd.R_drewN | apply Kd.R_drew)); exact HO116.out) hb)
                                have n4_ := Aside0.mk (Kd.R_below (by (with_reducible repeat (first | apply Kd.R_alloc | apply Kd.R_drewN | apply Kd.R_drew)); exact HO122.out) hb)
                                have n5_ := Aside0.mk (Kd.R_lower (Kd.R_new' ho30 (Kd.R_lt (by (with_reducible repeat (first | apply Kd.R_alloc | apply Kd.R_drewN | apply Kd.R_drew)); exact HO_10.out))) (below_size (by repeat (first | (with_reducible first | exact HB.out | apply below_alloc | apply pw_below_drewN | apply below_drew1) | exact HB.out))))
                                have n6_ := Aside0.mk (below_step (by repeat (first | (with_reducible first | exact HB.out | apply below_alloc | apply pw_below_drewN | apply below_drew1) | exact HB.out)) hb)
                                clear HO_9
                                clear HO_10
                                clear HO109
                                clear HO116
                                clear HO122
                                clear HB
                                have HO_9 := n0_
                                have HO_10 := n1_
                                have HO109 := n2_
                                have HO116 := n3_
                                have HO122 := n4_
                                have HO125 := n5_
                                have HB := n6_
                                clear n0_ n1_ n2_ n3_ n4_ n5_ n6_
                                clear hb ho30
                                refine hK.out _ _ ⟨HS0_, HS1_⟩ (fun hHeld => ?_)
                                clear hK K
                                refine norm_ (a' := ?_) ?_ ?_
                                rotate_left
                                · show Act.put _ (some 71) _ = _
                                  simp only [Act.put, List.setIfInBounds_toArray, List.set_cons_zero, List.set_cons_succ, i64_w, i32_w]
                                  rfl
                                exact norm_ (by simp only [putAll, Act.put, List.setIfInBounds_toArray, List.set_cons_zero, List.set_cons_succ]) (hCont (v121, v124) _ ⟨hHeld, (by (with_reducible repeat (first | apply Kd.R_alloc | apply Kd.R_drewN | apply Kd.R_drew)); exact Kd.R_mono HO109.out (fun _ hk => ⟨hk.1.2, ⟨hk.2, hk.1.1.2⟩⟩)), (by (with_reducible repeat (first | apply Kd.R_alloc | apply Kd.R_drewN | apply Kd.R_drew)); exact Kd.R_mono HO116.out (fun _ hk => ⟨hk.1.2, ⟨hk.2, hk.1.1.2⟩⟩)), (by (with_reducible repeat (first | apply Kd.R_alloc | apply Kd.R_drewN | apply Kd.R_drew)); exact Kd.R_mono HO122.out (fun _ hk => ⟨hk.1.2, ⟨hk.2, hk.1.1.2⟩⟩)), (by (with_reducible repeat (first | apply Kd.R_alloc | apply Kd.R_drewN | apply Kd.R_drew)); exact Kd.R_mono HO125.out (fun _ hk => hk.2)), (by (with_reducible repeat (first | apply Kd.R_alloc | apply Kd.R_drewN | apply Kd.R_drew)); exact Kd.R_mono HO_10.out (fun _ hk => hk.2)), (by (with_reducible repeat (first | apply Kd.R_alloc | apply Kd.R_drewN | apply Kd.R_drew)); exact Kd.R_mono HO_9.out (fun _ hk => ⟨hk.1.1.2, ⟨hk.1.2, hk.2⟩⟩)), (by repeat (first | (with_reducible first | exact HB.out | apply below_alloc | apply pw_below_drewN | apply below_drew1) | exact HB.out))⟩)
                              · skip
                                refine Kd.R_lit_step Kd.string _ 9 ?hg (N := 71) ?hd (xs := ([t106, t113] : List ByteArray)) (inner := [.string t106, .string t113]) (ok := fun _ => True) (okp := fun _ => True) ?hr ?hp (fun _ hk => hk) trivial (Below.refl _ _) (Nat.le_refl _) (by simp) ?_; (case hd => rfl); (case hg => rfl); (case hr => first | (go_simp; done) | (go_simp; rfl)); (case hp => exact (Reps.one (show Kd.M Kd.string _ _ _ t106 [.string t106] from rfl) (Reps.one (show Kd.M Kd.string _ _ _ t113 [.string t113] from rfl) (Reps.none _ _))))
                                intro v124 w27 ho28 hb hg_ hnew_
                                have HS0_ := (hb.cell (World.block_lt_of_cell? _ _ (hHeld.1))).trans (hHeld.1)
                                have HS1_ := (hb.cell (World.block_lt_of_cell? _ _ (hHeld.2))).trans (hHeld.2)
                                clear hg_ hnew_
                                (first | rw [← Ny123.out] at ho28 | (simp only [Int.reduceToNat] at ho28; rw [← Ny123.out] at ho28))
                                have n0_ := Aside0.mk (Kd.R_below (by (with_reducible repeat (first | apply Kd.R_alloc | apply Kd.R_drewN | apply Kd.R_drew)); exact HO_9.out) hb)
                                have n1_ := Aside0.mk (Kd.R_elder' (by (with_reducible repeat (first | apply Kd.R_alloc | apply Kd.R_drewN | apply Kd.R_drew)); exact HO_10.out) (Kd.R_base ho28) hb)
                                have n2_ := Aside0.mk (Kd.R_below (by (with_reducible repeat (first | apply Kd.R_alloc | apply Kd.R_drewN | apply Kd.R_drew)); exact HO109.out) hb)
                                have n3_ := Aside0.mk (Kd.R_below (by (with_reducible repeat (first | apply Kd.R_alloc | apply Kd.R_drewN | apply Kd.R_drew)); exact HO116.out) hb)
                                have n4_ := Aside0.mk (Kd.R_lower (Kd.R_new' ho28 (Kd.R_lt (by (with_reducible repeat (first | apply Kd.R_alloc | apply Kd.R_drewN | apply Kd.R_drew)); exact HO_10.out))) (below_size (by repeat (first | (with_reducible first | exact HB.out | apply below_alloc | apply pw_below_drewN | apply below_drew1) | exact HB.out))))
                                have n5_ := Aside0.mk (below_step (by repeat (first | (with_reducible first | exact HB.out | apply below_alloc | apply pw_below_drewN | apply below_drew1) | exact HB.out)) hb)
                                clear HO_9
                                clear HO_10
                                clear HO109
                                clear HO116
                                clear HB
                                have HO_9 := n0_
                                have HO_10 := n1_
                                have HO109 := n2_
                                have HO116 := n3_
                                have HO125 := n4_
                                have HB := n5_
                                clear n0_ n1_ n2_ n3_ n4_ n5_
                                clear hb ho28
                                refine hK.out _ _ ⟨HS0_, HS1_⟩ (fun hHeld => ?_)
                                clear hK K
                                refine norm_ (a' := ?_) ?_ ?_
                                rotate_left
                                · show Act.put _ (some 71) _ = _
                                  simp only [Act.put, List.setIfInBounds_toArray, List.set_cons_zero, List.set_cons_succ, i64_w, i32_w]
                                  rfl
                                refine one_ (i := 7) (N := some 68) #[true, true, true, true, true, true, true, true, true, true, true, false, false, false] rfl rfl (one_of HT_.out (by kernel_rfl)) (by decide) (fun K hK => ?_)
                                refine Kd.R_lit_step (Kd.int .i64) _ 3 ?hg (N := 68) ?hd (xs := ([rd t105 0, x11_10, rd t112 0] : List Int)) (inner := [.int .i64 (rd t105 0), .int .i64 x11_10, .int .i64 (rd t112 0)]) (ok := fun _ => True) (okp := fun _ => True) ?hr ?hp (fun _ hk => hk) trivial (Below.refl _ _) (Nat.le_refl _) (by simp) ?_; (case hd => rfl); (case hg => rfl); (case hr => first | (go_simp; done) | (go_simp; rfl)); (case hp => exact (Reps.one (show Kd.M (Kd.int .i64) _ _ _ (rd t105 0) [.int .i64 (rd t105 0)] from rfl) (Reps.one (show Kd.M (Kd.int .i64) _ _ _ x11_10 [.int .i64 x11_10] from rfl) (Reps.one (show Kd.M (Kd.int .i64) _ _ _ (rd t112 0) [.int .i64 (rd t112 0)] from rfl) (Reps.none _ _)))))
                                intro v121 w29 ho30 hb hg_ hnew_
                                have HS0_ := (hb.cell (World.block_lt_of_cell? _ _ (hHeld.1))).trans (hHeld.1)
                                have HS1_ := (hb.cell (World.block_lt_of_cell? _ _ (hHeld.2))).trans (hHeld.2)
                                clear hg_ hnew_
                                (first | rw [← Ny120.out] at ho30 | (simp only [Int.reduceToNat] at ho30; rw [← Ny120.out] at ho30))
                                have n0_ := Aside0.mk (Kd.R_elder' (by (with_reducible repeat (first | apply Kd.R_alloc | apply Kd.R_drewN | apply Kd.R_drew)); exact HO_9.out) (Kd.R_base ho30) hb)
                                have n1_ := Aside0.mk (Kd.R_below (by (with_reducible repeat (first | apply Kd.R_alloc | apply Kd.R_drewN | apply Kd.R_drew)); exact HO_10.out) hb)
                                have n2_ := Aside0.mk (Kd.R_elder' (by (with_reducible repeat (first | apply Kd.R_alloc | apply Kd.R_drewN | apply Kd.R_drew)); exact HO109.out) (Kd.R_base ho30) hb)
                                have n3_ := Aside0.mk (Kd.R_elder' (by (with_reducible repeat (first | apply Kd.R_alloc | apply Kd.R_drewN | apply Kd.R_drew)); exact HO116.out) (Kd.R_base ho30) hb)
                                have n4_ := Aside0.mk (Kd.R_below (by (with_reducible repeat (first | apply Kd.R_alloc | apply Kd.R_drewN | apply Kd.R_drew)); exact HO125.out) hb)
                                have n5_ := Aside0.mk (Kd.R_lower (Kd.R_new' (Kd.R_new' (Kd.R_new' ho30 (Kd.R_lt (by (with_reducible repeat (first | apply Kd.R_alloc | apply Kd.R_drewN | apply Kd.R_drew)); exact HO_9.out))) (Kd.R_lt (by (with_reducible repeat (first | apply Kd.R_alloc | apply Kd.R_drewN | apply Kd.R_drew)); exact HO109.out))) (Kd.R_lt (by (with_reducible repeat (first | apply Kd.R_alloc | apply Kd.R_drewN | apply Kd.R_drew)); exact HO116.out))) (below_size (by repeat (first | (with_reducible first | exact HB.out | apply below_alloc | apply pw_below_drewN | apply below_drew1) | exact HB.out))))
                                have n6_ := Aside0.mk (below_step (by repeat (first | (with_reducible first | exact HB.out | apply below_alloc | apply pw_below_drewN | apply below_drew1) | exact HB.out)) hb)
                                clear HO_9
                                clear HO_10
                                clear HO109
                                clear HO116
                                clear HO125
                                clear HB
                                have HO_9 := n0_
                                have HO_10 := n1_
                                have HO109 := n2_
                                have HO116 := n3_
                                have HO125 := n4_
                                have HO122 := n5_
                                have HB := n6_
                                clear n0_ n1_ n2_ n3_ n4_ n5_ n6_
                                clear hb ho30
                                refine hK.out _ _ ⟨HS0_, HS1_⟩ (fun hHeld => ?_)
                                clear hK K
                                refine norm_ (a' := ?_) ?_ ?_
                                rotate_left
                                · show Act.put _ (some 68) _ = _
                                  simp only [Act.put, List.setIfInBounds_toArray, List.set_cons_zero, List.set_cons_succ, i64_w, i32_w]
                                  rfl
                                refine pure_ (i := 11) (N := some 6) (v := ?_) (a' := ?_) #[true, true, true, true, true, true, true, true, true, true, true, true, false, false] rfl rfl (any_of HT_.out (by kernel_rfl)) (fun _ _ _ h => h) (Or.inl ⟨by rfl, ?_⟩) ?_ ?_
                                rotate_left
                                · intro w'
                                  go_simp
                                  with_reducible rfl
                                rotate_left
                                · simp only [Act.put, List.setIfInBounds_toArray, List.set_cons_zero, List.set_cons_succ, i64_w, i32_w]
                                  rfl
                                exact norm_ (by simp only [putAll, Act.put, List.setIfInBounds_toArray, List.set_cons_zero, List.set_cons_succ]) (hCont (v121, v124) _ ⟨hHeld, (by (with_reducible repeat (first | apply Kd.R_alloc | apply Kd.R_drewN | apply Kd.R_drew)); exact Kd.R_mono HO109.out (fun _ hk => ⟨hk.1.2, ⟨hk.2, hk.1.1.2⟩⟩)), (by (with_reducible repeat (first | apply Kd.R_alloc | apply Kd.R_drewN | apply Kd.R_drew)); exact Kd.R_mono HO116.out (fun _ hk => ⟨hk.1.2, ⟨hk.2, hk.1.1.2⟩⟩)), (by (with_reducible repeat (first | apply Kd.R_alloc | apply Kd.R_drewN | apply Kd.R_drew)); exact Kd.R_mono HO122.out (fun _ hk => ⟨hk.1.2, ⟨hk.2, hk.1.1.2⟩⟩)), (by (with_reducible repeat (first | apply Kd.R_alloc | apply Kd.R_drewN | apply Kd.R_drew)); exact Kd.R_mono HO125.out (fun _ hk => hk.2)), (by (with_reducible repeat (first | apply Kd.R_alloc | apply Kd.R_drewN | apply Kd.R_drew)); exact Kd.R_mono HO_10.out (fun _ hk => hk.2)), (by (with_reducible repeat (first | apply Kd.R_alloc | apply Kd.R_drewN | apply Kd.R_drew)); exact Kd.R_mono HO_9.out (fun _ hk => ⟨hk.1.1.2, ⟨hk.1.2, hk.2⟩⟩)), (by repeat (first | (with_reducible first | exact HB.out | apply below_alloc | apply pw_below_drewN | apply below_drew1) | exact HB.out))⟩)
                            rintro ⟨v121, v124⟩ w31 ⟨hS_, h0_, h1_, h2_, h3_, h4_, h5_, h6_⟩
                            have n0_ : Aside0 (Kd.R (Kd.int .i64) 3 w31 w.heap.size (fun k_ => some k_ ≠ (.slice (some ad119) t112.length co26 : Value).ownBlock ∧ some k_ ≠ (v121 : Value).ownBlock ∧ some k_ ≠ (.slice none 0 0 : Value).ownBlock) (.slice (some ad118) t105.length co25) t105) := ⟨h0_⟩
                            have n1_ : Aside0 (Kd.R (Kd.int .i64) 3 w31 w.heap.size (fun k_ => some k_ ≠ (.slice (some ad118) t105.length co25 : Value).ownBlock ∧ some k_ ≠ (v121 : Value).ownBlock ∧ some k_ ≠ (.slice none 0 0 : Value).ownBlock) (.slice (some ad119) t112.length co26) t112) := ⟨h1_⟩
                            have n2_ : Aside0 (Kd.R (Kd.int .i64) 3 w31 w.heap.size (fun k_ => some k_ ≠ (.slice (some ad118) t105.length co25 : Value).ownBlock ∧ some k_ ≠ (.slice (some ad119) t112.length co26 : Value).ownBlock ∧ some k_ ≠ (.slice none 0 0 : Value).ownBlock) v121 y120) := ⟨h2_⟩
                            have n3_ : Aside0 (Kd.R Kd.string 9 w31 w.heap.size (fun k_ => some k_ ≠ (.slice none 0 0 : Value).ownBlock) v124 y123) := ⟨h3_⟩
                            have n4_ : Aside0 (Kd.R Kd.string 9 w31 w.heap.size (fun k_ => some k_ ≠ (v124 : Value).ownBlock) (.slice none 0 0) ([] : List ByteArray)) := ⟨h4_⟩
                            have n5_ : Aside0 (Kd.R (Kd.int .i64) 3 w31 w.heap.size (fun k_ => some k_ ≠ (.slice (some ad118) t105.length co25 : Value).ownBlock ∧ some k_ ≠ (.slice (some ad119) t112.length co26 : Value).ownBlock ∧ some k_ ≠ (v121 : Value).ownBlock) (.slice none 0 0) ([] : List Int)) := ⟨h5_⟩
                            have n6_ : Aside0 (Below w.heap.size w w31) := ⟨h6_⟩
                            clear HO_9
                            clear HO_10
                            clear HO109
                            clear HO116
                            clear HB
                            clear h0_ h1_ h2_ h3_ h4_ h5_ h6_
                            have HO109 := n0_
                            have HO116 := n1_
                            have HO122 := n2_
                            have HO125 := n3_
                            have HO_10 := n4_
                            have HO_9 := n5_
                            have HB := n6_
                            clear n0_ n1_ n2_ n3_ n4_ n5_ n6_
                            have hHeld : w31.cell? ad118 = some (.int .i64 (rd t105 0)) ∧ w31.cell? ad119 = some (.int .i64 (rd t112 0)) := hS_
                            refine norm_ (a' := ?_) ?_ ?_
                            rotate_left
                            · simp only [putAll, Act.put, List.setIfInBounds_toArray, List.set_cons_zero, List.set_cons_succ]
                              rfl
                            refine pure_ (i := 12) (N := some 7) (v := ?_) (a' := ?_) #[true, true, true, true, true, true, true, true, true, true, true, true, true, false] rfl rfl (any_of HT_.out (by kernel_rfl)) (fun _ _ _ h => h) (Or.inl ⟨by rfl, ?_⟩) ?_ ?_
                            rotate_left
                            · intro w'
                              go_simp
                              with_reducible rfl
                            rotate_left
                            · simp only [Act.put, List.setIfInBounds_toArray, List.set_cons_zero, List.set_cons_succ, i64_w, i32_w]
                              rfl
                            refine pure_ (i := 13) (N := some 8) (v := ?_) (a' := ?_) #[true, true, true, true, true, true, true, true, true, true, true, true, true, true] rfl rfl (any_of HT_.out (by kernel_rfl)) (fun _ _ _ h => h) (Or.inl ⟨by rfl, ?_⟩) ?_ ?_
                            rotate_left
                            · intro w'
                              go_simp
                              with_reducible rfl
                            rotate_left
                            · simp only [Act.put, List.setIfInBounds_toArray, List.set_cons_zero, List.set_cons_succ, i64_w, i32_w]
                              rfl
                            refine done_ (done_of HT_.out (by kernel_rfl)) ?_
                            try go_wp2
                            go_ret3
                            exact ⟨_, _, by first | rfl | (simp [errW_none, errW_some] <;> rfl) | (simp [*, errW_none, errW_some] <;> rfl), by (with_reducible repeat (first | apply Kd.R_alloc | apply Kd.R_drewN | apply Kd.R_drew)); exact Kd.R_mono HO122.out (fun _ hk => trivial), by (with_reducible repeat (first | apply Kd.R_alloc | apply Kd.R_drewN | apply Kd.R_drew)); exact Kd.R_mono HO125.out (fun _ hk => trivial), by repeat (first | (with_reducible first | exact HB.out | apply below_alloc | apply pw_below_drewN | apply below_drew1) | exact HB.out)⟩
                          · rw [if_neg c19] at H
                            exact absurd H (by simp)
                        · rw [if_neg c18] at H
                          exact absurd H (by simp)
                      · have H1 : (some (([] : List Int), ([] : List ByteArray), some q117)) = some (r1, r2, r3) := by rw [if_neg (show ¬ (some q117).isNone = true by simp)] at H; exact H
                        clear H
                        have H := H1
                        clear H1
                        try simp only [errW_none, errW_some]
                        simp only [Option.some.injEq, Prod.mk.injEq] at H
                        obtain ⟨rfl, rfl, rfl⟩ := H
                        obtain ⟨i032, hi032, _, hsz32, _⟩ := info_parts info9
                        obtain ⟨hcut32, hA32, hC32⟩ := print_take_of (P := Tryd.prog) Value.string (⟨#[]⟩ : ByteArray) 26 9 .i64 Tryd.underlying26 hi032 hsz32 (some ad101) c2 l2 3 (by omega) (of_decide_eq_true (by first | (with_reducible assumption) | assumption)) HC2.out
                        have HR104 := Aside0.mk (Kd.C_of_reads (h1 := fun _ => rfl) (hA32 _ (Kd.reads_of_C HR2.out)))
                        have HC104 := Aside0.mk hC32
                        clear hA32 hC32 hi032 hsz32
                        go_wp2_with (first | ((with_reducible refine gate_callee (f := 33) rfl ?_); refine goesL_ (some 38) rfl rfl Tryd.func33 (by kernel_rfl) rfl #[a0, .string a1, .slice (some ad101) (l2.take 3).length c2] rfl (by (try simp only [List.map_toArray, List.map_cons, List.map_nil]); first | done | (rw [show (l2.take 3).length = 3 from (by rw [List.length_take]; have h_ : (3 : Int) ≤ (l2.length : Int) := of_decide_eq_true (by first | (with_reducible assumption) | assumption); omega)] <;> rfl) | rfl | (simp only [List.length_drop, List.length_take]; rfl)) ?_; (with_reducible refine (Go.Proofs.YtjefbpfpobgmaaaDoor.FwTok.excelize_File_parseFilterTokens.calls kj10 a0 a1 _ _ (l2.take 3) t105 t106 none _ ?side1 ?side2 A14.out).mono ?_); (case side1 => repeat (first | exact (Kd.C_below HR104.out HB.out) | (with_reducible refine Kd.C_alloc ?_ _) | (with_reducible refine Kd.C_drewN ?_ _) | (with_reducible refine Kd.C_drew ?_))); (case side2 => exact HC104.out); rintro e w33 ⟨v108, rfl, ho0, hb⟩; refine ⟨_, rfl, ?_⟩; have n0_ := Aside0.mk (Kd.R_elder' (by (with_reducible repeat (first | apply Kd.R_alloc | apply Kd.R_drewN | apply Kd.R_drew)); exact HO_9.out) (Kd.R_base ho0) hb); have n1_ := Aside0.mk (Kd.R_below (by (with_reducible repeat (first | apply Kd.R_alloc | apply Kd.R_drewN | apply Kd.R_drew)); exact HO_10.out) hb); have n2_ := Aside0.mk (Kd.R_lower (Kd.R_new' ho0 (Kd.R_lt (by (with_reducible repeat (first | apply Kd.R_alloc | apply Kd.R_drewN | apply Kd.R_drew)); exact HO_9.out))) (below_size (by repeat (first | (with_reducible first | exact HB.out | apply below_alloc | apply pw_below_drewN | apply below_drew1) | exact HB.out)))); have n3_ := Aside0.mk (below_step (by repeat (first | (with_reducible first | exact HB.out | apply below_alloc | apply pw_below_drewN | apply below_drew1) | exact HB.out)) hb); clear HO_9; clear HO_10; clear HB; have HO_9 := n0_; have HO_10 := n1_; have HO109 := n2_; have HB := n3_; clear n0_ n1_ n2_ n3_; (try clear hb); (try clear hb2); (try clear hk); (try clear hi); (try clear ho0); (try simp only [errW_none, errW_some, Go.Proofs.YtjefbpfpobgmaaaDoor.FwTok.errV_none, Go.Proofs.YtjefbpfpobgmaaaDoor.FwTok.errV_some]); obtain ⟨i034, hi034, _, hsz34, _⟩ := info_parts info9; obtain ⟨A34, hcut34, hA34, hC34⟩ := print_mid_of (P := Tryd.prog) Value.string (⟨#[]⟩ : ByteArray) 26 9 .i64 .i64 Tryd.underlying26 hi034 hsz34 (some ad101) c2 l2 4 7 (by omega) (by first | omega | exact of_decide_eq_true (by first | (with_reducible assumption) | assumption)) (of_decide_eq_true (by first | (with_reducible assumption) | assumption)) HC2.out; have HR111 := Aside0.mk (Kd.C_of_reads (h1 := fun _ => rfl) (hA34 _ (Kd.reads_of_C HR2.out))); have HC111 := Aside0.mk hC34; clear hA34 hC34 hi034 hsz34) | ((with_reducible refine gate_callee (f := 33) rfl ?_); refine goesL_ (some 52) rfl rfl Tryd.func33 (by kernel_rfl) rfl #[a0, .string a1, .slice A34 ((l2.take 7).drop 4).length (c2 - 4)] rfl (by (try simp only [List.map_toArray, List.map_cons, List.map_nil]); first | done | (rw [show ((l2.take 7).drop 4).length = (7 - 4) from (by rw [List.length_drop, List.length_take]; have h_ : (7 : Int) ≤ (l2.length : Int) := of_decide_eq_true (by first | (with_reducible assumption) | assumption); omega)] <;> rfl) | rfl | (simp only [List.length_drop, List.length_take]; rfl)) ?_; (with_reducible refine (Go.Proofs.YtjefbpfpobgmaaaDoor.FwTok.excelize_File_parseFilterTokens.calls kj10 a0 a1 _ _ ((l2.take 7).drop 4) t112 t113 (some q117) _ ?side1 ?side2 A17.out).mono ?_); (case side1 => repeat (first | exact (Kd.C_below HR111.out HB.out) | (with_reducible refine Kd.C_alloc ?_ _) | (with_reducible refine Kd.C_drewN ?_ _) | (with_reducible refine Kd.C_drew ?_))); (case side2 => exact HC111.out); rintro e w35 ⟨v115, rfl, ho0, hb⟩; refine ⟨_, rfl, ?_⟩; have n0_ := Aside0.mk (Kd.R_elder' (by (with_reducible repeat (first | apply Kd.R_alloc | apply Kd.R_drewN | apply Kd.R_drew)); exact HO_9.out) (Kd.R_base ho0) hb); have n1_ := Aside0.mk (Kd.R_below (by (with_reducible repeat (first | apply Kd.R_alloc | apply Kd.R_drewN | apply Kd.R_drew)); exact HO_10.out) hb); have n2_ := Aside0.mk (Kd.R_elder' (by (with_reducible repeat (first | apply Kd.R_alloc | apply Kd.R_drewN | apply Kd.R_drew)); exact HO109.out) (Kd.R_base ho0) hb); have n3_ := Aside0.mk (Kd.R_lower (Kd.R_new' (Kd.R_new' ho0 (Kd.R_lt (by (with_reducible repeat (first | apply Kd.R_alloc | apply Kd.R_drewN | apply Kd.R_drew)); exact HO_9.out))) (Kd.R_lt (by (with_reducible repeat (first | apply Kd.R_alloc | apply Kd.R_drewN | apply Kd.R_drew)); exact HO109.out))) (below_size (by repeat (first | (with_reducible first | exact HB.out | apply below_alloc | apply pw_below_drewN | apply below_drew1) | exact HB.out)))); have n4_ := Aside0.mk (below_step (by repeat (first | (with_reducible first | exact HB.out | apply below_alloc | apply pw_below_drewN | apply below_drew1) | exact HB.out)) hb); clear HO_9; clear HO_10; clear HO109; clear HB; have HO_9 := n0_; have HO_10 := n1_; have HO109 := n2_; have HO116 := n3_; have HB := n4_; clear n0_ n1_ n2_ n3_ n4_; (try clear hb); (try clear hb2); (try clear hk); (try clear hi); (try clear ho0); (try simp only [errW_none, errW_some, Go.Proofs.YtjefbpfpobgmaaaDoor.FwTok.errV_none, Go.Proofs.YtjefbpfpobgmaaaDoor.FwTok.errV_some])))
                        go_ret3
                        exact ⟨_, _, by first | rfl | (simp [errW_none, errW_some] <;> rfl) | (simp [*, errW_none, errW_some] <;> rfl), by (with_reducible repeat (first | apply Kd.R_alloc | apply Kd.R_drewN | apply Kd.R_drew)); exact Kd.R_mono HO_9.out (fun _ hk => trivial), by (with_reducible repeat (first | apply Kd.R_alloc | apply Kd.R_drewN | apply Kd.R_drew)); exact HO_10.out, by repeat (first | (with_reducible first | exact HB.out | apply below_alloc | apply pw_below_drewN | apply below_drew1) | exact HB.out)⟩
                    · rw [if_neg c16] at H
                      exact absurd H (by simp)
                  · rw [if_neg c15] at H
                    exact absurd H (by simp)
                · have H1 : (some (([] : List Int), ([] : List ByteArray), some q110)) = some (r1, r2, r3) := by rw [if_neg (show ¬ (some q110).isNone = true by simp)] at H; exact H
                  clear H
                  have H := H1
                  clear H1
                  try simp only [errW_none, errW_some]
                  simp only [Option.some.injEq, Prod.mk.injEq] at H
                  obtain ⟨rfl, rfl, rfl⟩ := H
                  obtain ⟨i036, hi036, _, hsz36, _⟩ := info_parts info9
                  obtain ⟨hcut36, hA36, hC36⟩ := print_take_of (P := Tryd.prog) Value.string (⟨#[]⟩ : ByteArray) 26 9 .i64 Tryd.underlying26 hi036 hsz36 (some ad101) c2 l2 3 (by omega) (of_decide_eq_true (by first | (with_reducible assumption) | assumption)) HC2.out
                  have HR104 := Aside0.mk (Kd.C_of_reads (h1 := fun _ => rfl) (hA36 _ (Kd.reads_of_C HR2.out)))
                  have HC104 := Aside0.mk hC36
                  clear hA36 hC36 hi036 hsz36
                  go_wp2_with (first | ((with_reducible refine gate_callee (f := 33) rfl ?_); refine goesL_ (some 38) rfl rfl Tryd.func33 (by kernel_rfl) rfl #[a0, .string a1, .slice (some ad101) (l2.take 3).length c2] rfl (by (try simp only [List.map_toArray, List.map_cons, List.map_nil]); first | done | (rw [show (l2.take 3).length = 3 from (by rw [List.length_take]; have h_ : (3 : Int) ≤ (l2.length : Int) := of_decide_eq_true (by first | (with_reducible assumption) | assumption); omega)] <;> rfl) | rfl | (simp only [List.length_drop, List.length_take]; rfl)) ?_; (with_reducible refine (Go.Proofs.YtjefbpfpobgmaaaDoor.FwTok.excelize_File_parseFilterTokens.calls kj10 a0 a1 _ _ (l2.take 3) t105 t106 (some q110) _ ?side1 ?side2 A14.out).mono ?_); (case side1 => repeat (first | exact (Kd.C_below HR104.out HB.out) | (with_reducible refine Kd.C_alloc ?_ _) | (with_reducible refine Kd.C_drewN ?_ _) | (with_reducible refine Kd.C_drew ?_))); (case side2 => exact HC104.out); rintro e w37 ⟨v108, rfl, ho0, hb⟩; refine ⟨_, rfl, ?_⟩; have n0_ := Aside0.mk (Kd.R_elder' (by (with_reducible repeat (first | apply Kd.R_alloc | apply Kd.R_drewN | apply Kd.R_drew)); exact HO_9.out) (Kd.R_base ho0) hb); have n1_ := Aside0.mk (Kd.R_below (by (with_reducible repeat (first | apply Kd.R_alloc | apply Kd.R_drewN | apply Kd.R_drew)); exact HO_10.out) hb); have n2_ := Aside0.mk (Kd.R_lower (Kd.R_new' ho0 (Kd.R_lt (by (with_reducible repeat (first | apply Kd.R_alloc | apply Kd.R_drewN | apply Kd.R_drew)); exact HO_9.out))) (below_size (by repeat (first | (with_reducible first | exact HB.out | apply below_alloc | apply pw_below_drewN | apply below_drew1) | exact HB.out)))); have n3_ := Aside0.mk (below_step (by repeat (first | (with_reducible first | exact HB.out | apply below_alloc | apply pw_below_drewN | apply below_drew1) | exact HB.out)) hb); clear HO_9; clear HO_10; clear HB; have HO_9 := n0_; have HO_10 := n1_; have HO109 := n2_; have HB := n3_; clear n0_ n1_ n2_ n3_; (try clear hb); (try clear hb2); (try clear hk); (try clear hi); (try clear ho0); (try simp only [errW_none, errW_some, Go.Proofs.YtjefbpfpobgmaaaDoor.FwTok.errV_none, Go.Proofs.YtjefbpfpobgmaaaDoor.FwTok.errV_some])))
                  go_ret3
                  exact ⟨_, _, by first | rfl | (simp [errW_none, errW_some] <;> rfl) | (simp [*, errW_none, errW_some] <;> rfl), by (with_reducible repeat (first | apply Kd.R_alloc | apply Kd.R_drewN | apply Kd.R_drew)); exact Kd.R_mono HO_9.out (fun _ hk => trivial), by (with_reducible repeat (first | apply Kd.R_alloc | apply Kd.R_drewN | apply Kd.R_drew)); exact HO_10.out, by repeat (first | (with_reducible first | exact HB.out | apply below_alloc | apply pw_below_drewN | apply below_drew1) | exact HB.out)⟩
              · rw [if_neg c13] at H
                exact absurd H (by simp)
    · rw [if_neg c5] at H
      exact absurd H (by simp)
  · rw [if_neg c4] at H
    have c4b0 : ((l2.length : Int) == 7) = false := beq_eq_false_iff_ne.mpr c4
    have c4b1 : ((l2.length : Int) != 7) = true := bne_iff_ne.mpr c4
    replace H := Option.bind_eq_some_iff.mp H
    obtain ⟨⟨t126, t127, t128⟩, A380, H⟩ := H
    replace H : (if t128.isNone = true then (some (t126, (([t127] : List ByteArray)), none)) else (some (([] : List Int), ([] : List ByteArray), some (t128.getD 0)))) = some (r1, r2, r3) := H
    have A38 := Aside0.mk A380
    clear A380
    rcases t128 with _ | q131
    · have H1 : (some (t126, (([t127] : List ByteArray)), none)) = some (r1, r2, r3) := by rw [if_pos (show (none : Option Int).isNone = true by rfl)] at H; exact H
      clear H
      have H := H1
      clear H1
      try simp only [errW_none, errW_some]
      obtain ⟨y132, hy132⟩ : ∃ y_ : List ByteArray, y_ = (([t127] : List ByteArray)) := ⟨_, rfl⟩
      replace H : (some (t126, y132, none)) = some (r1, r2, r3) := by first | (rw [hy132]; with_reducible exact H) | (have H2_ := (Option.bind_some _ _).symm.trans H; rw [hy132]; with_reducible exact H2_) | (have H2_ := (Option.bind_some _ _).symm.trans H; with_reducible exact H2_) | with_reducible exact H | (rw [hy132]; exact H) | exact H
      have Ny132 := Aside0.mk hy132
      clear hy132
      simp only [Option.some.injEq, Prod.mk.injEq] at H
      obtain ⟨rfl, rfl, rfl⟩ := H
      go_enter Tryd.func28, Tryd.ntmps28
      go_wp2_with (first | ((with_reducible refine gate_callee (f := 33) rfl ?_); refine goesL_ (some 76) rfl rfl Tryd.func33 (by kernel_rfl) rfl #[a0, .string a1, .slice A2 l2.length c2] rfl (by (try simp only [List.map_toArray, List.map_cons, List.map_nil]); first | done | rfl | (simp only [List.length_drop, List.length_take]; rfl)) ?_; (with_reducible refine (Go.Proofs.YtjefbpfpobgmaaaDoor.FwTok.excelize_File_parseFilterTokens.calls k a0 a1 _ _ l2 t126 t127 none _ ?side1 ?side2 A38.out).mono ?_); (case side1 => repeat (first | exact HR2.out | (with_reducible refine Kd.C_alloc ?_ _) | (with_reducible refine Kd.C_drewN ?_ _) | (with_reducible refine Kd.C_drew ?_))); (case side2 => exact HC2.out); rintro e w39 ⟨v129, rfl, ho0, hb⟩; refine ⟨_, rfl, ?_⟩; have n0_ := Aside0.mk (Kd.R_lower ho0 (below_size (by repeat (first | (with_reducible first | exact HB.out | apply below_alloc | apply pw_below_drewN | apply below_drew1) | exact HB.out)))); have n1_ := Aside0.mk (below_step (by repeat (first | (with_reducible first | exact HB.out | apply below_alloc | apply pw_below_drewN | apply below_drew1) | exact HB.out)) hb); clear HB; have HO130 := n0_; have HB := n1_; clear n0_ n1_; (try clear hb); (try clear hb2); (try clear hk); (try clear hi); (try clear ho0); (try simp only [errW_none, errW_some, Go.Proofs.YtjefbpfpobgmaaaDoor.FwTok.errV_none, Go.Proofs.YtjefbpfpobgmaaaDoor.FwTok.errV_some])) | ((with_reducible refine gate_dst (N := 87) rfl ?_); refine Kd.R_lit Kd.string _ 9 ?hg (N := 87) ?hd (xs := ([t127] : List ByteArray)) (inner := [.string t127]) (ok := fun _ => True) (okp := fun _ => True) ?hr ?hp (fun _ hk => hk) trivial (Below.refl _ _) (Nat.le_refl _) (by simp) ?_; (case hd => rfl); (case hg => rfl); (case hr => first | (go_simp; done) | (go_simp; rfl)); (case hp => exact (Reps.one (show Kd.M Kd.string _ _ _ t127 [.string t127] from rfl) (Reps.none _ _))); intro v133 w40 ho41 hb hg_ hnew_; clear hg_ hnew_; (first | rw [← Ny132.out] at ho41 | (simp only [Int.reduceToNat] at ho41; rw [← Ny132.out] at ho41)); have n0_ := Aside0.mk (Kd.R_below (by (with_reducible repeat (first | apply Kd.R_alloc | apply Kd.R_drewN | apply Kd.R_drew)); exact HO130.out) hb); have n1_ := Aside0.mk (Kd.R_lower ho41 (below_size (by repeat (first | (with_reducible first | exact HB.out | apply below_alloc | apply pw_below_drewN | apply below_drew1) | exact HB.out)))); have n2_ := Aside0.mk (below_step (by repeat (first | (with_reducible first | exact HB.out | apply below_alloc | apply pw_below_drewN | apply below_drew1) | exact HB.out)) hb); clear HO130; clear HB; have HO130 := n0_; have HO134 := n1_; have HB := n2_; clear n0_ n1_ n2_; clear hb ho41))
      go_ret3
      exact ⟨_, _, by first | rfl | (simp [errW_none, errW_some] <;> rfl) | (simp [*, errW_none, errW_some] <;> rfl), by (with_reducible repeat (first | apply Kd.R_alloc | apply Kd.R_drewN | apply Kd.R_drew)); exact HO130.out, by (with_reducible repeat (first | apply Kd.R_alloc | apply Kd.R_drewN | apply Kd.R_drew)); exact HO134.out, by repeat (first | (with_reducible first | exact HB.out | apply below_alloc | apply pw_below_drewN | apply below_drew1) | exact HB.out)⟩
    · have H1 : (some (([] : List Int), ([] : List ByteArray), some q131)) = some (r1, r2, r3) := by rw [if_neg (show ¬ (some q131).isNone = true by simp)] at H; exact H
      clear H
      have H := H1
      clear H1
      try simp only [errW_none, errW_some]
      simp only [Option.some.injEq, Prod.mk.injEq] at H
      obtain ⟨rfl, rfl, rfl⟩ := H
      go_enter Tryd.func28, Tryd.ntmps28
      go_wp2_with (first | ((with_reducible refine gate_callee (f := 33) rfl ?_); refine goesL_ (some 76) rfl rfl Tryd.func33 (by kernel_rfl) rfl #[a0, .string a1, .slice A2 l2.length c2] rfl (by (try simp only [List.map_toArray, List.map_cons, List.map_nil]); first | done | rfl | (simp only [List.length_drop, List.length_take]; rfl)) ?_; (with_reducible refine (Go.Proofs.YtjefbpfpobgmaaaDoor.FwTok.excelize_File_parseFilterTokens.calls k a0 a1 _ _ l2 t126 t127 (some q131) _ ?side1 ?side2 A38.out).mono ?_); (case side1 => repeat (first | exact HR2.out | (with_reducible refine Kd.C_alloc ?_ _) | (with_reducible refine Kd.C_drewN ?_ _) | (with_reducible refine Kd.C_drew ?_))); (case side2 => exact HC2.out); rintro e w42 ⟨v129, rfl, ho0, hb⟩; refine ⟨_, rfl, ?_⟩; have n0_ := Aside0.mk (Kd.R_lower ho0 (below_size (by repeat (first | (with_reducible first | exact HB.out | apply below_alloc | apply pw_below_drewN | apply below_drew1) | exact HB.out)))); have n1_ := Aside0.mk (below_step (by repeat (first | (with_reducible first | exact HB.out | apply below_alloc | apply pw_below_drewN | apply below_drew1) | exact HB.out)) hb); clear HB; have HO130 := n0_; have HB := n1_; clear n0_ n1_; (try clear hb); (try clear hb2); (try clear hk); (try clear hi); (try clear ho0); (try simp only [errW_none, errW_some, Go.Proofs.YtjefbpfpobgmaaaDoor.FwTok.errV_none, Go.Proofs.YtjefbpfpobgmaaaDoor.FwTok.errV_some])))
      go_ret3
      exact ⟨_, _, by first | rfl | (simp [errW_none, errW_some] <;> rfl) | (simp [*, errW_none, errW_some] <;> rfl), by first | exact Kd.R_nil _ _ _ _ _ | exact Kd.N_nil _ _ _ _ _ | exact Kd.V_nil _ _ _ _ _ | exact Kd.Q_nil _ _ _ _ _ | exact Kd.S_nil _ _ _ _ _, by first | exact Kd.R_nil _ _ _ _ _ | exact Kd.N_nil _ _ _ _ _ | exact Kd.V_nil _ _ _ _ _ | exact Kd.Q_nil _ _ _ _ _ | exact Kd.S_nil _ _ _ _ _, by repeat (first | (with_reducible first | exact HB.out | apply below_alloc | apply pw_below_drewN | apply below_drew1) | exact HB.out)⟩

end Go.Proofs.YtjefbpfpobgmaaaDoor.PFw
