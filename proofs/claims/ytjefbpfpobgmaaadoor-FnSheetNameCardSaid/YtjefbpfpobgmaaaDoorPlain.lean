/- The walks of refPlain at one byte and of refLetters: the letters of a text, at most twenty of them; x if there are none. -/
import Derived.Test.YtjefbpfpobgmaaaDoorProg
import Derived.Test.YtjefbpfpobgmaaaDoorWMore
namespace Go.Proofs.YtjefbpfpobgmaaaDoor.Plain
open Go.RowKit Go.Proofs.YtjefbpfpobgmaaaDoorW.PrintWords Go.Proofs.YtjefbpfpobgmaaaDoorW.PrintLast Go.Proofs.YtjefbpfpobgmaaaDoorW.PrintMore

def isLI (c : Int) : Bool := (decide (97 ≤ c) && decide (c ≤ 122)) || (decide (65 ≤ c) && decide (c ≤ 90))

set_option maxRecDepth 100000 in
theorem refPlain_one (s : ByteArray) (hs : s.size = 1) (w : World) :
    Calls Tryd.prog 15 #[.string s] w fun e w' => e = .returned (.bool (isLI (bt s 0))) ∧ Drawn0 w w' := by
  have hx : ∀ h : 0 < s.size, ((s[0]'h).toNat : Int) = bt s 0 := fun h => by simp [bt, h]
  generalize bt s 0 = c at hx ⊢
  have h1 : 0 < s.size := by omega
  have h2 : s.size ≤ 1 := by omega
  have hl : s.toList.isEmpty = false := by
    rw [ByteArray.toList_eq]
    have : s.data.toList.length = 1 := hs
    cases h : s.data.toList with
    | nil => rw [h] at this; simp at this
    | cons a l => rfl
  have h1i : (0 : Int) < (s.size : Int) := by omega
  have h1d : decide (0 < s.size) = true := decide_eq_true h1
  have h2d : decide (1 < s.size) = false := decide_eq_false (by omega)
  clear hs
  by_cases c1 : 97 ≤ c
  · have c1b : decide (97 ≤ c) = true := decide_eq_true c1
    by_cases c2 : c ≤ 122
    · have c2b : decide (c ≤ 122) = true := decide_eq_true c2
      have hr : isLI c = true := by unfold isLI; simp [c1, c2]
      rw [hr]
      clear hr
      go_enter Tryd.func15, Tryd.ntmps15
      go_wp2
      refine wp_loop_rounds 2 ?_
      rw [rounds_succ]
      go_wp2
      rw [rounds_succ]
      go_wp2
      go_ret
      exact ⟨by first | rfl | (simp; done), Drawn0.refl _⟩
    · have c2b : decide (c ≤ 122) = false := decide_eq_false c2
      have c3b : decide (65 ≤ c) = true := decide_eq_true (by omega)
      have c4b : decide (c ≤ 90) = false := decide_eq_false (by omega)
      have hr : isLI c = false := by unfold isLI; simp [c2b, c4b]
      rw [hr]
      clear hr
      go_enter Tryd.func15, Tryd.ntmps15
      go_wp2
      refine wp_loop_rounds 2 ?_
      rw [rounds_succ]
      go_wp2
      go_ret
      exact ⟨by first | rfl | (simp; done), Drawn0.refl _⟩
  · have c1b : decide (97 ≤ c) = false := decide_eq_false c1
    by_cases c3 : 65 ≤ c
    · have c3b : decide (65 ≤ c) = true := decide_eq_true c3
      by_cases c4 : c ≤ 90
      · have c4b : decide (c ≤ 90) = true := decide_eq_true c4
        have hr : isLI c = true := by unfold isLI; simp [c3, c4]
        rw [hr]
        clear hr
        go_enter Tryd.func15, Tryd.ntmps15
        go_wp2
        refine wp_loop_rounds 2 ?_
        rw [rounds_succ]
        go_wp2
        rw [rounds_succ]
        go_wp2
        go_ret
        exact ⟨by first | rfl | (simp; done), Drawn0.refl _⟩
      · have c4b : decide (c ≤ 90) = false := decide_eq_false c4
        have hr : isLI c = false := by unfold isLI; simp [c1b, c4b]
        rw [hr]
        clear hr
        go_enter Tryd.func15, Tryd.ntmps15
        go_wp2
        refine wp_loop_rounds 2 ?_
        rw [rounds_succ]
        go_wp2
        go_ret
        exact ⟨by first | rfl | (simp; done), Drawn0.refl _⟩
    · have c3b : decide (65 ≤ c) = false := decide_eq_false c3
      have hr : isLI c = false := by unfold isLI; simp [c1b, c3b]
      rw [hr]
      clear hr
      go_enter Tryd.func15, Tryd.ntmps15
      go_wp2
      refine wp_loop_rounds 2 ?_
      rw [rounds_succ]
      go_wp2
      go_ret
      exact ⟨by first | rfl | (simp; done), Drawn0.refl _⟩

/-- The letters among numbers. -/
def lets (l : List Int) : List Int := l.filter isLI
/-- What refLetters answers. -/
def letters (s : ByteArray) : ByteArray := if ((lets (bytesOf s)).take 20).length = 0 then ⟨#[120]⟩ else strOfNums ((lets (bytesOf s)).take 20)

theorem bytesOf_get (s : ByteArray) (i : Nat) (h : i < s.size) : (bytesOf s)[i]? = some (bt s i) := by
  unfold bytesOf bt
  have h1 : i < s.data.toList.length := h
  simp only [List.getElem?_map, Int.toNat_natCast, h, dif_pos]
  rw [List.getElem?_eq_getElem h1]
  rfl
theorem lets_step (s : ByteArray) (i : Nat) (h : i < s.size) : lets ((bytesOf s).take (i + 1)) = lets ((bytesOf s).take i) ++ (if isLI (bt s i) = true then [bt s i] else []) := by
  unfold lets
  rw [List.take_add_one, bytesOf_get s i h, List.filter_append]
  cases hb : isLI (bt s i) <;> simp [hb]
theorem lets_stop (l : List Int) (i : Nat) (h : l.length ≤ i ∨ (lets (l.take i)).length = 20) (h2 : (lets (l.take i)).length ≤ 20) : (lets l).take 20 = lets (l.take i) := by
  rcases h with h | h
  · rw [List.take_of_length_le h] at h2 ⊢
    exact List.take_of_length_le h2
  · have e : lets l = lets (l.take i) ++ lets (l.drop i) := by
      unfold lets
      rw [← List.filter_append, List.take_append_drop]
    rw [e, List.take_append_of_le_length (by omega), List.take_of_length_le (by omega)]
theorem extract_one (s : ByteArray) (i : Nat) (h : i < s.size) : (s.extract i (i + 1)).size = 1 ∧ bt (s.extract i (i + 1)) 0 = bt s i := by
  have h1 : (s.extract i (i + 1)).size = 1 := by rw [ByteArray.size_extract]; omega
  refine ⟨h1, ?_⟩
  have h2 := bytesOf_get (s.extract i (i + 1)) 0 (by omega)
  have h3 := bytesOf_get s i h
  unfold bytesOf at h2 h3
  have h4 : (s.extract i (i + 1)).data.toList = (s.data.toList.drop i).take (i + 1 - i) := by
    rw [ByteArray.data_extract, Array.toList_extract]
  rw [h4] at h2
  simp only [List.getElem?_map, List.getElem?_take, List.getElem?_drop] at h2 h3
  rw [if_pos (by omega)] at h2
  rw [Nat.add_zero, h3] at h2
  exact (Option.some.inj h2).symm

theorem info5 : (Tryd.prog.info? 5).map (fun i => (i.zero, i.size, i.bytes)) = some (some (.int .u8 0), (Kd.int .u8).sz, 1) := by kernel_rfl

set_option maxHeartbeats 1000000 in
set_option maxRecDepth 100000 in
theorem refLetters (s : ByteArray) (hs : s.size ≤ 2147483647) (w : World) :
    Calls Tryd.prog 8 #[.string s] w fun e w' => e = .returned (.string (letters s)) ∧ Below w.heap.size w w' := by
  go_enter Tryd.func8, Tryd.ntmps8
  go_wp2
  go_loopw [3, 4] (fun v i wr => ∃ k : Nat, k ≤ s.size ∧ i = .int .i64 (k : Int) ∧ Aside0 (Kd.R (Kd.int .u8) 5 wr w.heap.size (fun _ => True) v (lets ((bytesOf s).take k))) ∧ Aside0 ((lets ((bytesOf s).take k)).length ≤ 20) ∧ Aside0 (Below w.heap.size w wr))
    (fun _ i _ => s.size - (intOf i).toNat)
  case atStart => exact ⟨0, Nat.zero_le _, rfl, ⟨Kd.R_nil _ _ _ _ _⟩, ⟨Nat.zero_le _⟩, ⟨Below.refl _ _⟩⟩
  case round =>
    obtain ⟨k, hk, rfl, HO, HL, HB⟩ := hrel
    obtain ⟨A, cap, hA⟩ := Kd.R_slice HO.out
    subst hA
    by_cases hlt : k < s.size
    · by_cases hl : (lets ((bytesOf s).take k)).length < 20
      · obtain ⟨e1, e2⟩ := extract_one s k hlt
        have c1 : (k : Int) < (s.size : Int) := by omega
        have c2 : ((lets ((bytesOf s).take k)).length : Int) < 20 := by omega
        have c3 : (k : Int) + 1 ≤ (s.size : Int) := by omega
        have c4 : k + 1 ≤ s.size := by omega
        have c5 : (0 : Int) ≤ (k : Int) := by omega
        have c6 : (k : Int) ≤ (k : Int) + 1 := by omega
        have E1 := Aside0.mk e1
        have E2 := Aside0.mk e2
        clear e1 e2
        have hx : ∀ h : k < s.size, ((s[k]'h).toNat : Int) = bt s (k : Int) := fun h => by simp [bt, h]
        have cP := refPlain_one (s.extract k (k + 1)) E1.out wr
        rw [E2.out] at cP
        have hst := lets_step s k hlt
        have HP := Aside0.mk cP
        clear cP
        cases hb : isLI (bt s (k : Int))
        · rw [hb] at hst
          have HB0 := Aside0.mk hb
          have HST := Aside0.mk hst
          clear hb hst
          go_wp2_with (go_at_call 15; refine HP.out.mono ?_; rw [HB0.out]; rintro e w' ⟨rfl, ⟨nd, rfl⟩⟩)
          go_roundw
          case rel =>
            refine ⟨k + 1, by omega, by go_num, ⟨?_⟩, ⟨?_⟩, ⟨pw_below_drewN HB.out _⟩⟩
            · rw [HST.out]
              simp only [Bool.false_eq_true, if_false, List.append_nil]
              exact Kd.R_drewN HO.out _
            · rw [HST.out]
              simpa using HL.out
          case measure => simp [intOf]; omega
        · rw [hb] at hst
          have HB0 := Aside0.mk hb
          have HST := Aside0.mk hst
          clear hb hst
          go_wp2_with (first
            | (go_at_call 15; refine HP.out.mono ?_; rw [HB0.out]; rintro e w' ⟨rfl, ⟨nd, rfl⟩⟩)
            | (at_builtin; refine Kd.R_append (Kd.int .u8) (w0 := w) w.heap.size rfl (.tmp 22) (.tmp 26) 32 5 (.int .u8 0) 1 rfl Tryd.underlying32 info5 rfl (by decide) (by omega) _ (lets ((bytesOf s).take k)) (bt s (k : Int)) [.int .u8 (bt s (k : Int))] (fun _ => True) (fun _ => False) rfl rfl ?aP (fun _ hk => hk.elim) ?aF ?aO ?aB ?aS ?aL ?_; (case aP => exact rfl); (case aF => exact (fun _ _ => trivial)); (case aO => exact Kd.R_drewN HO.out _); (case aB => exact pw_below_drewN HB.out _); (case aS => exact below_size (pw_below_drewN HB.out _)); (case aL => omega); intro v1 w1 ho hb1 hg hat; have n0 := Aside0.mk hb1; have n1 := Aside0.mk ho; clear ho hb1 hg hat))
          go_roundw
          case rel =>
            refine ⟨k + 1, by omega, by go_num, ⟨?_⟩, ⟨?_⟩, n0⟩
            · rw [HST.out]
              exact n1.out
            · rw [HST.out, List.length_append]
              simp
              omega
          case measure => simp [intOf]; omega
      · have hfin := lets_stop (bytesOf s) k (.inr (by have := HL.out; omega)) HL.out
        have hne : ¬ (lets ((bytesOf s).take k)).length = 0 := by omega
        have hr : letters s = strOfNums (lets ((bytesOf s).take k)) := by unfold letters; rw [hfin, if_neg hne]
        have c1 : (k : Int) < (s.size : Int) := by omega
        have c2 : ¬ ((lets ((bytesOf s).take k)).length : Int) < 20 := by omega
        have c3 : (((lets ((bytesOf s).take k)).length : Int) == 0) = false := beq_eq_false_iff_ne.2 (by omega)
        have hcv := own_string (P := Tryd.prog) Tryd.underlying32 Tryd.underlying5 Tryd.underlying9 (Kd.own_of_R HO.out)
        have HR := Aside0.mk hr
        clear hr hfin hne
        go_wp2
        go_ret
        exact ⟨by rw [HR.out]; rfl, HB.out⟩
    · have hfin := lets_stop (bytesOf s) k (.inl (by rw [bytesOf_length]; omega)) HL.out
      have c1 : ¬ (k : Int) < (s.size : Int) := by omega
      by_cases hne : (lets ((bytesOf s).take k)).length = 0
      · have hr : letters s = ⟨#[120]⟩ := by unfold letters; rw [hfin, if_pos hne]
        have c3 : (((lets ((bytesOf s).take k)).length : Int) == 0) = true := beq_iff_eq.2 (by omega)
        have HR := Aside0.mk hr
        clear hr hfin hne
        go_wp2
        go_ret
        exact ⟨by rw [HR.out]; rfl, HB.out⟩
      · have hr : letters s = strOfNums (lets ((bytesOf s).take k)) := by unfold letters; rw [hfin, if_neg hne]
        have c3 : (((lets ((bytesOf s).take k)).length : Int) == 0) = false := beq_eq_false_iff_ne.2 (by omega)
        have hcv := own_string (P := Tryd.prog) Tryd.underlying32 Tryd.underlying5 Tryd.underlying9 (Kd.own_of_R HO.out)
        have HR := Aside0.mk hr
        clear hr hfin hne
        go_wp2
        go_ret
        exact ⟨by rw [HR.out]; rfl, HB.out⟩
end Go.Proofs.YtjefbpfpobgmaaaDoor.Plain
