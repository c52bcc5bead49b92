/- Walks towards the package's reading of a cell's name, part 1: the search for its letters. For names of capital letters and digits. -/
import Derived.Test.YtmcppajgfhmpaaaGreatDoorProg
import Derived.Test.YtmcppajgfhmpaaaGreatDoorWMore
import Derived.Lib.OthersKept
import Derived.Deep.LoopGhost
namespace Go.Proofs.YtmcppajgfhmpaaaGreatDoor.CellA
open Go.RowKit Go.Proofs.YtmcppajgfhmpaaaGreatDoorW.PrintWords Go.Proofs.YtmcppajgfhmpaaaGreatDoorW.PrintLast Go.Proofs.YtmcppajgfhmpaaaGreatDoorW.PrintMore

theorem closure_yes (c : Nat) (h : 65 ≤ c) (h2 : c ≤ 90) (w : World) :
    Calls Tryz.prog 90 #[.int .i32 (c : Int)] w fun e w' => e = .returned (.bool true) ∧ Drawn0 w w' := by
  have c1 : decide (65 ≤ c) = true := decide_eq_true h
  have c2 : decide (c ≤ 90) = true := decide_eq_true h2
  go_enter Tryz.func90, Tryz.ntmps90
  go_wp2
  go_ret
  exact ⟨by rfl, Drawn0.refl _⟩
theorem closure_no (c : Nat) (h : 48 ≤ c) (h2 : c ≤ 57) (w : World) :
    Calls Tryz.prog 90 #[.int .i32 (c : Int)] w fun e w' => e = .returned (.bool false) ∧ Drawn0 w w' := by
  have c1 : decide (65 ≤ c) = false := decide_eq_false (by omega)
  have c2 : decide (97 ≤ c) = false := decide_eq_false (by omega)
  have c3 : ((c : Int) == 36) = false := beq_eq_false_iff_ne.2 (by omega)
  go_enter Tryz.func90, Tryz.ntmps90
  go_wp2
  go_ret
  exact ⟨by rfl, Drawn0.refl _⟩

set_option maxHeartbeats 2000000 in
set_option maxRecDepth 1000000 in
/-- A text that begins with a capital letter: its first letter is at 0. -/
theorem indexFunc (s : ByteArray) (h0 : 0 < s.size) (h1 : 65 ≤ (s[0]'h0).toNat) (h2 : (s[0]'h0).toNat ≤ 90) (w : World) :
    Calls Tryz.prog 113 #[.string s, .func (.func 90) #[] #[], .bool true] w fun e w' => e = .returned (.int .i64 0) ∧ Below w.heap.size w w' := by
  obtain ⟨c, hc⟩ : ∃ c, (s[0]'h0).toNat = c := ⟨_, rfl⟩
  rw [hc] at h1 h2
  have hdec : Utf8.decode s 0 = (c, 1) := by rw [decode_ascii s 0 h0 (by rw [hc]; omega), hc]
  have hnx : ∀ ty, (Instr.next (.pointer (some ⟨w.heap.size, 0, none⟩)) true ty).run Tryz.prog (w.iter s 0) = _ := fun ty => Lib.run_next_any_at (w.iter s 0) w.heap.size s 0 ty (World.iter_heap w s 0) h0
  rw [hdec] at hnx
  have hbw2 := Lib.below_iterAt ((Below.refl w.heap.size w).alloc (Nat.le_refl _) (.stringIter s 0)) (k := w.heap.size) (Nat.le_refl _) s (0 + 1)
  obtain ⟨W, hWd⟩ : ∃ W, (w.iter s 0).iterAt w.heap.size s (0 + 1) = W := ⟨_, rfl⟩
  have hWd' : (w.alloc (.stringIter s 0)).iterAt w.heap.size s (0 + 1) = W := hWd
  simp only [] at hnx
  rw [hWd'] at hbw2
  rw [hWd] at hnx
  have B2 := Aside0.mk hbw2
  have H1 := Aside0.mk h1
  have H2 := Aside0.mk h2
  clear hdec hbw2 hWd hWd' hc h1 h2
  go_enter Tryz.func113, Tryz.ntmps113
  go_wp2
  refine wp_loop_rounds 1 ?_
  rw [rounds_succ]
  go_wp2_with (go_at_call 90; refine (closure_yes c H1.out H2.out _).mono ?_; rintro e w' ⟨rfl, ⟨nd, rfl⟩⟩)
  go_ret
  exact ⟨by rfl, pw_below_drewN B2.out _⟩
theorem indexFuncTop (s : ByteArray) (h0 : 0 < s.size) (h1 : 65 ≤ (s[0]'h0).toNat) (h2 : (s[0]'h0).toNat ≤ 90) (w : World) :
    Calls Tryz.prog 91 #[.string s, .func (.func 90) #[] #[]] w fun e w' => e = .returned (.int .i64 0) ∧ Below w.heap.size w w' := by
  have H1 := Aside0.mk h1
  have H2 := Aside0.mk h2
  clear h1 h2
  go_enter Tryz.func91, Tryz.ntmps91
  go_wp2_with (go_at_call 113; refine (indexFunc s h0 H1.out H2.out _).mono ?_; rintro e w' ⟨rfl, hb⟩; have HB := Aside0.mk hb; clear hb)
  go_ret
  exact ⟨by rfl, HB.out⟩

set_option maxRecDepth 100000 in
/-- The last rune of a text whose last byte is ASCII. -/
theorem decodeLast (t : ByteArray) (n : Nat) (hs : n ≤ 2147483647) (hn : t.size = n + 1) (c : Nat) (hc : bt t (n : Int) = (c : Int)) (h : c < 128) (w : World) :
    Calls Tryz.prog 123 #[.string t] w fun e w' => e = .returned (.tuple #[.int .i32 (c : Int), .int .i64 1]) ∧ Drawn0 w w' := by
  have hx : ∀ h : n < t.size, ((t[n]'h).toNat : Int) = (c : Int) := fun h => by rw [← hc]; simp [bt, h]
  have h1 : ((t.size : Int) == 0) = false := beq_eq_false_iff_ne.2 (by omega)
  have h2 : (t.size : Int) - 1 = (n : Int) := by omega
  have h3 : (0 : Int) ≤ (n : Int) := by omega
  have h4 : (n : Int) < (t.size : Int) := by omega
  have h5 : n < t.size := by omega
  have h6 : t.size - 1 = n := by omega
  have h7 : decide (c < 128) = true := decide_eq_true h
  have h8 : (c : Int) < 128 := by omega
  clear hn hc
  go_enter Tryz.func123, Tryz.ntmps123
  go_wp2
  go_ret2
  exact ⟨by rfl, Drawn0.refl _⟩

set_option maxHeartbeats 2000000 in
set_option maxRecDepth 100000 in
/-- The last letter of n letters (the last one a capital letter) and digits behind them: at n - 1. -/
theorem lastIndexFunc (s : ByteArray) (n : Nat) (hn : n + 1 ≤ s.size) (hb : ∃ c : Nat, bt s (n : Int) = (c : Int) ∧ 65 ≤ c ∧ c ≤ 90)
    (hd : ∀ i : Nat, n < i → i < s.size → ∃ c : Nat, bt s (i : Int) = (c : Int) ∧ 48 ≤ c ∧ c ≤ 57) (hs : s.size ≤ 2147483647) (w : World) :
    Calls Tryz.prog 114 #[.string s, .func (.func 90) #[] #[], .bool true] w fun e w' => e = .returned (.int .i64 (n : Int)) ∧ Drawn0 w w' := by
  have HB := Aside0.mk hb
  have HD := Aside0.mk hd
  clear hb hd
  go_enter Tryz.func114, Tryz.ntmps114
  go_wp2
  go_loopw [7] (fun i wr => ∃ j : Nat, n ≤ j ∧ j < s.size ∧ i = .int .i64 ((j : Int) + 1) ∧ Drawn0 w wr) (fun i _ => (intOf i).toNat)
  case atStart => exact ⟨s.size - 1, by omega, by omega, by rw [show ((s.size - 1 : Nat) : Int) + 1 = (s.size : Int) from by omega], Drawn0.refl _⟩
  case round =>
    obtain ⟨j, hk0, hk, rfl, ⟨nd0, rfl⟩⟩ := hrel
    have q1 : (0 : Int) < (j : Int) + 1 := by omega
    have q2 : (j : Int) + 1 ≤ (s.size : Int) := by omega
    have q3 : (0 : Int) ≤ (j : Int) + 1 := by omega
    have q4 : j + 1 ≤ s.size := by omega
    have q5 : (j : Int) + 1 - 1 = (j : Int) := by omega
    have he : (s.extract 0 (j + 1)).size = j + 1 := by rw [ByteArray.size_extract]; omega
    have hbt : bt (s.extract 0 (j + 1)) (j : Int) = bt s (j : Int) := by
      unfold bt
      simp only [Int.toNat_natCast]
      rw [dif_pos (by rw [he]; omega), dif_pos hk]
      congr 2
      rw [ByteArray.getElem_extract]
      simp
    have HE := Aside0.mk he
    have HT := Aside0.mk hbt
    clear he hbt
    by_cases hjn : j = n
    · subst hjn
      obtain ⟨c, hc, hc1, hc2⟩ := HB.out
      have HC := Aside0.mk hc
      clear hc
      go_wp2_with (first
        | (go_at_call 123; refine (decodeLast _ j (by omega) HE.out c (HT.out.trans HC.out) (by omega) _).mono ?_; rintro e w1 ⟨rfl, ⟨nd, rfl⟩⟩)
        | (go_at_call 90; refine (closure_yes c hc1 hc2 _).mono ?_; rintro e w2 ⟨rfl, ⟨nd2, rfl⟩⟩))
      go_ret
      exact ⟨by rfl, by repeat (first | exact Drawn0.refl _ | apply Drawn0.step)⟩
    · obtain ⟨c, hc, hc1, hc2⟩ := HD.out j (by omega) hk
      have HC := Aside0.mk hc
      clear hc
      go_wp2_with (first
        | (go_at_call 123; refine (decodeLast _ j (by omega) HE.out c (HT.out.trans HC.out) (by omega) _).mono ?_; rintro e w1 ⟨rfl, ⟨nd, rfl⟩⟩)
        | (go_at_call 90; refine (closure_no c hc1 hc2 _).mono ?_; rintro e w2 ⟨rfl, ⟨nd2, rfl⟩⟩))
      go_roundw
      case rel =>
        exact ⟨j - 1, by omega, by omega, by rw [show ((j - 1 : Nat) : Int) + 1 = (j : Int) from by omega], by repeat (first | exact Drawn0.refl _ | apply Drawn0.step)⟩
      case measure => simp [intOf]
theorem lastIndexFuncTop (s : ByteArray) (n : Nat) (hn : n + 1 ≤ s.size) (hb : ∃ c : Nat, bt s (n : Int) = (c : Int) ∧ 65 ≤ c ∧ c ≤ 90)
    (hd : ∀ i : Nat, n < i → i < s.size → ∃ c : Nat, bt s (i : Int) = (c : Int) ∧ 48 ≤ c ∧ c ≤ 57) (hs : s.size ≤ 2147483647) (w : World) :
    Calls Tryz.prog 92 #[.string s, .func (.func 90) #[] #[]] w fun e w' => e = .returned (.int .i64 (n : Int)) ∧ Drawn0 w w' := by
  have HB := Aside0.mk hb
  have HD := Aside0.mk hd
  clear hb hd
  go_enter Tryz.func92, Tryz.ntmps92
  go_wp2_with (go_at_call 114; refine (lastIndexFunc s n hn HB.out HD.out hs _).mono ?_; rintro e w' ⟨rfl, ⟨nd, rfl⟩⟩)
  go_ret
  exact ⟨by rfl, by repeat (first | exact Drawn0.refl _ | apply Drawn0.step)⟩
end Go.Proofs.YtmcppajgfhmpaaaGreatDoor.CellA
