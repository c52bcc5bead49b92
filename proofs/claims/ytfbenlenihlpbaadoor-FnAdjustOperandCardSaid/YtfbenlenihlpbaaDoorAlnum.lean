/- The walks of a sheet's name of ASCII letters and digits: it is written as it is. Conditions: the letters' and digits' entries of the table unicode.properties are as the program's text lays them. -/
import Derived.Test.YtfbenlenihlpbaaDoorWMore
import Derived.Test.YtfbenlenihlpbaaDoorTac
import Derived.Lib.OthersKept
import Derived.Deep.LoopGhost
import Derived.Laws.RangeString
namespace Go.Proofs.YtfbenlenihlpbaaDoor.Alnum
open Go.RowKit Go.Proofs.YtfbenlenihlpbaaDoorW.PrintWords Go.Proofs.YtfbenlenihlpbaaDoorW.PrintLast Go.Proofs.YtfbenlenihlpbaaDoorW.PrintMore
set_option linter.unusedVariables false
set_option linter.unusedSimpArgs false

def isL (c : Nat) : Prop := (65 ≤ c ∧ c ≤ 90) ∨ (97 ≤ c ∧ c ≤ 122)
def isA (c : Nat) : Prop := (48 ≤ c ∧ c ≤ 57) ∨ isL c
/-- What is asked of the table unicode.properties: its cells at the letters and digits. -/
def Props (w : World) : Prop := 4 < w.heap.size ∧ ∀ c : Nat, isA c → w.cell? ⟨4, c, none⟩ = some (.int .u8 (if c ≤ 57 then 132 else if c ≤ 90 then 160 else 192))
theorem Props.below {w w' : World} (h : Props w) (hb : Below w.heap.size w w') : Props w' := ⟨Nat.lt_of_lt_of_le h.1 hb.size, fun c hc => by rw [hb.cell h.1]; exact h.2 c hc⟩

set_option maxRecDepth 100000 in
theorem isLetter (c : Nat) (hc : isL c) (w : World) (hp : Props w) :
    Calls Tryd.prog 96 #[.int .i32 (c : Int)] w fun e w' => e = .returned (.bool true) ∧ Drawn0 w w' := by
  have h0 := hp.2 c (.inr hc)
  clear hp
  have hc2 : 65 ≤ c ∧ c ≤ 122 := by unfold isL at hc; omega
  have hlt : c < 256 := by omega
  rw [if_neg (by omega)] at h0
  by_cases h : c ≤ 90
  · rw [if_pos h] at h0
    go_enter Tryd.func96, Tryd.ntmps96
    go_wp2
    go_ret
    exact ⟨by rfl, Drawn0.refl _⟩
  · rw [if_neg h] at h0
    go_enter Tryd.func96, Tryd.ntmps96
    go_wp2
    go_ret
    exact ⟨by rfl, Drawn0.refl _⟩
set_option maxRecDepth 100000 in
theorem notLetter (c : Nat) (hc : 48 ≤ c ∧ c ≤ 57) (w : World) (hp : Props w) :
    Calls Tryd.prog 96 #[.int .i32 (c : Int)] w fun e w' => e = .returned (.bool false) ∧ Drawn0 w w' := by
  have h0 := hp.2 c (.inl hc)
  clear hp
  have hlt : c < 256 := by omega
  rw [if_pos (by omega)] at h0
  go_enter Tryd.func96, Tryd.ntmps96
  go_wp2
  go_ret
  exact ⟨by rfl, Drawn0.refl _⟩
set_option maxRecDepth 100000 in
theorem isNumber (c : Nat) (hc : 48 ≤ c ∧ c ≤ 57) (w : World) (hp : Props w) :
    Calls Tryd.prog 97 #[.int .i32 (c : Int)] w fun e w' => e = .returned (.bool true) ∧ Drawn0 w w' := by
  have h0 := hp.2 c (.inl hc)
  clear hp
  have hlt : c < 256 := by omega
  rw [if_pos (by omega)] at h0
  go_enter Tryd.func97, Tryd.ntmps97
  go_wp2
  go_ret
  exact ⟨by rfl, Drawn0.refl _⟩
theorem closure (c : Nat) (hc : isA c) (w : World) (hp : Props w) :
    Calls Tryd.prog 95 #[.int .i32 (c : Int)] w fun e w' => e = .returned (.bool false) ∧ Drawn0 w w' := by
  have H := Aside0.mk hp
  clear hp
  rcases hc with hc | hc
  · go_enter Tryd.func95, Tryd.ntmps95
    go_wp2_with (first | (go_at_call 96; refine (notLetter c hc _ H.out).mono ?_; rintro e w' ⟨rfl, ⟨nd, rfl⟩⟩) | (go_at_call 97; refine (isNumber c hc _ (H.out.below (pw_below_drewN (Below.refl _ _) _))).mono ?_; rintro e w' ⟨rfl, ⟨nd2, rfl⟩⟩))
    go_ret
    exact ⟨by rfl, by repeat (first | exact Drawn0.refl _ | apply Drawn0.step)⟩
  · go_enter Tryd.func95, Tryd.ntmps95
    go_wp2_with (go_at_call 96; refine (isLetter c hc _ H.out).mono ?_; rintro e w' ⟨rfl, ⟨nd, rfl⟩⟩)
    go_ret
    exact ⟨by rfl, by repeat (first | exact Drawn0.refl _ | apply Drawn0.step)⟩

/-- All bytes are letters or digits. -/
def AllL (s : ByteArray) : Prop := ∀ i (h : i < s.size), isA (s[i]'h).toNat

set_option maxHeartbeats 2000000 in
set_option maxRecDepth 1000000 in
theorem indexFunc (s : ByteArray) (hs : AllL s) (w : World) (hp : Props w) :
    Calls Tryd.prog 108 #[.string s, .func (.func 95) #[] #[], .bool true] w fun e w' => e = .returned (.int .i64 (-1)) ∧ Below w.heap.size w w' := by
  have HP := Aside0.mk hp
  have HS := Aside0.mk hs
  clear hp hs
  go_enter Tryd.func108, Tryd.ntmps108
  go_wp2
  go_loopg [] s.size (fun gf wx => ∃ pos : Nat, Aside0 (wx.heap[w.heap.size]? = some (.stringIter s pos)) ∧ Aside0 (Below w.heap.size w wx) ∧ s.size ≤ pos + gf)
  case atStart => exact ⟨0, ⟨World.iter_heap w s 0⟩, ⟨(Below.refl _ w).alloc (Nat.le_refl _) _⟩, by omega⟩
  case round =>
    obtain ⟨pos, hit, hbw, hfu⟩ := hrel
    by_cases hps : pos < s.size
    · obtain ⟨g', rfl⟩ : ∃ g', gk = g' + 1 := ⟨gk - 1, by omega⟩
      have hl := HS.out pos hps
      obtain ⟨c, hc⟩ : ∃ c, (s[pos]'hps).toNat = c := ⟨_, rfl⟩
      rw [hc] at hl
      have hdec : Utf8.decode s pos = (c, 1) := by rw [decode_ascii s pos hps (by rw [hc]; unfold isA isL at hl; omega), hc]
      have hnx : ∀ ty, (Instr.next (.pointer (some ⟨w.heap.size, 0, none⟩)) true ty).run Tryd.prog wr = _ := fun ty => Lib.run_next_any_at wr w.heap.size s pos ty hit.out hps
      rw [hdec] at hnx
      have hit2 := Lib.iterAt_heap wr w.heap.size s pos (pos + 1) hit.out
      have hbw2 := Lib.below_iterAt hbw.out (k := w.heap.size) (Nat.le_refl _) s (pos + 1)
      obtain ⟨W, hWd⟩ : ∃ W, wr.iterAt w.heap.size s (pos + 1) = W := ⟨_, rfl⟩
      simp only [] at hnx
      rw [hWd] at hnx hit2 hbw2
      have HL := Aside0.mk hl
      have I2 := Aside0.mk hit2
      have B2 := Aside0.mk hbw2
      clear hl hdec hit hit2 hbw hbw2 hWd hc
      go_wp2_with (go_at_call 95; refine (closure c HL.out _ (HP.out.below B2.out)).mono ?_; rintro e w' ⟨rfl, ⟨nd, rfl⟩⟩)
      go_roundg g'
      case measure => omega
      case rel => exact ⟨pos + 1, I2, ⟨pw_below_drewN B2.out _⟩, by omega⟩
    · have hnx : ∀ ty, (Instr.next (.pointer (some ⟨w.heap.size, 0, none⟩)) true ty).run Tryd.prog wr = _ := fun ty => Lib.run_next_end_at wr w.heap.size s pos ty hit.out hps
      go_wp2
      go_ret
      exact ⟨by rfl, hbw.out⟩

theorem indexFuncTop (s : ByteArray) (hs : AllL s) (w : World) (hp : Props w) :
    Calls Tryd.prog 94 #[.string s, .func (.func 95) #[] #[]] w fun e w' => e = .returned (.int .i64 (-1)) ∧ Below w.heap.size w w' := by
  have HP := Aside0.mk hp
  have HS := Aside0.mk hs
  clear hp hs
  go_enter Tryd.func94, Tryd.ntmps94
  go_wp2_with (go_at_call 108; refine (indexFunc s HS.out _ HP.out).mono ?_; rintro e w' ⟨rfl, hb⟩; have HB := Aside0.mk hb; clear hb)
  go_ret
  exact ⟨by rfl, HB.out⟩
set_option maxRecDepth 100000 in
theorem escape (s : ByteArray) (hs : AllL s) (w : World) (hp : Props w) :
    Calls Tryd.prog 77 #[.string s] w fun e w' => e = .returned (.string s) ∧ Below w.heap.size w w' := by
  have HP := Aside0.mk hp
  have HS := Aside0.mk hs
  clear hp hs
  go_enter Tryd.func77, Tryd.ntmps77
  go_wp2_with (go_at_call 94; refine (indexFuncTop s HS.out _ HP.out).mono ?_; rintro e w' ⟨rfl, hb⟩; have HB := Aside0.mk hb; clear hb)
  go_ret
  exact ⟨by rfl, HB.out⟩
end Go.Proofs.YtfbenlenihlpbaaDoor.Alnum
