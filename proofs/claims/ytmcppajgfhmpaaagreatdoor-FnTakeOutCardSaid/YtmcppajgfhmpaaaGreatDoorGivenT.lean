/- Contracts given by hand to the printed texts: the call of the law's own probe, and the library's numeral, join and trimming, each under a plain Lean function. No conditions. -/
import Derived.Test.YtmcppajgfhmpaaaGreatDoorCellC
import Derived.Test.YtmcppajgfhmpaaaGreatDoorShMore
namespace Go.Proofs.YtmcppajgfhmpaaaGreatDoor.GivenT
open Go.RowKit Go.Proofs.YtmcppajgfhmpaaaGreatDoorW.PrintWords Go.Proofs.YtmcppajgfhmpaaaGreatDoorW.PrintLast Go.Proofs.YtmcppajgfhmpaaaGreatDoorW.PrintMore

/-- The law's own probe of the program: true. -/
def laws_refLives.f : Option Bool := some true
theorem laws_refLives.calls (r : Bool) (w : World) (h : laws_refLives.f = some r) :
    Calls Tryz.prog 5 #[] w fun e w' => e = .returned (.bool r) ∧ Below w.heap.size w w' := by
  obtain rfl : true = r := Option.some.inj h
  exact CellC.refLives w

/-- A numeral of at most two digits. -/
def itoa (n : Int) : ByteArray := ⟨(Lib.decDigits n.toNat).toArray⟩
def strconv_Itoa.f (n : Int) : Option ByteArray := if 0 ≤ n ∧ n < 100 then some (itoa n) else none
theorem strconv_Itoa.calls (a0 : Int) (r : ByteArray) (w : World) (h : strconv_Itoa.f a0 = some r) :
    Calls Tryz.prog 99 #[.int .i64 a0] w fun e w' => e = .returned (.string r) ∧ Drawn0 w w' := by
  unfold strconv_Itoa.f at h
  split at h
  · rename_i hn
    obtain rfl : itoa a0 = r := Option.some.inj h
    have := Tryz.strconv_Itoa_small a0.toNat (by omega) w
    rw [Int.toNat_of_nonneg hn.1] at this
    exact this.mono fun e w' ⟨he, hw⟩ => ⟨he, by subst hw; exact Drawn0.refl _⟩
  · cases h

def joined (xs : List ByteArray) (sep : ByteArray) : ByteArray := ⟨(Lib.join (xs.map (·.data.toList)) sep.data.toList).toArray⟩
def strings_Join.f (xs : List ByteArray) (sep : ByteArray) : Option ByteArray := if xs.length ≤ 100000 ∧ (joined xs sep).size ≤ 100000000 then some (joined xs sep) else none
theorem strings_Join.calls (A0 : Option Addr) (c0 : Nat) (l0 : List ByteArray) (a1 : ByteArray) (r : ByteArray) (w : World) (hr0 : Kd.C Kd.string w A0 l0.length l0) (hc0 : l0.length ≤ c0) (h : strings_Join.f l0 a1 = some r) :
    Calls Tryz.prog 39 #[.slice A0 l0.length c0, .string a1] w fun e w' => e = .returned (.string r) ∧ Below w.heap.size w w' := by
  unfold strings_Join.f at h
  split at h
  · rename_i hn
    obtain rfl : joined l0 a1 = r := Option.some.inj h
    rcases Nat.eq_zero_or_pos l0.length with h0 | h0
    · obtain rfl : l0 = [] := List.eq_nil_of_length_eq_zero h0
      exact (Tryz.strings_Join_none A0 c0 a1 w).mono fun e w' ⟨he, hw⟩ => ⟨he, by subst hw; exact Below.refl _ _⟩
    · have hr := Kd.reads_of_C (enc := Value.string) (d := ByteArray.empty) (h1 := fun _ => rfl) hr0
      obtain ⟨ad, rfl, hc⟩ := hr.2.2 h0
      obtain ⟨bk, o, sp⟩ := ad
      have h00 : w.cell? ⟨bk, o, sp⟩ = some _ := hc 0 h0
      have hsp : sp = none := by
        cases sp with
        | none => rfl
        | some q => simp [World.cell?] at h00; split at h00 <;> cases h00
      subst hsp
      have hbk : bk < w.heap.size := by
        rcases Nat.lt_or_ge bk w.heap.size with hb | hb
        · exact hb
        · simp [World.cell?, Array.getElem?_eq_none hb] at h00
      refine Tryz.strings_Join bk o c0 l0 a1 w (fun j x hx => ?_) hbk (by omega) hc0 ?_
      · obtain ⟨hj, hx⟩ := List.getElem?_eq_some_iff.1 hx
        have := hc j hj
        rw [List.getD_eq_getElem?_getD, List.getElem?_eq_getElem hj, hx] at this
        rcases Nat.eq_zero_or_pos j with rfl | hp
        · exact this
        · unfold Addr.add at this
          rwa [if_neg (by omega)] at this
      · have : (joined l0 a1).size = (Lib.join (l0.map (·.data.toList)) a1.data.toList).length := by simp [joined, ByteArray.size]
        omega
  · cases h

end Go.Proofs.YtmcppajgfhmpaaaGreatDoor.GivenT
