/- The law FnDays: for every year and every number, the package's number of days of the month (of February, if the number is none of a month) is the reference's; the table that the package reads is tied to the program's text (the card). -/
import Derived.Test.YtjefbpfpobgmaaaDoorCards
import Derived.Test.YtjefbpfpobgmaaaDoorTie
import Derived.Test.YtjefbpfpobgmaaaDoorDaysWalks
import Derived.ProofKit
import Derived.OpenShut
import Derived.LaidMore
import Derived.Stop.Joined
import Derived.SevenTiedAt
namespace Go.Proofs.YtjefbpfpobgmaaaDoor.DaysProof
open Go.ChangeShapes Go.WideShapes Go.ChangeAt Go.RowKit
open Go.Proofs.YtjefbpfpobgmaaaDoor.PFnDays Go.Proofs.YtjefbpfpobgmaaaDoor.DaysWalks

theorem w64 (x : Int) (h : -9223372036854775808 ≤ x) (h2 : x ≤ 9223372036854775807) : wrap64 x = x := by unfold wrap64; omega
def leap (y : Int) : Bool := decide (y % 4 = 0 ∧ (y % 100 ≠ 0 ∨ y % 400 = 0))
theorem back400 (y : Int) (h0 : -9223372036854775808 ≤ y) (h1 : y ≤ 9223372036854775807) : y = wrap64 (wrap64 (Int.tdiv y 400) * 400) ↔ y % 400 = 0 := by
  rw [tdiv_eq_if]
  split
  · rw [w64 (y / 400) (by omega) (by omega), w64 _ (by omega) (by omega)]; omega
  · rw [w64 (-((-y) / 400)) (by omega) (by omega), w64 _ (by omega) (by omega)]; omega
theorem back100 (y : Int) (h0 : -9223372036854775808 ≤ y) (h1 : y ≤ 9223372036854775807) : y = wrap64 (wrap64 (Int.tdiv y 100) * 100) ↔ y % 100 = 0 := by
  rw [tdiv_eq_if]
  split
  · rw [w64 (y / 100) (by omega) (by omega), w64 _ (by omega) (by omega)]; omega
  · rw [w64 (-((-y) / 100)) (by omega) (by omega), w64 _ (by omega) (by omega)]; omega
theorem back4 (y : Int) (h0 : -9223372036854775808 ≤ y) (h1 : y ≤ 9223372036854775807) : y = wrap64 (wrap64 (Int.tdiv y 4) * 4) ↔ y % 4 = 0 := by
  rw [tdiv_eq_if]
  split
  · rw [w64 (y / 4) (by omega) (by omega), w64 _ (by omega) (by omega)]; omega
  · rw [w64 (-((-y) / 4)) (by omega) (by omega), w64 _ (by omega) (by omega)]; omega
theorem isLeap_eq (y : Int) (h0 : -9223372036854775808 ≤ y) (h1 : y ≤ 9223372036854775807) : excelize_isLeapYear.f y = some (leap y) := by
  unfold excelize_isLeapYear.f leap
  by_cases a : y % 400 = 0
  · rw [if_pos ((back400 y h0 h1).2 a), decide_eq_true ⟨by omega, .inr a⟩]
  · rw [if_neg (fun e => a ((back400 y h0 h1).1 e))]
    by_cases b : y % 100 = 0
    · rw [if_pos ((back100 y h0 h1).2 b), decide_eq_false (by omega)]
    · rw [if_neg (fun e => b ((back100 y h0 h1).1 e))]
      by_cases c : y % 4 = 0
      · rw [decide_eq_true ⟨c, .inl b⟩, beq_iff_eq.2 ((back4 y h0 h1).2 c)]
      · rw [decide_eq_false (by omega), beq_eq_false_iff_ne.2 (fun e => c ((back4 y h0 h1).1 e))]
theorem tmod_zero (y n : Int) : Int.tmod y n = 0 ↔ y % n = 0 := by rw [← Int.dvd_iff_tmod_eq_zero, Int.dvd_iff_emod_eq_zero]
theorem dayLeap_eq (y : Int) : spec_DayLeap.f y = some (leap y) := by
  unfold spec_DayLeap.f leap
  by_cases c : y % 4 = 0
  · rw [if_pos ((tmod_zero y 4).2 c)]
    by_cases b : y % 100 = 0
    · rw [if_pos ((tmod_zero y 100).2 b)]
      by_cases a : y % 400 = 0
      · rw [decide_eq_true ⟨c, .inr a⟩, beq_iff_eq.2 ((tmod_zero y 400).2 a)]
      · rw [decide_eq_false (by omega), beq_eq_false_iff_ne.2 (fun e => a ((tmod_zero y 400).1 e))]
    · rw [if_neg (fun e => b ((tmod_zero y 100).1 e)), decide_eq_true ⟨c, .inl b⟩]
  · rw [if_neg (fun e => c ((tmod_zero y 4).1 e)), decide_eq_false (by omega)]
theorem count_eq (y m : Int) (h1 : 1 ≤ m) (h2 : m ≤ 12) : spec_DayCount.f 3 y m = some (days m (leap y)) := by
  have : m = 1 ∨ m = 2 ∨ m = 3 ∨ m = 4 ∨ m = 5 ∨ m = 6 ∨ m = 7 ∨ m = 8 ∨ m = 9 ∨ m = 10 ∨ m = 11 ∨ m = 12 := by omega
  rcases this with rfl | rfl | rfl | rfl | rfl | rfl | rfl | rfl | rfl | rfl | rfl | rfl
  · rfl
  · have e := dayLeap_eq y
    cases h : leap y <;> rw [h] at e <;> simp [spec_DayCount.f, spec_DayCount.j0, e, spec_DayCount.j1, days]
  all_goals rfl

theorem own : ownKnob Tryd.prog.godebug = none := by kernel_rfl
theorem gTab : Tryd.prog.globalNamed "pub-gridwork/pub/excelize.daysInMonth" = some 0 := by kernel_rfl
theorem tTab : (Tryd.prog.globals[0]?).map (·.type) = some 33 := by kernel_rfl
theorem cells3 : Tryd.prog.cellsOf 3 = 1 := by kernel_rfl

theorem door_met (os : Os) (args : Array Value) : laidMetH Tryd.prog Rows.fnDaysRow.laid ((World.doorLaid Tryd.prog 48 os).forCall (fun _ _ => 0) ⟨#[], args, []⟩).memory :=
  laidMetH_of_parts3 (fuel := 8) (laidMet_of_run' 8 (by kernel_rfl) (by kernel_rfl)) (by kernel_rfl) (by kernel_rfl)

theorem of_laid {W : World} (h : laidMetH Tryd.prog Rows.fnDaysRow.laid W) : Tab W := by
  unfold laidMetH at h
  rw [show (Rows.fnDaysRow.laid.filter fun x => x.2.handleName?.isSome) = [] from by kernel_rfl] at h
  obtain ⟨ps, ⟨g0, t0, cs0, f0, p0, q0, hg0, ht0, hv0, hd0, _, _⟩, _⟩ := h
  obtain rfl := Option.some.inj (gTab.symm.trans hg0)
  obtain rfl := Option.some.inj (tTab.symm.trans ht0)
  obtain ⟨a, cap, hcs, hcap, hel⟩ := open_row Tryd.underlying33 cells3 hd0
  have hcell : W.cell? ⟨0, 0, none⟩ = some (.slice (some a) 12 cap) := by
    have := World.var?_cell hg0 hv0 0
    rw [Array.eq_one_of_toList hcs] at this
    simpa using this
  have hint : ∀ i (n : Int), ([31, 28, 31, 30, 31, 30, 31, 31, 30, 31, 30, 31] : List Int)[i]? = some n → W.cell? (a.add i) = some (.int .i64 n) := by
    intro i n hn
    obtain ⟨v, m, q, hc, ht⟩ := hel i (.lit (.int .i64 n)) (by
      have : ([31, 28, 31, 30, 31, 30, 31, 31, 30, 31, 30, 31].map (fun z : Int => (DataW.lit (.int .i64 z) : DataW Unit)))[i]? = some (.lit (.int .i64 n)) := by
        rw [List.getElem?_map, hn]; rfl
      exact this)
    obtain ⟨z, e1, e2, _⟩ := DataW.trod_int Tryd.underlying3 ht
    have hz : z = n := by simpa using (congrArg Prod.fst e2).symm
    subst hz
    simp at e1
    rw [hc, e1]
  obtain ⟨b, o, s⟩ := a
  have hs : s = none := by
    have h0 := hint 0 31 rfl
    cases s with
    | none => rfl
    | some x => simp [World.cell?, Addr.add] at h0; split at h0 <;> simp_all
  subst hs
  refine ⟨b, o, cap, hcell, fun j hj => ?_⟩
  have := hint j (([31, 28, 31, 30, 31, 30, 31, 31, 30, 31, 30, 31] : List Int).getD j 0) (by
    rw [List.getD_eq_getElem?_getD, List.getElem?_eq_getElem (by simpa using hj)]; rfl)
  rwa [Addr.add_lit] at this

set_option maxRecDepth 100000 in
theorem lifted (os : Os) (started : os.Started) (H : Type) (enc : TypeId × Value → H) :
    ReturnsInHanded {} Tryd.checked os 3 .any (fun w args => (Rows.fnDaysSpec.pre enc Tryd.prog Tryd.f3 [] false w args ∧ laidMetH Tryd.prog Rows.fnDaysRow.laid w) ∧ sizedMet enc Tryd.prog Tryd.f3 (OpenSpec.ofChange Rows.fnDaysSpec) false w args)
      (Rows.fnDaysSpec.post enc Tryd.prog Tryd.f3 false true false false) := by
  refine returnsInHanded_of_change_and (C := Tryd.checked) (X := fun w _ => laidMetH Tryd.prog Rows.fnDaysRow.laid w) (fun _ _ _ hh h => h.of_heap hh) own started (by kernel_rfl) Tryd.func3
    (ChangeSpec.witness_shaped (enc := enc) (C := Tryd.checked) (os := os) (X := fun w _ => laidMetH Tryd.prog Rows.fnDaysRow.laid w) false (World.doorLaid Tryd.prog 48 os) #[.int .i64 0, .int .i64 0] 8 rfl (World.shaped_of_RefB (by kernel_rfl) (by kernel_rfl)) (by kernel_rfl) (by kernel_rfl) (by kernel_rfl) (door_met os _)) ?_
  intro W base args ds gs before hval0 hW _ _ hL _
  have hval : ∀ (j : Nat) t v, Tryd.f3.params[j]? = some t → args[j]? = some v → Value.okWide Tryd.prog W .any base t v := hval0
  have hW' := hW
  obtain ⟨p, q, hA0, hV, rfl, hfz, hnd⟩ := hW
  have hA : DataW.TrodAll enc Tryd.prog W 0 (fun _ => true) true Tryd.f3.params.toList args.toList ds p := hA0
  rw [Tryd.params3] at hA hval
  obtain ⟨v0, v1, d0, d1, p0, p1, rfl, rfl, rfl, h0, h1⟩ := trodAll_two hA
  obtain ⟨rfl, rfl⟩ := trodVars_none hV
  obtain ⟨y, rfl, rfl, rfl, wy⟩ := open_int Tryd.underlying3 (hval 0 3 v0 rfl rfl) h0
  obtain ⟨m, rfl, rfl, rfl, wm⟩ := open_int Tryd.underlying3 (hval 1 3 v1 rfl rfl) h1
  clear hA0 hval0
  have by_ := bounds_i64 wy
  refine (law y m (leap y) 3 W (isLeap_eq y by_.1 by_.2) (of_laid hL) (count_eq y)).mono fun e W' ⟨he, hd⟩ => ?_
  have bel := hd.below
  subst he
  exact ⟨_, rfl, _, _, _, [], _, [], hW', trodAll_mk1 (shut_bool Tryd.underlying4 _), (trodAll_cons_mk (shut_int Tryd.underlying3 wy) (trodAll_cons_mk (shut_int Tryd.underlying3 wm) trodAll_mk0)), rfl, bel.frame _, fun h => by cases h⟩

theorem said : Rows.FnDaysSaid :=
  OpenClaim.holds_of_wide 3 Tryd.f3 rfl rfl rfl rfl rfl rfl rfl ⟨rfl, rfl, rfl, rfl, rfl⟩ rfl rfl rfl rfl rfl (by kernel_rfl) Tryd.func3 (by kernel_rfl)
    (of_decide_eq_true (by kernel_rfl)) (by unfold Func.isWrapper; first | (rw [if_pos (by decide +kernel)]; kernel_rfl) | (rw [if_neg (by decide +kernel)]; exact ⟨rfl, rfl⟩))
    (fun os started H enc _ => lifted os started H enc)

/-- No parameter wants a stand-in; the program's own looks are off. -/
theorem plain (f : FuncId) (fn : Func) (hf : Tryd.pinned.checked.prog.funcNamed "pub-gridwork/laws.FnDays" = some f) (hfn : Tryd.pinned.checked.prog.funcs[f]? = some fn) :
    false = Tryd.pinned.checked.prog.looks [] ∧ ∀ (j : Nat) t, fn.params[j]? = some t → Tryd.pinned.checked.prog.wantsStandIn t = false := by
  obtain rfl : f = 3 := Option.some.inj ((show Tryd.prog.funcNamed "pub-gridwork/laws.FnDays" = some 3 by kernel_rfl).symm.trans hf) |>.symm
  obtain rfl : fn = Tryd.f3 := (Option.some.inj (Tryd.func3.symm.trans hfn)).symm
  refine ⟨by kernel_rfl, fun j t ht => ?_⟩
  rw [Tryd.params3] at ht
  obtain rfl : t = 3 := by simpa using Array.mem_of_getElem? ht
  exact (show Tryd.prog.wantsStandIn 3 = false by kernel_rfl)

theorem card : Rows.FnDaysCardSaid :=
  Claim7.holds_tied_plain_at .later [] _ _ _ _ said (fun _ h => by cases h) (by kernel_rfl) (fun _ h => by cases h) fnDays_row_tie rfl ⟨rfl, rfl⟩ (by kernel_rfl) rfl plain (by kernel_rfl)
#print axioms card
end Go.Proofs.YtjefbpfpobgmaaaDoor.DaysProof
namespace Go.Proofs.YtjefbpfpobgmaaaDoor
/-- The card, under a short name, for the claim. -/
theorem fnDays_holds : Rows.FnDaysCardSaid := DaysProof.card
end Go.Proofs.YtjefbpfpobgmaaaDoor
