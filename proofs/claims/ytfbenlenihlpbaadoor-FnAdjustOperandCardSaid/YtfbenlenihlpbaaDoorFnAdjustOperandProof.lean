/- FnAdjustOperand: an operand that refers to a sheet moves with its inserted rows or columns, and one that refers to another sheet does not. Conditions: the card's own. -/
import Derived.Test.YtfbenlenihlpbaaDoorCards
import Derived.Test.YtfbenlenihlpbaaDoorTie
import Derived.Test.YtfbenlenihlpbaaDoorAlnum
import Derived.Lib.Props
import Derived.Test.YtfbenlenihlpbaaDoorEvAll
import Derived.Test.YtfbenlenihlpbaaDoorOpenArr
import Derived.ProofKit
import Derived.OpenShut
import Derived.LaidMore
import Derived.Lay
import Derived.Stop.Joined
import Derived.SevenTiedAt
import Derived.Laws.IdiomArrays
namespace Go.Proofs.YtfbenlenihlpbaaDoor.FnAdjustOperandProof
open Go.Proofs.YtfbenlenihlpbaaDoor.Alnum Go.ChangeShapes Go.WideShapes Go.ChangeAt Go.RowKit

theorem own : ownKnob Tryd.prog.godebug = none := by kernel_rfl
theorem gProp : Tryd.prog.globalNamed "unicode.properties" = some 4 := by kernel_rfl
theorem tProp : (Tryd.prog.globals[4]?).map (·.type) = some 144 := by kernel_rfl
theorem dProp : (Rows.laid_unicode_properties : DataW Unit) = .agg (Lib.propertiesTab.map fun n => .lit (.int .u8 n)) := by kernel_rfl
theorem prop_cell {W : World} (h : laidMetH Tryd.prog Rows.fnAdjustOperandRow.laid W) (r : Nat) (hr : r < 256) : W.cell? ⟨4, r, none⟩ = some (.int .u8 (Lib.propertiesTab.getD r 0)) := by
  rw [MakeChecks.laidMetH_plain _ _ _ (by kernel_rfl)] at h
  obtain ⟨ps, ⟨_, _, _, _, _, _, _, _, _, _, ⟨_, _, _, _, _, _, _, _, _, _, ⟨_, _, _, _, _, _, _, _, _, _, ⟨_, _, _, _, _, _, _, _, _, _, ⟨_, _, _, _, _, _, _, _, _, _, ⟨_, _, _, _, _, _, _, _, _, _, ⟨g, t, cs, fuel, p, q, hg, ht, hv, hd, _, _⟩, _⟩, _⟩, _⟩, _⟩, _⟩, _⟩, _, _⟩ := h
  obtain rfl := Option.some.inj (gProp.symm.trans hg)
  obtain rfl := Option.some.inj (tProp.symm.trans ht)
  rw [dProp] at hd
  obtain ⟨xs, m, _, ex, _, hl, hel⟩ := DataW.trod_array Tryd.underlying144 hd
  have c5 : Tryd.prog.cellsOf 5 = 1 := by kernel_rfl
  have hE := hel r hr
  rw [c5, Nat.mul_one, List.getElem?_eq_getElem (by omega)] at hE
  obtain ⟨z, e1, e2, _⟩ := DataW.trod_int Tryd.underlying5 hE
  have hlen : Lib.propertiesTab.length = 256 := by kernel_rfl
  have e3 : (xs.map (·.1)) = Lib.propertiesTab.map fun n => .lit (.int .u8 n) := (DataW.agg.inj (Prod.mk.inj ex).1).symm
  have e4 : (xs.map (·.1))[r]? = (Lib.propertiesTab.map fun n => (DataW.lit (.int .u8 n) : DataW Unit))[r]? := by rw [e3]
  rw [List.getElem?_map, List.getElem?_map, List.getElem?_eq_getElem (by omega : r < xs.length), List.getElem?_eq_getElem (by omega : r < Lib.propertiesTab.length), e2] at e4
  have hz : z = Lib.propertiesTab.getD r 0 := by
    simp only [Option.map_some, Option.some.injEq, DataW.lit.injEq, Lit.int.injEq, true_and] at e4
    rw [e4, List.getD, List.getElem?_eq_getElem (by omega : r < Lib.propertiesTab.length)]; rfl
  rw [World.var?_cell hg hv r, ← hz]
  have : cs.toList[r]? = some (.int .u8 z) := by
    have h0 : ((cs.toList.drop r).take 1)[0]? = some (.int .u8 z) := by rw [e1]; rfl
    simpa using h0
  simpa using this
theorem tab_letters : ((List.range 256).all fun r => !((48 ≤ r && r ≤ 57) || ((65 ≤ r && r ≤ 90) || (97 ≤ r && r ≤ 122))) || Lib.propertiesTab.getD r 0 == (if r ≤ 57 then 132 else if r ≤ 90 then 160 else 192)) = true := by kernel_rfl
theorem props_of {W : World} (h : laidMetH Tryd.prog Rows.fnAdjustOperandRow.laid W) : Alnum.Props W := by
  have hc : ∀ c : Nat, Alnum.isA c → W.cell? ⟨4, c, none⟩ = some (.int .u8 (if c ≤ 57 then 132 else if c ≤ 90 then 160 else 192)) := by
    intro c hc
    unfold Alnum.isA Alnum.isL at hc
    rw [prop_cell h c (by omega)]
    have := List.all_eq_true.1 tab_letters c (List.mem_range.2 (by omega))
    simp only [Bool.or_eq_true, Bool.not_eq_true', Bool.or_eq_false_iff, Bool.and_eq_false_iff, decide_eq_false_iff_not, beq_iff_eq] at this
    rcases this with h1 | h1
    · omega
    · rw [h1]
  refine ⟨?_, hc⟩
  exact World.block_lt_of_cell? W _ (hc 65 (.inr (.inl (by omega))))
set_option maxRecDepth 100000 in
theorem lifted (os : Os) (started : os.Started) (H : Type) (enc : TypeId × Value → H) :
    ReturnsInHanded {} Tryd.checked os 8 .any (fun w args => (Rows.fnAdjustOperandSpec.pre enc Tryd.prog Tryd.f8 [] false w args ∧ laidMetH Tryd.prog Rows.fnAdjustOperandRow.laid w) ∧ sizedMet enc Tryd.prog Tryd.f8 (OpenSpec.ofChange Rows.fnAdjustOperandSpec) false w args)
      (Rows.fnAdjustOperandSpec.post enc Tryd.prog Tryd.f8 false true false false) := by
  refine returnsInHanded_of_change_and (C := Tryd.checked) (X := fun w _ => laidMetH Tryd.prog Rows.fnAdjustOperandRow.laid w) (fun _ _ _ hh h => h.of_heap hh) own started (by kernel_rfl) Tryd.func8
    (ChangeSpec.witness_shaped (enc := enc) (C := Tryd.checked) (os := os) (X := fun w _ => laidMetH Tryd.prog Rows.fnAdjustOperandRow.laid w) false (World.laidAll Tryd.prog os Rows.fnAdjustOperandRow.laid) #[.agg #[.int .i64 0, .int .i64 0, .int .i64 0, .int .i64 0], .bool false, .int .i64 0, .int .i64 0, .int .i64 0, .bool false, .int .i64 0, .int .i64 0] 8 (World.laidAll_os _ _ _)
      (World.shaped_of_ZipB (by kernel_rfl) (by kernel_rfl)) (by kernel_rfl) (by kernel_rfl) (by kernel_rfl)
      (by rw [MakeChecks.laidMetH_plain _ _ _ (by kernel_rfl)]; exact laidMet_laidAll _ (by kernel_rfl) (by kernel_rfl))) ?_
  intro W base args ds gs before hval0 hW _ hsz0 hL _
  have hval : ∀ (j : Nat) t v, Tryd.f8.params[j]? = some t → args[j]? = some v → Value.okWide Tryd.prog W .any base t v := hval0
  have hW' := hW
  obtain ⟨p, q, hA0, hV, rfl, hfz, hnd⟩ := hW
  have hA : DataW.TrodAll enc Tryd.prog W 0 (fun _ => true) true Tryd.f8.params.toList args.toList ds p := hA0
  rw [Tryd.params8] at hA hval
  obtain ⟨v0, vs0, d0, ds0, p0, q0, hargs, rfl, rfl, h0, r0⟩ := trodAll_cons hA
  obtain ⟨v1, vs1, d1, ds1, p1, q1, rfl, rfl, rfl, h1, r1⟩ := trodAll_cons r0
  obtain ⟨v2, vs2, d2, ds2, p2, q2, rfl, rfl, rfl, h2, r2⟩ := trodAll_cons r1
  obtain ⟨v3, vs3, d3, ds3, p3, q3, rfl, rfl, rfl, h3, r3⟩ := trodAll_cons r2
  obtain ⟨v4, vs4, d4, ds4, p4, q4, rfl, rfl, rfl, h4, r4⟩ := trodAll_cons r3
  obtain ⟨v5, vs5, d5, ds5, p5, q5, rfl, rfl, rfl, h5, r5⟩ := trodAll_cons r4
  obtain ⟨v6, vs6, d6, ds6, p6, q6, rfl, rfl, rfl, h6, r6⟩ := trodAll_cons r5
  obtain ⟨v7, vs7, d7, ds7, p7, q7, rfl, rfl, rfl, h7, r7⟩ := trodAll_cons r6
  obtain ⟨rfl, rfl, rfl⟩ := trodAll_nil r7
  obtain rfl : args = #[v0, v1, v2, v3, v4, v5, v6, v7] := by cases args; simp_all
  obtain ⟨rfl, rfl⟩ := trodVars_none hV
  obtain ⟨a0, b0, c0, e0, rfl, rfl, rfl, w0⟩ := OpenArr.open_arr (hval 0 22 v0 rfl rfl) h0
  obtain ⟨a1, rfl, rfl, rfl⟩ := open_bool Tryd.underlying4 (hval 1 4 v1 rfl rfl) h1
  obtain ⟨a2, rfl, rfl, rfl, w2⟩ := open_int Tryd.underlying3 (hval 2 3 v2 rfl rfl) h2
  obtain ⟨a3, rfl, rfl, rfl, w3⟩ := open_int Tryd.underlying3 (hval 3 3 v3 rfl rfl) h3
  obtain ⟨a4, rfl, rfl, rfl, w4⟩ := open_int Tryd.underlying3 (hval 4 3 v4 rfl rfl) h4
  obtain ⟨a5, rfl, rfl, rfl⟩ := open_bool Tryd.underlying4 (hval 5 4 v5 rfl rfl) h5
  obtain ⟨a6, rfl, rfl, rfl, w6⟩ := open_int Tryd.underlying3 (hval 6 3 v6 rfl rfl) h6
  obtain ⟨a7, rfl, rfl, rfl, w7⟩ := open_int Tryd.underlying3 (hval 7 3 v7 rfl rfl) h7
  clear hA0 hval0 hsz0
  refine (EvOperand.law a0 b0 c0 e0 a1 a2 a3 a4 a5 a6 a7 W (props_of hL)).mono fun e W' ⟨he, bel⟩ => ?_
  subst he
  exact ⟨_, rfl, _, _, _, [], _, [], hW', trodAll_mk1 (shut_bool Tryd.underlying4 _), (trodAll_cons_mk (OpenArr.shut_arr w0) (trodAll_cons_mk (shut_bool Tryd.underlying4 _) (trodAll_cons_mk (shut_int Tryd.underlying3 w2) (trodAll_cons_mk (shut_int Tryd.underlying3 w3) (trodAll_cons_mk (shut_int Tryd.underlying3 w4) (trodAll_cons_mk (shut_bool Tryd.underlying4 _) (trodAll_cons_mk (shut_int Tryd.underlying3 w6) (trodAll_cons_mk (shut_int Tryd.underlying3 w7) trodAll_mk0)))))))), rfl, bel.frame _, fun h => by cases h⟩

theorem said : Rows.FnAdjustOperandSaid :=
  OpenClaim.holds_of_wide 8 Tryd.f8 rfl rfl rfl rfl rfl rfl rfl ⟨rfl, rfl, rfl, rfl, rfl⟩ rfl rfl rfl rfl rfl (by kernel_rfl) Tryd.func8 (by kernel_rfl)
    (of_decide_eq_true (by kernel_rfl)) (by unfold Func.isWrapper; first | (rw [if_pos (by decide +kernel)]; kernel_rfl) | (rw [if_neg (by decide +kernel)]; exact ⟨rfl, rfl⟩))
    (fun os started H enc _ => lifted os started H enc)

/-- No parameter wants a stand-in; the program's own looks are on. -/
theorem plain (f : FuncId) (fn : Func) (hf : Tryd.pinned.checked.prog.funcNamed "pub-gridwork/laws.FnAdjustOperand" = some f) (hfn : Tryd.pinned.checked.prog.funcs[f]? = some fn) :
    true = Tryd.pinned.checked.prog.looks [] ∧ ∀ (j : Nat) t, fn.params[j]? = some t → Tryd.pinned.checked.prog.wantsStandIn t = false := by
  obtain rfl : f = 8 := Option.some.inj ((show Tryd.prog.funcNamed "pub-gridwork/laws.FnAdjustOperand" = some 8 by kernel_rfl).symm.trans hf) |>.symm
  obtain rfl : fn = Tryd.f8 := (Option.some.inj (Tryd.func8.symm.trans hfn)).symm
  refine ⟨by kernel_rfl, fun j t ht => ?_⟩
  rw [Tryd.params8] at ht
  have ht' : t ∈ #[22, 4, 3, 3, 3, 4, 3, 3] := Array.mem_of_getElem? ht
  have : t = 22 ∨ t = 4 ∨ t = 3 := by have := ht'; simp at this; first | exact this | omega | (rcases this with h | h | h | h <;> simp [h]) | (rcases this with h | h | h | h | h <;> simp [h]) | (rcases this with h | h | h | h | h | h <;> simp [h]) | (rcases this with h | h | h | h | h | h | h <;> simp [h]) | (rcases this with h | h | h | h | h | h | h | h <;> simp [h])
  rcases this with rfl | rfl | rfl
  · exact (show Tryd.prog.wantsStandIn 22 = false by kernel_rfl)
  · exact (show Tryd.prog.wantsStandIn 4 = false by kernel_rfl)
  · exact (show Tryd.prog.wantsStandIn 3 = false by kernel_rfl)

theorem card : Rows.FnAdjustOperandCardSaid :=
  Claim7.holds_tied_plain_at .later [] _ _ _ _ said (fun _ h => by cases h) (by kernel_rfl) (fun _ h => by cases h) fnAdjustOperand_row_tie rfl ⟨rfl, rfl⟩ (by kernel_rfl) rfl plain (by kernel_rfl)
#print axioms card
end Go.Proofs.YtfbenlenihlpbaaDoor.FnAdjustOperandProof
namespace Go.Proofs.YtfbenlenihlpbaaDoor
/-- The card, under a short name, for the claim. -/
theorem fnAdjustOperand_holds : Rows.FnAdjustOperandCardSaid := FnAdjustOperandProof.card
end Go.Proofs.YtfbenlenihlpbaaDoor
