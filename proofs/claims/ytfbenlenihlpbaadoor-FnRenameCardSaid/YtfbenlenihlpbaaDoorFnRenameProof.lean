/- The law FnRename: for all strings and areas, renaming a sheet (the letters of the first string, at most 20) to another one (the letters of the second string) in a list of two ranges, of this sheet and of a third one, replaces the name of this sheet and of no other one, and renaming it back restores the list. Conditions: none on the input; the package-level variables that the code may read hold what the program's text lays in them (tied by the card). -/
import Derived.Test.YtfbenlenihlpbaaDoorCards
import Derived.Test.YtfbenlenihlpbaaDoorTie
import Derived.Test.YtfbenlenihlpbaaDoorLetters
import Derived.Lib.Props
import Derived.Test.YtfbenlenihlpbaaDoorEvRename
import Derived.Test.YtfbenlenihlpbaaDoorOpenArr
import Derived.ProofKit
import Derived.OpenShut
import Derived.LaidMore
import Derived.Lay
import Derived.Stop.Joined
import Derived.SevenTiedAt
import Derived.Laws.IdiomArrays
import Derived.ShutString
import Derived.SizedLaws
namespace Go.Proofs.YtfbenlenihlpbaaDoor.FnRenameProof
open Go.Proofs.YtfbenlenihlpbaaDoor.Letters Go.ChangeShapes Go.WideShapes Go.ChangeAt Go.RowKit
open Go.ChangeMaps (open_string shut_string)

theorem own : ownKnob Tryd.prog.godebug = none := by kernel_rfl
theorem gProp : Tryd.prog.globalNamed "unicode.properties" = some 4 := by kernel_rfl
theorem tProp : (Tryd.prog.globals[4]?).map (·.type) = some 144 := by kernel_rfl
theorem dProp : (Rows.laid_unicode_properties : DataW Unit) = .agg (Lib.propertiesTab.map fun n => .lit (.int .u8 n)) := by kernel_rfl
theorem prop_cell {W : World} (h : laidMetH Tryd.prog Rows.fnRenameRow.laid W) (r : Nat) (hr : r < 256) : W.cell? ⟨4, r, none⟩ = some (.int .u8 (Lib.propertiesTab.getD r 0)) := by
  rw [MakeChecks.laidMetH_plain _ _ _ (by kernel_rfl)] at h
  obtain ⟨ps, ⟨_, _, _, _, _, _, _, _, _, _, ⟨_, _, _, _, _, _, _, _, _, _, ⟨_, _, _, _, _, _, _, _, _, _, ⟨_, _, _, _, _, _, _, _, _, _, ⟨_, _, _, _, _, _, _, _, _, _, ⟨_, _, _, _, _, _, _, _, _, _, ⟨g, t, cs, fuel, p, q, hg, ht, hv, hd, _, _⟩, _⟩, _⟩, _⟩, _⟩, _⟩, _⟩, _, _⟩ := h
  obtain rfl := Option.some.inj (gProp.symm.trans hg)
  obtain rfl := Option.some.inj (tProp.symm.trans ht)
  rw [dProp] at hd
  obtain ⟨xs, m, _, ex, _, hl, hel⟩ := DataW.trod_array Tryd.underlying144 hd
  have c5 : Tryd.prog.cellsOf 5 = 1 := by kernel_rfl
  have hE := hel r hr
  rw [c5, Nat.mul_one, List.getElem?_eq_getElem (by omega)] at hE
  obtain ⟨z, e1, e2, _⟩ := DataW.trod_int Tryd.underlying5 hE
  have hlen : Lib.propertiesTab.length = 256 := by kernel_rfl
  have e3 : (xs.map (·.1)) = Lib.propertiesTab.map fun n => .lit (.int .u8 n) := (DataW.agg.inj (Prod.mk.inj ex).1).symm
  have e4 : (xs.map (·.1))[r]? = (Lib.propertiesTab.map fun n => (DataW.lit (.int .u8 n) : DataW Unit))[r]? := by rw [e3]
  rw [List.getElem?_map, List.getElem?_map, List.getElem?_eq_getElem (by omega : r < xs.length), List.getElem?_eq_getElem (by omega : r < Lib.propertiesTab.length), e2] at e4
  have hz : z = Lib.propertiesTab.getD r 0 := by
    simp only [Option.map_some, Option.some.injEq, DataW.lit.injEq, Lit.int.injEq, true_and] at e4
    rw [e4, List.getD, List.getElem?_eq_getElem (by omega : r < Lib.propertiesTab.length)]; rfl
  rw [World.var?_cell hg hv r, ← hz]
  have : cs.toList[r]? = some (.int .u8 z) := by
    have h0 : ((cs.toList.drop r).take 1)[0]? = some (.int .u8 z) := by rw [e1]; rfl
    simpa using h0
  simpa using this
theorem tab_letters : ((List.range 256).all fun r => !((65 ≤ r && r ≤ 90) || (97 ≤ r && r ≤ 122)) || Lib.propertiesTab.getD r 0 == (if r ≤ 90 then 160 else 192)) = true := by kernel_rfl
theorem props_of {W : World} (h : laidMetH Tryd.prog Rows.fnRenameRow.laid W) : Props W := by
  have hc : ∀ c : Nat, isL c → W.cell? ⟨4, c, none⟩ = some (.int .u8 (if c ≤ 90 then 160 else 192)) := by
    intro c hc
    unfold isL at hc
    rw [prop_cell h c (by omega)]
    have := List.all_eq_true.1 tab_letters c (List.mem_range.2 (by omega))
    simp only [Bool.or_eq_true, Bool.not_eq_true', Bool.or_eq_false_iff, Bool.and_eq_false_iff, decide_eq_false_iff_not, beq_iff_eq] at this
    rcases this with h1 | h1
    · omega
    · rw [h1]
  refine ⟨?_, hc⟩
  exact World.block_lt_of_cell? W _ (hc 65 (.inl (by omega)))

set_option maxRecDepth 100000 in
theorem lifted (os : Os) (started : os.Started) (H : Type) (enc : TypeId × Value → H) :
    ReturnsInHanded {} Tryd.checked os 9 .any (fun w args => (Rows.fnRenameSpec.pre enc Tryd.prog Tryd.f9 [] false w args ∧ laidMetH Tryd.prog Rows.fnRenameRow.laid w) ∧ sizedMet enc Tryd.prog Tryd.f9 (OpenSpec.ofChange Rows.fnRenameSpec) false w args)
      (Rows.fnRenameSpec.post enc Tryd.prog Tryd.f9 false true false false) := by
  refine returnsInHanded_of_change_and (C := Tryd.checked) (X := fun w _ => laidMetH Tryd.prog Rows.fnRenameRow.laid w) (fun _ _ _ hh h => h.of_heap hh) own started (by kernel_rfl) Tryd.func9
    (ChangeSpec.witness_shaped (enc := enc) (C := Tryd.checked) (os := os) (X := fun w _ => laidMetH Tryd.prog Rows.fnRenameRow.laid w) false (World.laidAll Tryd.prog os Rows.fnRenameRow.laid) #[.string ByteArray.empty, .string ByteArray.empty, .string ByteArray.empty, .agg #[.int .i64 0, .int .i64 0, .int .i64 0, .int .i64 0], .agg #[.int .i64 0, .int .i64 0, .int .i64 0, .int .i64 0]] 8 (World.laidAll_os _ _ _)
      (World.shaped_of_ZipB (by kernel_rfl) (by kernel_rfl)) (by kernel_rfl) (by kernel_rfl) (by kernel_rfl)
      (by rw [MakeChecks.laidMetH_plain _ _ _ (by kernel_rfl)]; exact laidMet_laidAll _ (by kernel_rfl) (by kernel_rfl))) ?_
  intro W base args ds gs before hval0 hW _ hsz0 hL _
  have hsz : (DataW.weightsEach Tryd.prog (Tryd.f9.params.toList ++ Rows.fnRenameSpec.plain.varTypes Tryd.prog) (ds ++ gs)).all (· ≤ reachBytes) = true := hsz0
  have hval : ∀ (j : Nat) t v, Tryd.f9.params[j]? = some t → args[j]? = some v → Value.okWide Tryd.prog W .any base t v := hval0
  have hW' := hW
  obtain ⟨p, q, hA0, hV, rfl, hfz, hnd⟩ := hW
  have hA : DataW.TrodAll enc Tryd.prog W 0 (fun _ => true) true Tryd.f9.params.toList args.toList ds p := hA0
  rw [Tryd.params9] at hA hval hsz
  obtain ⟨v0, vs0, d0, ds0, p0, q0, hargs, rfl, rfl, h0, r0⟩ := trodAll_cons hA
  obtain ⟨v1, vs1, d1, ds1, p1, q1, rfl, rfl, rfl, h1, r1⟩ := trodAll_cons r0
  obtain ⟨v2, vs2, d2, ds2, p2, q2, rfl, rfl, rfl, h2, r2⟩ := trodAll_cons r1
  obtain ⟨v3, vs3, d3, ds3, p3, q3, rfl, rfl, rfl, h3, r3⟩ := trodAll_cons r2
  obtain ⟨v4, vs4, d4, ds4, p4, q4, rfl, rfl, rfl, h4, r4⟩ := trodAll_cons r3
  obtain ⟨rfl, rfl, rfl⟩ := trodAll_nil r4
  obtain rfl : args = #[v0, v1, v2, v3, v4] := by cases args; simp_all
  obtain ⟨rfl, rfl⟩ := trodVars_none hV
  obtain ⟨a0, rfl, rfl, rfl, y0⟩ := open_string Tryd.underlying9 (hval 0 9 v0 rfl rfl) h0
  have w0 : a0.size ≤ 140737488351232 := by
    have z := sized_string hsz (j := 0) (t := 9) rfl rfl
    rw [Array.length_toList] at z
    exact z
  obtain ⟨a1, rfl, rfl, rfl, y1⟩ := open_string Tryd.underlying9 (hval 1 9 v1 rfl rfl) h1
  have w1 : a1.size ≤ 140737488351232 := by
    have z := sized_string hsz (j := 1) (t := 9) rfl rfl
    rw [Array.length_toList] at z
    exact z
  obtain ⟨a2, rfl, rfl, rfl, y2⟩ := open_string Tryd.underlying9 (hval 2 9 v2 rfl rfl) h2
  have w2 : a2.size ≤ 140737488351232 := by
    have z := sized_string hsz (j := 2) (t := 9) rfl rfl
    rw [Array.length_toList] at z
    exact z
  obtain ⟨a3, b3, c3, e3, rfl, rfl, rfl, w3⟩ := OpenArr.open_arr (hval 3 22 v3 rfl rfl) h3
  obtain ⟨a4, b4, c4, e4, rfl, rfl, rfl, w4⟩ := OpenArr.open_arr (hval 4 22 v4 rfl rfl) h4
  clear hA0 hval0 hsz0
  refine (EvRename.law a0 a1 a2 a3 b3 c3 e3 a4 b4 c4 e4 W (props_of hL)).mono fun e W' ⟨he, bel⟩ => ?_
  subst he
  exact ⟨_, rfl, _, _, _, [], _, [], hW', trodAll_mk1 (shut_bool Tryd.underlying4 _), (trodAll_cons_mk (shut_string Tryd.underlying9 y0) (trodAll_cons_mk (shut_string Tryd.underlying9 y1) (trodAll_cons_mk (shut_string Tryd.underlying9 y2) (trodAll_cons_mk (OpenArr.shut_arr w3) (trodAll_cons_mk (OpenArr.shut_arr w4) trodAll_mk0))))), rfl, bel.frame _, fun h => by cases h⟩

theorem said : Rows.FnRenameSaid :=
  OpenClaim.holds_of_wide 9 Tryd.f9 rfl rfl rfl rfl rfl rfl rfl ⟨rfl, rfl, rfl, rfl, rfl⟩ rfl rfl rfl rfl rfl (by kernel_rfl) Tryd.func9 (by kernel_rfl)
    (of_decide_eq_true (by kernel_rfl)) (by unfold Func.isWrapper; first | (rw [if_pos (by decide +kernel)]; kernel_rfl) | (rw [if_neg (by decide +kernel)]; exact ⟨rfl, rfl⟩))
    (fun os started H enc _ => lifted os started H enc)

/-- No parameter wants a stand-in; the program's own looks are on. -/
theorem plain (f : FuncId) (fn : Func) (hf : Tryd.pinned.checked.prog.funcNamed "pub-gridwork/laws.FnRename" = some f) (hfn : Tryd.pinned.checked.prog.funcs[f]? = some fn) :
    true = Tryd.pinned.checked.prog.looks [] ∧ ∀ (j : Nat) t, fn.params[j]? = some t → Tryd.pinned.checked.prog.wantsStandIn t = false := by
  obtain rfl : f = 9 := Option.some.inj ((show Tryd.prog.funcNamed "pub-gridwork/laws.FnRename" = some 9 by kernel_rfl).symm.trans hf) |>.symm
  obtain rfl : fn = Tryd.f9 := (Option.some.inj (Tryd.func9.symm.trans hfn)).symm
  refine ⟨by kernel_rfl, fun j t ht => ?_⟩
  rw [Tryd.params9] at ht
  have ht' : t ∈ #[9, 9, 9, 22, 22] := Array.mem_of_getElem? ht
  have : t = 9 ∨ t = 22 := by have := ht'; simp at this; omega
  rcases this with rfl | rfl
  · exact (show Tryd.prog.wantsStandIn 9 = false by kernel_rfl)
  · exact (show Tryd.prog.wantsStandIn 22 = false by kernel_rfl)

theorem card : Rows.FnRenameCardSaid :=
  Claim7.holds_tied_plain_at .later [] _ _ _ _ said (fun _ h => by cases h) (by kernel_rfl) (fun _ h => by cases h) fnRename_row_tie rfl ⟨rfl, rfl⟩ (by kernel_rfl) rfl plain (by kernel_rfl)
#print axioms card
end Go.Proofs.YtfbenlenihlpbaaDoor.FnRenameProof
namespace Go.Proofs.YtfbenlenihlpbaaDoor
/-- The card, under a short name, for the claim. -/
theorem fnRename_holds : Rows.FnRenameCardSaid := FnRenameProof.card
end Go.Proofs.YtfbenlenihlpbaaDoor
