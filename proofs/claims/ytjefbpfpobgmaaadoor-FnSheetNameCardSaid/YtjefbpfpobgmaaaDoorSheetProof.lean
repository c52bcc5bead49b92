/- The law FnSheetName: for every text, the name of a sheet that is made of its letters and ends in qz is written as it is; the tables that the package's road names are tied to the program's text (the card). -/
import Derived.Test.YtjefbpfpobgmaaaDoorCards
import Derived.Test.YtjefbpfpobgmaaaDoorTie
import Derived.Test.YtjefbpfpobgmaaaDoorSheetWalks
import Derived.ProofKit
import Derived.OpenShut
import Derived.LaidMore
import Derived.Lay
import Derived.SevenTiedAt
import Derived.Stop.Joined
import Derived.Lib.Props
namespace Go.Proofs.YtjefbpfpobgmaaaDoor.SheetProof
open Go.ChangeShapes Go.WideShapes Go.ChangeAt Go.RowKit
open Go.ChangeMaps (open_string shut_string)
open Go.Proofs.YtjefbpfpobgmaaaDoorW.PrintWords Go.Proofs.YtjefbpfpobgmaaaDoor.Plain Go.Proofs.YtjefbpfpobgmaaaDoor.SheetWalks

theorem isL_of (x : Int) (h : isLI x = true) : isL x.toNat ∧ x.toNat < 256 := by
  unfold isLI at h
  simp only [Bool.or_eq_true, Bool.and_eq_true, decide_eq_true_eq] at h
  unfold isL
  omega
theorem strOfNums_get (l : List Int) (i : Nat) (h : i < (strOfNums l).size) (h2 : i < l.length) : ((strOfNums l)[i]'h) = UInt8.ofNat (l[i]'h2).toNat := by
  show (strOfNums l).data[i] = _
  simp [strOfNums]
theorem small_all (s : ByteArray) (l : List UInt8) (hs : s.data.toList = l) (h : ∀ c ∈ l, isL c.toNat) : AllL s := by
  intro i hi
  have hm : s[i] ∈ s.data.toList := by
    show s.data[i] ∈ _
    rw [← Array.getElem_toList]
    exact List.getElem_mem _
  rw [hs] at hm
  exact h _ hm
theorem letters_all (s : ByteArray) : AllL (letters s) ∧ (letters s).size ≤ 20 := by
  unfold letters
  split
  · refine ⟨small_all _ [120] rfl (fun c hc => ?_), by decide⟩
    rw [List.mem_singleton.1 hc]
    exact .inr (by decide)
  · refine ⟨?_, by rw [strOfNums_size]; simp; omega⟩
    intro i h
    have h2 : i < ((lets (bytesOf s)).take 20).length := by rw [strOfNums_size] at h; exact h
    rw [strOfNums_get _ _ h h2]
    have hm : ((lets (bytesOf s)).take 20)[i] ∈ lets (bytesOf s) := List.mem_of_mem_take (List.getElem_mem h2)
    obtain ⟨ha, hb⟩ := isL_of _ (List.mem_filter.1 hm).2
    generalize (((lets (bytesOf s)).take 20)[i]).toNat = n at ha hb ⊢
    rw [show (UInt8.ofNat n).toNat = n from by simp; omega]
    exact ha
theorem all_append (a b : ByteArray) (ha : AllL a) (hb : AllL b) : AllL (a ++ b) := by
  intro i h
  rw [ByteArray.size_append] at h
  by_cases hi : i < a.size
  · rw [ByteArray.getElem_append_left hi]; exact ha i hi
  · rw [ByteArray.getElem_append_right (by omega)]; exact hb _ (by omega)
theorem all_qz : AllL ⟨#[113, 122]⟩ := small_all _ [113, 122] rfl (fun c hc => by
  simp only [List.mem_cons, List.mem_nil_iff, or_false] at hc
  rcases hc with rfl | rfl
  · exact .inr (by decide)
  · exact .inr (by decide))

theorem own : ownKnob Tryd.prog.godebug = none := by kernel_rfl
theorem gProp : Tryd.prog.globalNamed "unicode.properties" = some 1 := by kernel_rfl
theorem tProp : (Tryd.prog.globals[1]?).map (·.type) = some 58 := by kernel_rfl
theorem dProp : (Rows.laid_unicode_properties : DataW Unit) = .agg (Lib.propertiesTab.map fun n => .lit (.int .u8 n)) := by kernel_rfl
theorem prop_cell {W : World} (h : laidMetH Tryd.prog Rows.fnSheetNameRow.laid W) (r : Nat) (hr : r < 256) : W.cell? ⟨1, r, none⟩ = some (.int .u8 (Lib.propertiesTab.getD r 0)) := by
  rw [MakeChecks.laidMetH_plain _ _ _ (by kernel_rfl)] at h
  obtain ⟨ps, ⟨g, t, cs, fuel, p, q, hg, ht, hv, hd, _, _⟩, _, _⟩ := h
  obtain rfl := Option.some.inj (gProp.symm.trans hg)
  obtain rfl := Option.some.inj (tProp.symm.trans ht)
  rw [dProp] at hd
  obtain ⟨xs, m, _, ex, _, hl, hel⟩ := DataW.trod_array Tryd.underlying58 hd
  have c5 : Tryd.prog.cellsOf 5 = 1 := by kernel_rfl
  have hE := hel r hr
  rw [c5, Nat.mul_one, List.getElem?_eq_getElem (by omega)] at hE
  obtain ⟨z, e1, e2, _⟩ := DataW.trod_int Tryd.underlying5 hE
  have hlen : Lib.propertiesTab.length = 256 := by kernel_rfl
  have e3 : (xs.map (·.1)) = Lib.propertiesTab.map fun n => .lit (.int .u8 n) := (DataW.agg.inj (Prod.mk.inj ex).1).symm
  have e4 : (xs.map (·.1))[r]? = (Lib.propertiesTab.map fun n => (DataW.lit (.int .u8 n) : DataW Unit))[r]? := by rw [e3]
  rw [List.getElem?_map, List.getElem?_map, List.getElem?_eq_getElem (by omega : r < xs.length), List.getElem?_eq_getElem (by omega : r < Lib.propertiesTab.length), e2] at e4
  have hz : z = Lib.propertiesTab.getD r 0 := by
    simp only [Option.map_some, Option.some.injEq, DataW.lit.injEq, Lit.int.injEq, true_and] at e4
    rw [e4, List.getD, List.getElem?_eq_getElem (by omega : r < Lib.propertiesTab.length)]; rfl
  rw [World.var?_cell hg hv r, ← hz]
  have : cs.toList[r]? = some (.int .u8 z) := by
    have h0 : ((cs.toList.drop r).take 1)[0]? = some (.int .u8 z) := by rw [e1]; rfl
    simpa using h0
  simpa using this
theorem tab_letters : ((List.range 256).all fun r => !((65 ≤ r && r ≤ 90) || (97 ≤ r && r ≤ 122)) || Lib.propertiesTab.getD r 0 == (if r ≤ 90 then 160 else 192)) = true := by kernel_rfl
theorem props_of {W : World} (h : laidMetH Tryd.prog Rows.fnSheetNameRow.laid W) : Props W := by
  have hc : ∀ c : Nat, isL c → W.cell? ⟨1, c, none⟩ = some (.int .u8 (if c ≤ 90 then 160 else 192)) := by
    intro c hc
    unfold isL at hc
    rw [prop_cell h c (by omega)]
    have := List.all_eq_true.1 tab_letters c (List.mem_range.2 (by omega))
    simp only [Bool.or_eq_true, Bool.not_eq_true', Bool.or_eq_false_iff, Bool.and_eq_false_iff, decide_eq_false_iff_not, beq_iff_eq] at this
    rcases this with h1 | h1
    · omega
    · rw [h1]
  refine ⟨?_, hc⟩
  exact World.block_lt_of_cell? W _ (hc 65 (.inl (by omega)))

set_option maxRecDepth 100000 in
theorem lifted (os : Os) (started : os.Started) (H : Type) (enc : TypeId × Value → H) :
    ReturnsInHanded {} Tryd.checked os 4 .any (fun w args => (Rows.fnSheetNameSpec.pre enc Tryd.prog Tryd.f4 [] false w args ∧ laidMetH Tryd.prog Rows.fnSheetNameRow.laid w) ∧ sizedMet enc Tryd.prog Tryd.f4 (OpenSpec.ofChange Rows.fnSheetNameSpec) false w args)
      (Rows.fnSheetNameSpec.post enc Tryd.prog Tryd.f4 false true false false) := by
  refine returnsInHanded_of_change_and (C := Tryd.checked) (X := fun w _ => laidMetH Tryd.prog Rows.fnSheetNameRow.laid w) (fun _ _ _ hh h => h.of_heap hh) own started (by kernel_rfl) Tryd.func4
    (ChangeSpec.witness_shaped (enc := enc) (C := Tryd.checked) (os := os) (X := fun w _ => laidMetH Tryd.prog Rows.fnSheetNameRow.laid w) false (World.laidAll Tryd.prog os Rows.fnSheetNameRow.laid) #[.string ⟨#[]⟩] 8 (World.laidAll_os _ _ _)
      (World.shaped_of_ZipB (by kernel_rfl) (by kernel_rfl)) (by kernel_rfl) (by kernel_rfl) (by kernel_rfl)
      (by rw [MakeChecks.laidMetH_plain _ _ _ (by kernel_rfl)]; exact laidMet_laidAll _ (by kernel_rfl) (by kernel_rfl))) ?_
  intro W base args ds gs before hval0 hW _ _ hL _
  have hval : ∀ (j : Nat) t v, Tryd.f4.params[j]? = some t → args[j]? = some v → Value.okWide Tryd.prog W .any base t v := hval0
  have hW' := hW
  obtain ⟨p, q, hA0, hV, rfl, hfz, hnd⟩ := hW
  have hA : DataW.TrodAll enc Tryd.prog W 0 (fun _ => true) true Tryd.f4.params.toList args.toList ds p := hA0
  rw [Tryd.params4] at hA hval
  obtain ⟨v0, d0, rfl, rfl, h0⟩ := trodAll_one hA
  obtain ⟨rfl, rfl⟩ := trodVars_none hV
  obtain ⟨s, rfl, rfl, rfl, hs⟩ := open_string Tryd.underlying9 (hval 0 9 v0 rfl rfl) h0
  clear hA0 hval0
  obtain ⟨ha, hb⟩ := letters_all s
  refine (law s W (props_of hL) (all_append _ _ ha all_qz) hb).mono fun e W' ⟨he, bel⟩ => ?_
  subst he
  exact ⟨_, rfl, _, _, _, [], _, [], hW', trodAll_mk1 (shut_bool Tryd.underlying4 _), (trodAll_cons_mk (shut_string Tryd.underlying9 hs) trodAll_mk0), rfl, bel.frame _, fun h => by cases h⟩

theorem said : Rows.FnSheetNameSaid :=
  OpenClaim.holds_of_wide 4 Tryd.f4 rfl rfl rfl rfl rfl rfl rfl ⟨rfl, rfl, rfl, rfl, rfl⟩ rfl rfl rfl rfl rfl (by kernel_rfl) Tryd.func4 (by kernel_rfl)
    (of_decide_eq_true (by kernel_rfl)) (by unfold Func.isWrapper; first | (rw [if_pos (by decide +kernel)]; kernel_rfl) | (rw [if_neg (by decide +kernel)]; exact ⟨rfl, rfl⟩))
    (fun os started H enc _ => lifted os started H enc)

/-- No parameter wants a stand-in; the program's own looks are off. -/
theorem plain (f : FuncId) (fn : Func) (hf : Tryd.pinned.checked.prog.funcNamed "pub-gridwork/laws.FnSheetName" = some f) (hfn : Tryd.pinned.checked.prog.funcs[f]? = some fn) :
    false = Tryd.pinned.checked.prog.looks [] ∧ ∀ (j : Nat) t, fn.params[j]? = some t → Tryd.pinned.checked.prog.wantsStandIn t = false := by
  obtain rfl : f = 4 := Option.some.inj ((show Tryd.prog.funcNamed "pub-gridwork/laws.FnSheetName" = some 4 by kernel_rfl).symm.trans hf) |>.symm
  obtain rfl : fn = Tryd.f4 := (Option.some.inj (Tryd.func4.symm.trans hfn)).symm
  refine ⟨by kernel_rfl, fun j t ht => ?_⟩
  rw [Tryd.params4] at ht
  obtain rfl : t = 9 := by simpa using Array.mem_of_getElem? ht
  exact (show Tryd.prog.wantsStandIn 9 = false by kernel_rfl)

theorem card : Rows.FnSheetNameCardSaid :=
  Claim7.holds_tied_plain_at .later [] _ _ _ _ said (fun _ h => by cases h) (by kernel_rfl) (fun _ h => by cases h) fnSheetName_row_tie rfl ⟨rfl, rfl⟩ (by kernel_rfl) rfl plain (by kernel_rfl)
#print axioms card
end Go.Proofs.YtjefbpfpobgmaaaDoor.SheetProof
namespace Go.Proofs.YtjefbpfpobgmaaaDoor
/-- The card, under a short name, for the claim. -/
theorem fnSheetName_holds : Rows.FnSheetNameCardSaid := SheetProof.card
end Go.Proofs.YtjefbpfpobgmaaaDoor
