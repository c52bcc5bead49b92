/- The plain law of FnFilterWords: the names of an operator say the same, in a filter of three words and in one of seven. Conditions: none. -/
import Derived.Test.YtjefbpfpobgmaaaDoorEvFilt
import Derived.Test.YtjefbpfpobgmaaaDoorPFyax1
import Derived.Test.YtjefbpfpobgmaaaDoorPFybx1
import Derived.Test.YtjefbpfpobgmaaaDoorPFycx1
import Derived.Test.YtjefbpfpobgmaaaDoorPFydx1
namespace Go.Proofs.YtjefbpfpobgmaaaDoor.EvFw
open Go.RowKit Go.Proofs.YtjefbpfpobgmaaaDoorW.PrintWords Go.Proofs.YtjefbpfpobgmaaaDoorW.PrintLast Go.Proofs.YtjefbpfpobgmaaaDoorW.PrintMore
open Go.Proofs.YtjefbpfpobgmaaaDoor.PFx Go.Proofs.YtjefbpfpobgmaaaDoor.EvFilt
set_option linter.unusedVariables false
set_option linter.unusedSimpArgs false

theorem number (a n : Int) (hn : 1 ≤ n ∧ n ≤ 1000) : ∃ x, laws_gridNumber.f a n = some x ∧ 1 ≤ x ∧ x ≤ n := by
  have h1 : -n < Int.tmod a n := by have := Int.lt_tmod_of_pos a (show 0 < n by omega); omega
  have h2 : Int.tmod a n < n := Int.tmod_lt_of_pos a (by omega)
  unfold laws_gridNumber.f
  rw [if_neg (by omega)]
  by_cases h : Int.tmod a n < 0
  · rw [if_pos h]
    refine ⟨_, rfl, ?_⟩
    rw [w64s (x := Int.tmod a n + n) (by omega) (by omega), w64s (by omega) (by omega)]
    omega
  · rw [if_neg h]
    refine ⟨_, rfl, ?_⟩
    rw [w64s (by omega) (by omega)]
    omega
theorem nm_a : Nm ⟨#[97]⟩ := ⟨fun x hx => by rw [show bytesOf (⟨#[97]⟩ : ByteArray) = [97] from rfl, List.mem_singleton] at hx; rw [hx]; exact .inr (by decide), by decide, by decide⟩
theorem not_empty {s : ByteArray} (h : 1 ≤ s.size) : ¬ s.toList = ([] : List UInt8) := by
  rw [ByteArray.toList_eq]
  intro he
  have h2 : s.data.toList.length = s.size := rfl
  rw [he] at h2
  simp at h2
  omega

/-! ### Fya -/
theorem Fya_plain (a0 a1 : Int) (a2 a3 : ByteArray) (a4 a5 : Bool) (hk : laws_gridNumber.f a0 2 = some 1) (hl : laws_gridNumber.f (wrap64 (Int.tdiv a1 7)) 2 = some 1) : ∃ k, PFya.laws_FnFilterWords.f k a0 a1 a2 a3 a4 a5 = some true := by
  refine Ev.rounds (g := fun k => PFya.laws_FnFilterWords.f k a0 a1 a2 a3 a4 a5) ?_
  have outw : Ev (fun k => PFya.laws_FnFilterWords.j0 k a0 a1 a2 a3 a4 a5 true) true := Ev.step (f := fun _ => some true) (fun k => by rw [PFya.laws_FnFilterWords.j0, if_pos rfl]) (Ev.now _)
  unfold PFya.laws_FnFilterWords.f
  by_cases h1 : (a2.size : Int) > 2147483647
  · simp only [if_pos h1]; exact outw
  simp only [if_neg h1]
  by_cases h2 : (a3.size : Int) > 2147483647
  · simp only [decide_eq_true h2]; exact outw
  simp only [decide_eq_false h2]
  clear outw
  obtain ⟨S, eS, hS⟩ := letters a2 (by omega)
  obtain ⟨T, eT, hT⟩ := letters a3 (by omega)
  obtain ⟨g, eg, g1, g2⟩ := number a1 3 (by omega)
  obtain ⟨L, hL, eL⟩ := filt3 2 (.inl rfl) ⟨#[97]⟩ nm_a
  have s1 := hS.le
  have s2 := hT.le
  obtain ⟨b1, e1⟩ := special S (by omega)
  obtain ⟨b2, e2⟩ := special T (by omega)
  obtain ⟨r3, _, h3⟩ := filt3 2 (.inl rfl) S hS
  obtain ⟨r7, _, h7⟩ := filt7 2 (.inl rfl) S T hS hT 0 (by omega)
  obtain ⟨r8, _, h8⟩ := filt7 2 (.inl rfl) S T hS hT 1 (by omega)
  have hw : wrap64 (g - 1) = g - 1 := w64s (by omega) (by omega)
  have main : ∀ W, EvFilt.Op W 2 → Ev (fun k => PFya.laws_FnFilterWords.j1 k a1 S T a4 a5 [(⟨#[61]⟩ : ByteArray), (⟨#[61, 61]⟩ : ByteArray), (⟨#[101, 113]⟩ : ByteArray)] W L true false) true := by
    intro W hW
    refine Ev.step (fun k => by rw [PFya.laws_FnFilterWords.j1, if_neg (by decide), if_pos (by simp), Option.bind_some, Option.bind_some]) ?_
    cases a4 with
    | false =>
      refine Ev.congr (fun k => if_neg (by decide)) ?_
      refine Ev.bind (h3 ⟨#[120]⟩ (⟨#[61]⟩ : ByteArray) op_eq) ?_
      refine Ev.bind (h3 ⟨#[120]⟩ W hW) ?_
      exact Ev.congr (f := fun _ => some true) (fun k => (if_pos rfl).trans ((if_pos rfl).trans (congrArg some (beq_self_eq_true _)))) (Ev.now _)
    | true =>
      refine Ev.congr (fun k => by rw [if_pos rfl, Option.bind_some, hl, Option.bind_some]) ?_
      cases a5 with
      | false =>
        refine Ev.congr (fun k => by rw [if_neg (by decide), if_pos (by simp), Option.bind_some, if_pos (by simp), if_pos (by simp), Option.bind_some, if_pos (by simp)]) ?_
        refine Ev.bind (h7 ⟨#[120]⟩ (⟨#[61]⟩ : ByteArray) (⟨#[97, 110, 100]⟩ : ByteArray) op_eq lk_and) ?_
        refine Ev.bind (h7 ⟨#[120]⟩ W (⟨#[38, 38]⟩ : ByteArray) hW lk_amp) ?_
        exact Ev.congr (f := fun _ => some true) (fun k => (if_pos rfl).trans ((if_pos rfl).trans (congrArg some (beq_self_eq_true _)))) (Ev.now _)
      | true =>
        refine Ev.congr (fun k => by rw [if_pos rfl, Option.bind_some, if_pos (by simp), Option.bind_some, if_pos (by simp), if_pos (by simp), Option.bind_some, if_pos (by simp)]) ?_
        refine Ev.bind (h8 ⟨#[120]⟩ (⟨#[61]⟩ : ByteArray) ⟨#[111, 114]⟩ op_eq lk_or) ?_
        refine Ev.bind (h8 ⟨#[120]⟩ W ⟨#[124, 124]⟩ hW lk_bar) ?_
        exact Ev.congr (f := fun _ => some true) (fun k => (if_pos rfl).trans ((if_pos rfl).trans (congrArg some (beq_self_eq_true _)))) (Ev.now _)
  have lives : ∀ W, Ev (fun k => PFya.laws_FnFilterWords.j1 k a1 S T a4 a5 [(⟨#[61]⟩ : ByteArray), (⟨#[61, 61]⟩ : ByteArray), (⟨#[101, 113]⟩ : ByteArray)] W L true true) true := fun W =>
    Ev.step (f := fun _ => some true) (fun k => by rw [PFya.laws_FnFilterWords.j1, if_pos rfl, if_pos rfl, bne_iff_ne.2 (not_empty hL)]) (Ev.now _)
  have hO : EvFilt.Op (rdOf ByteArray.empty [(⟨#[61]⟩ : ByteArray), (⟨#[61, 61]⟩ : ByteArray), (⟨#[101, 113]⟩ : ByteArray)] (g - 1)) 2 := by
    have : g = 1 ∨ g = 2 ∨ g = 3 := by omega
    rcases this with rfl | rfl | rfl
    · exact op_eq
    · exact op_eqeq
    · exact op_eq_
  refine Ev.step (fun k => by rw [PFya.laws_FnFilterWords.j0, if_neg (by decide), Option.bind_some, hk, Option.bind_some, eg, Option.bind_some, hw, if_pos (by omega), if_pos (by simp; omega)]) ?_
  refine Ev.bind eS ?_
  refine Ev.bind eT ?_
  refine Ev.bind (eL ⟨#[120]⟩ ⟨#[61, 61]⟩ op_eqeq) ?_
  refine Ev.congr (fun k => (if_pos rfl).trans (if_neg (not_empty hL))) ?_
  refine Ev.bind e1 ?_
  cases b1 with
  | true => exact Ev.congr (fun k => if_pos rfl) (lives _)
  | false =>
    refine Ev.congr (fun k => if_neg (by decide)) ?_
    refine Ev.bind e2 ?_
    cases b2 with
    | true => exact lives _
    | false => exact main _ hO

/-! ### Fyb -/
theorem Fyb_plain (a0 a1 : Int) (a2 a3 : ByteArray) (a4 a5 : Bool) (hk : laws_gridNumber.f a0 2 = some 1) (hl : laws_gridNumber.f (wrap64 (Int.tdiv a1 7)) 2 = some 2) : ∃ k, PFyb.laws_FnFilterWords.f k a0 a1 a2 a3 a4 a5 = some true := by
  refine Ev.rounds (g := fun k => PFyb.laws_FnFilterWords.f k a0 a1 a2 a3 a4 a5) ?_
  have outw : Ev (fun k => PFyb.laws_FnFilterWords.j0 k a0 a1 a2 a3 a4 a5 true) true := Ev.step (f := fun _ => some true) (fun k => by rw [PFyb.laws_FnFilterWords.j0, if_pos rfl]) (Ev.now _)
  unfold PFyb.laws_FnFilterWords.f
  by_cases h1 : (a2.size : Int) > 2147483647
  · simp only [if_pos h1]; exact outw
  simp only [if_neg h1]
  by_cases h2 : (a3.size : Int) > 2147483647
  · simp only [decide_eq_true h2]; exact outw
  simp only [decide_eq_false h2]
  clear outw
  obtain ⟨S, eS, hS⟩ := letters a2 (by omega)
  obtain ⟨T, eT, hT⟩ := letters a3 (by omega)
  obtain ⟨g, eg, g1, g2⟩ := number a1 3 (by omega)
  obtain ⟨L, hL, eL⟩ := filt3 2 (.inl rfl) ⟨#[97]⟩ nm_a
  have s1 := hS.le
  have s2 := hT.le
  obtain ⟨b1, e1⟩ := special S (by omega)
  obtain ⟨b2, e2⟩ := special T (by omega)
  obtain ⟨r3, _, h3⟩ := filt3 2 (.inl rfl) S hS
  obtain ⟨r7, _, h7⟩ := filt7 2 (.inl rfl) S T hS hT 1 (by omega)
  obtain ⟨r8, _, h8⟩ := filt7 2 (.inl rfl) S T hS hT 1 (by omega)
  have hw : wrap64 (g - 1) = g - 1 := w64s (by omega) (by omega)
  have main : ∀ W, EvFilt.Op W 2 → Ev (fun k => PFyb.laws_FnFilterWords.j1 k a1 S T a4 a5 [(⟨#[61]⟩ : ByteArray), (⟨#[61, 61]⟩ : ByteArray), (⟨#[101, 113]⟩ : ByteArray)] W L true false) true := by
    intro W hW
    refine Ev.step (fun k => by rw [PFyb.laws_FnFilterWords.j1, if_neg (by decide), if_pos (by simp), Option.bind_some, Option.bind_some]) ?_
    cases a4 with
    | false =>
      refine Ev.congr (fun k => if_neg (by decide)) ?_
      refine Ev.bind (h3 ⟨#[120]⟩ (⟨#[61]⟩ : ByteArray) op_eq) ?_
      refine Ev.bind (h3 ⟨#[120]⟩ W hW) ?_
      exact Ev.congr (f := fun _ => some true) (fun k => (if_pos rfl).trans ((if_pos rfl).trans (congrArg some (beq_self_eq_true _)))) (Ev.now _)
    | true =>
      refine Ev.congr (fun k => by rw [if_pos rfl, Option.bind_some, hl, Option.bind_some]) ?_
      cases a5 with
      | false =>
        refine Ev.congr (fun k => by rw [if_neg (by decide), if_pos (by simp), Option.bind_some, if_pos (by simp), if_pos (by simp), Option.bind_some, if_pos (by simp)]) ?_
        refine Ev.bind (h7 ⟨#[120]⟩ (⟨#[61]⟩ : ByteArray) (⟨#[111, 114]⟩ : ByteArray) op_eq lk_or) ?_
        refine Ev.bind (h7 ⟨#[120]⟩ W (⟨#[124, 124]⟩ : ByteArray) hW lk_bar) ?_
        exact Ev.congr (f := fun _ => some true) (fun k => (if_pos rfl).trans ((if_pos rfl).trans (congrArg some (beq_self_eq_true _)))) (Ev.now _)
      | true =>
        refine Ev.congr (fun k => by rw [if_pos rfl, Option.bind_some, if_pos (by simp), Option.bind_some, if_pos (by simp), if_pos (by simp), Option.bind_some, if_pos (by simp)]) ?_
        refine Ev.bind (h8 ⟨#[120]⟩ (⟨#[61]⟩ : ByteArray) ⟨#[111, 114]⟩ op_eq lk_or) ?_
        refine Ev.bind (h8 ⟨#[120]⟩ W ⟨#[124, 124]⟩ hW lk_bar) ?_
        exact Ev.congr (f := fun _ => some true) (fun k => (if_pos rfl).trans ((if_pos rfl).trans (congrArg some (beq_self_eq_true _)))) (Ev.now _)
  have lives : ∀ W, Ev (fun k => PFyb.laws_FnFilterWords.j1 k a1 S T a4 a5 [(⟨#[61]⟩ : ByteArray), (⟨#[61, 61]⟩ : ByteArray), (⟨#[101, 113]⟩ : ByteArray)] W L true true) true := fun W =>
    Ev.step (f := fun _ => some true) (fun k => by rw [PFyb.laws_FnFilterWords.j1, if_pos rfl, if_pos rfl, bne_iff_ne.2 (not_empty hL)]) (Ev.now _)
  have hO : EvFilt.Op (rdOf ByteArray.empty [(⟨#[61]⟩ : ByteArray), (⟨#[61, 61]⟩ : ByteArray), (⟨#[101, 113]⟩ : ByteArray)] (g - 1)) 2 := by
    have : g = 1 ∨ g = 2 ∨ g = 3 := by omega
    rcases this with rfl | rfl | rfl
    · exact op_eq
    · exact op_eqeq
    · exact op_eq_
  refine Ev.step (fun k => by rw [PFyb.laws_FnFilterWords.j0, if_neg (by decide), Option.bind_some, hk, Option.bind_some, eg, Option.bind_some, hw, if_pos (by omega), if_pos (by simp; omega)]) ?_
  refine Ev.bind eS ?_
  refine Ev.bind eT ?_
  refine Ev.bind (eL ⟨#[120]⟩ ⟨#[61, 61]⟩ op_eqeq) ?_
  refine Ev.congr (fun k => (if_pos rfl).trans (if_neg (not_empty hL))) ?_
  refine Ev.bind e1 ?_
  cases b1 with
  | true => exact Ev.congr (fun k => if_pos rfl) (lives _)
  | false =>
    refine Ev.congr (fun k => if_neg (by decide)) ?_
    refine Ev.bind e2 ?_
    cases b2 with
    | true => exact lives _
    | false => exact main _ hO

/-! ### Fyc -/
theorem Fyc_plain (a0 a1 : Int) (a2 a3 : ByteArray) (a4 a5 : Bool) (hk : laws_gridNumber.f a0 2 = some 2) (hl : laws_gridNumber.f (wrap64 (Int.tdiv a1 7)) 2 = some 1) : ∃ k, PFyc.laws_FnFilterWords.f k a0 a1 a2 a3 a4 a5 = some true := by
  refine Ev.rounds (g := fun k => PFyc.laws_FnFilterWords.f k a0 a1 a2 a3 a4 a5) ?_
  have outw : Ev (fun k => PFyc.laws_FnFilterWords.j0 k a0 a1 a2 a3 a4 a5 true) true := Ev.step (f := fun _ => some true) (fun k => by rw [PFyc.laws_FnFilterWords.j0, if_pos rfl]) (Ev.now _)
  unfold PFyc.laws_FnFilterWords.f
  by_cases h1 : (a2.size : Int) > 2147483647
  · simp only [if_pos h1]; exact outw
  simp only [if_neg h1]
  by_cases h2 : (a3.size : Int) > 2147483647
  · simp only [decide_eq_true h2]; exact outw
  simp only [decide_eq_false h2]
  clear outw
  obtain ⟨S, eS, hS⟩ := letters a2 (by omega)
  obtain ⟨T, eT, hT⟩ := letters a3 (by omega)
  obtain ⟨g, eg, g1, g2⟩ := number a1 3 (by omega)
  obtain ⟨L, hL, eL⟩ := filt3 2 (.inl rfl) ⟨#[97]⟩ nm_a
  have s1 := hS.le
  have s2 := hT.le
  obtain ⟨b1, e1⟩ := special S (by omega)
  obtain ⟨b2, e2⟩ := special T (by omega)
  obtain ⟨r3, _, h3⟩ := filt3 5 (.inr rfl) S hS
  obtain ⟨r7, _, h7⟩ := filt7 5 (.inr rfl) S T hS hT 0 (by omega)
  obtain ⟨r8, _, h8⟩ := filt7 5 (.inr rfl) S T hS hT 1 (by omega)
  have hw : wrap64 (g - 1) = g - 1 := w64s (by omega) (by omega)
  have main : ∀ W, EvFilt.Op W 5 → Ev (fun k => PFyc.laws_FnFilterWords.j1 k a1 S T a4 a5 [(⟨#[33, 61]⟩ : ByteArray), (⟨#[110, 101]⟩ : ByteArray), (⟨#[60, 62]⟩ : ByteArray)] W L true false) true := by
    intro W hW
    refine Ev.step (fun k => by rw [PFyc.laws_FnFilterWords.j1, if_neg (by decide), if_pos (by simp), Option.bind_some, Option.bind_some]) ?_
    cases a4 with
    | false =>
      refine Ev.congr (fun k => if_neg (by decide)) ?_
      refine Ev.bind (h3 ⟨#[120]⟩ (⟨#[33, 61]⟩ : ByteArray) op_ne) ?_
      refine Ev.bind (h3 ⟨#[120]⟩ W hW) ?_
      exact Ev.congr (f := fun _ => some true) (fun k => (if_pos rfl).trans ((if_pos rfl).trans (congrArg some (beq_self_eq_true _)))) (Ev.now _)
    | true =>
      refine Ev.congr (fun k => by rw [if_pos rfl, Option.bind_some, hl, Option.bind_some]) ?_
      cases a5 with
      | false =>
        refine Ev.congr (fun k => by rw [if_neg (by decide), if_pos (by simp), Option.bind_some, if_pos (by simp), if_pos (by simp), Option.bind_some, if_pos (by simp)]) ?_
        refine Ev.bind (h7 ⟨#[120]⟩ (⟨#[33, 61]⟩ : ByteArray) (⟨#[97, 110, 100]⟩ : ByteArray) op_ne lk_and) ?_
        refine Ev.bind (h7 ⟨#[120]⟩ W (⟨#[38, 38]⟩ : ByteArray) hW lk_amp) ?_
        exact Ev.congr (f := fun _ => some true) (fun k => (if_pos rfl).trans ((if_pos rfl).trans (congrArg some (beq_self_eq_true _)))) (Ev.now _)
      | true =>
        refine Ev.congr (fun k => by rw [if_pos rfl, Option.bind_some, if_pos (by simp), Option.bind_some, if_pos (by simp), if_pos (by simp), Option.bind_some, if_pos (by simp)]) ?_
        refine Ev.bind (h8 ⟨#[120]⟩ (⟨#[33, 61]⟩ : ByteArray) ⟨#[111, 114]⟩ op_ne lk_or) ?_
        refine Ev.bind (h8 ⟨#[120]⟩ W ⟨#[124, 124]⟩ hW lk_bar) ?_
        exact Ev.congr (f := fun _ => some true) (fun k => (if_pos rfl).trans ((if_pos rfl).trans (congrArg some (beq_self_eq_true _)))) (Ev.now _)
  have lives : ∀ W, Ev (fun k => PFyc.laws_FnFilterWords.j1 k a1 S T a4 a5 [(⟨#[33, 61]⟩ : ByteArray), (⟨#[110, 101]⟩ : ByteArray), (⟨#[60, 62]⟩ : ByteArray)] W L true true) true := fun W =>
    Ev.step (f := fun _ => some true) (fun k => by rw [PFyc.laws_FnFilterWords.j1, if_pos rfl, if_pos rfl, bne_iff_ne.2 (not_empty hL)]) (Ev.now _)
  have hO : EvFilt.Op (rdOf ByteArray.empty [(⟨#[33, 61]⟩ : ByteArray), (⟨#[110, 101]⟩ : ByteArray), (⟨#[60, 62]⟩ : ByteArray)] (g - 1)) 5 := by
    have : g = 1 ∨ g = 2 ∨ g = 3 := by omega
    rcases this with rfl | rfl | rfl
    · exact op_ne
    · exact op_ne_
    · exact op_lg
  refine Ev.step (fun k => by rw [PFyc.laws_FnFilterWords.j0, if_neg (by decide), Option.bind_some, hk, Option.bind_some, eg, Option.bind_some, hw, if_pos (by omega), if_pos (by simp; omega)]) ?_
  refine Ev.bind eS ?_
  refine Ev.bind eT ?_
  refine Ev.bind (eL ⟨#[120]⟩ ⟨#[61, 61]⟩ op_eqeq) ?_
  refine Ev.congr (fun k => (if_pos rfl).trans (if_neg (not_empty hL))) ?_
  refine Ev.bind e1 ?_
  cases b1 with
  | true => exact Ev.congr (fun k => if_pos rfl) (lives _)
  | false =>
    refine Ev.congr (fun k => if_neg (by decide)) ?_
    refine Ev.bind e2 ?_
    cases b2 with
    | true => exact lives _
    | false => exact main _ hO

/-! ### Fyd -/
theorem Fyd_plain (a0 a1 : Int) (a2 a3 : ByteArray) (a4 a5 : Bool) (hk : laws_gridNumber.f a0 2 = some 2) (hl : laws_gridNumber.f (wrap64 (Int.tdiv a1 7)) 2 = some 2) : ∃ k, PFyd.laws_FnFilterWords.f k a0 a1 a2 a3 a4 a5 = some true := by
  refine Ev.rounds (g := fun k => PFyd.laws_FnFilterWords.f k a0 a1 a2 a3 a4 a5) ?_
  have outw : Ev (fun k => PFyd.laws_FnFilterWords.j0 k a0 a1 a2 a3 a4 a5 true) true := Ev.step (f := fun _ => some true) (fun k => by rw [PFyd.laws_FnFilterWords.j0, if_pos rfl]) (Ev.now _)
  unfold PFyd.laws_FnFilterWords.f
  by_cases h1 : (a2.size : Int) > 2147483647
  · simp only [if_pos h1]; exact outw
  simp only [if_neg h1]
  by_cases h2 : (a3.size : Int) > 2147483647
  · simp only [decide_eq_true h2]; exact outw
  simp only [decide_eq_false h2]
  clear outw
  obtain ⟨S, eS, hS⟩ := letters a2 (by omega)
  obtain ⟨T, eT, hT⟩ := letters a3 (by omega)
  obtain ⟨g, eg, g1, g2⟩ := number a1 3 (by omega)
  obtain ⟨L, hL, eL⟩ := filt3 2 (.inl rfl) ⟨#[97]⟩ nm_a
  have s1 := hS.le
  have s2 := hT.le
  obtain ⟨b1, e1⟩ := special S (by omega)
  obtain ⟨b2, e2⟩ := special T (by omega)
  obtain ⟨r3, _, h3⟩ := filt3 5 (.inr rfl) S hS
  obtain ⟨r7, _, h7⟩ := filt7 5 (.inr rfl) S T hS hT 1 (by omega)
  obtain ⟨r8, _, h8⟩ := filt7 5 (.inr rfl) S T hS hT 1 (by omega)
  have hw : wrap64 (g - 1) = g - 1 := w64s (by omega) (by omega)
  have main : ∀ W, EvFilt.Op W 5 → Ev (fun k => PFyd.laws_FnFilterWords.j1 k a1 S T a4 a5 [(⟨#[33, 61]⟩ : ByteArray), (⟨#[110, 101]⟩ : ByteArray), (⟨#[60, 62]⟩ : ByteArray)] W L true false) true := by
    intro W hW
    refine Ev.step (fun k => by rw [PFyd.laws_FnFilterWords.j1, if_neg (by decide), if_pos (by simp), Option.bind_some, Option.bind_some]) ?_
    cases a4 with
    | false =>
      refine Ev.congr (fun k => if_neg (by decide)) ?_
      refine Ev.bind (h3 ⟨#[120]⟩ (⟨#[33, 61]⟩ : ByteArray) op_ne) ?_
      refine Ev.bind (h3 ⟨#[120]⟩ W hW) ?_
      exact Ev.congr (f := fun _ => some true) (fun k => (if_pos rfl).trans ((if_pos rfl).trans (congrArg some (beq_self_eq_true _)))) (Ev.now _)
    | true =>
      refine Ev.congr (fun k => by rw [if_pos rfl, Option.bind_some, hl, Option.bind_some]) ?_
      cases a5 with
      | false =>
        refine Ev.congr (fun k => by rw [if_neg (by decide), if_pos (by simp), Option.bind_some, if_pos (by simp), if_pos (by simp), Option.bind_some, if_pos (by simp)]) ?_
        refine Ev.bind (h7 ⟨#[120]⟩ (⟨#[33, 61]⟩ : ByteArray) (⟨#[111, 114]⟩ : ByteArray) op_ne lk_or) ?_
        refine Ev.bind (h7 ⟨#[120]⟩ W (⟨#[124, 124]⟩ : ByteArray) hW lk_bar) ?_
        exact Ev.congr (f := fun _ => some true) (fun k => (if_pos rfl).trans ((if_pos rfl).trans (congrArg some (beq_self_eq_true _)))) (Ev.now _)
      | true =>
        refine Ev.congr (fun k => by rw [if_pos rfl, Option.bind_some, if_pos (by simp), Option.bind_some, if_pos (by simp), if_pos (by simp), Option.bind_some, if_pos (by simp)]) ?_
        refine Ev.bind (h8 ⟨#[120]⟩ (⟨#[33, 61]⟩ : ByteArray) ⟨#[111, 114]⟩ op_ne lk_or) ?_
        refine Ev.bind (h8 ⟨#[120]⟩ W ⟨#[124, 124]⟩ hW lk_bar) ?_
        exact Ev.congr (f := fun _ => some true) (fun k => (if_pos rfl).trans ((if_pos rfl).trans (congrArg some (beq_self_eq_true _)))) (Ev.now _)
  have lives : ∀ W, Ev (fun k => PFyd.laws_FnFilterWords.j1 k a1 S T a4 a5 [(⟨#[33, 61]⟩ : ByteArray), (⟨#[110, 101]⟩ : ByteArray), (⟨#[60, 62]⟩ : ByteArray)] W L true true) true := fun W =>
    Ev.step (f := fun _ => some true) (fun k => by rw [PFyd.laws_FnFilterWords.j1, if_pos rfl, if_pos rfl, bne_iff_ne.2 (not_empty hL)]) (Ev.now _)
  have hO : EvFilt.Op (rdOf ByteArray.empty [(⟨#[33, 61]⟩ : ByteArray), (⟨#[110, 101]⟩ : ByteArray), (⟨#[60, 62]⟩ : ByteArray)] (g - 1)) 5 := by
    have : g = 1 ∨ g = 2 ∨ g = 3 := by omega
    rcases this with rfl | rfl | rfl
    · exact op_ne
    · exact op_ne_
    · exact op_lg
  refine Ev.step (fun k => by rw [PFyd.laws_FnFilterWords.j0, if_neg (by decide), Option.bind_some, hk, Option.bind_some, eg, Option.bind_some, hw, if_pos (by omega), if_pos (by simp; omega)]) ?_
  refine Ev.bind eS ?_
  refine Ev.bind eT ?_
  refine Ev.bind (eL ⟨#[120]⟩ ⟨#[61, 61]⟩ op_eqeq) ?_
  refine Ev.congr (fun k => (if_pos rfl).trans (if_neg (not_empty hL))) ?_
  refine Ev.bind e1 ?_
  cases b1 with
  | true => exact Ev.congr (fun k => if_pos rfl) (lives _)
  | false =>
    refine Ev.congr (fun k => if_neg (by decide)) ?_
    refine Ev.bind e2 ?_
    cases b2 with
    | true => exact lives _
    | false => exact main _ hO

theorem law (a0 a1 : Int) (a2 a3 : ByteArray) (a4 a5 : Bool) (w : World) :
    Calls Tryd.prog 5 #[.int .i64 a0, .int .i64 a1, .string a2, .string a3, .bool a4, .bool a5] w fun e w' => e = .returned (.bool true) ∧ Below w.heap.size w w' := by
  obtain ⟨p, hp, p1, p2⟩ := number a0 2 (by omega)
  obtain ⟨q, hq, q1, q2⟩ := number (wrap64 (Int.tdiv a1 7)) 2 (by omega)
  have hp' : p = 1 ∨ p = 2 := by omega
  have hq' : q = 1 ∨ q = 2 := by omega
  rcases hp' with rfl | rfl <;> rcases hq' with rfl | rfl
  · obtain ⟨k, h⟩ := Fya_plain a0 a1 a2 a3 a4 a5 hp hq
    exact PFya.laws_FnFilterWords.calls k a0 a1 a2 a3 a4 a5 true w hp hq h
  · obtain ⟨k, h⟩ := Fyb_plain a0 a1 a2 a3 a4 a5 hp hq
    exact PFyb.laws_FnFilterWords.calls k a0 a1 a2 a3 a4 a5 true w hp hq h
  · obtain ⟨k, h⟩ := Fyc_plain a0 a1 a2 a3 a4 a5 hp hq
    exact PFyc.laws_FnFilterWords.calls k a0 a1 a2 a3 a4 a5 true w hp hq h
  · obtain ⟨k, h⟩ := Fyd_plain a0 a1 a2 a3 a4 a5 hp hq
    exact PFyd.laws_FnFilterWords.calls k a0 a1 a2 a3 a4 a5 true w hp hq h
end Go.Proofs.YtjefbpfpobgmaaaDoor.EvFw
