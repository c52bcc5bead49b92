/- FnTakeOut, plain facts: areas that do not overlap, and the law's comparison of cells. No conditions. -/
import Derived.Test.YtmcppajgfhmpaaaGreatDoorFtE
namespace Go.Proofs.YtmcppajgfhmpaaaGreatDoor.FtF
open Go.RowKit Go.Proofs.YtmcppajgfhmpaaaGreatDoorW.PrintWords Go.Proofs.YtmcppajgfhmpaaaGreatDoorW.PrintLast Go.Proofs.YtmcppajgfhmpaaaGreatDoorW.PrintMore
open Go.Proofs.YtmcppajgfhmpaaaGreatDoor.Str Go.Proofs.YtmcppajgfhmpaaaGreatDoor.FtA Go.Proofs.YtmcppajgfhmpaaaGreatDoor.FtB Go.Proofs.YtmcppajgfhmpaaaGreatDoor.FtE
set_option linter.unusedVariables false
set_option linter.unusedSimpArgs false
/-- Two areas have a cell in common; a cell lies in an area. -/
def lap (a b : Ar) : Bool := decide (a.c0 ≤ b.c1) && (decide (b.c0 ≤ a.c1) && (decide (a.r0 ≤ b.r1) && decide (b.r0 ≤ a.r1)))
def within (c r : Int) (a : Ar) : Bool := decide (a.c0 ≤ c) && (decide (c ≤ a.c1) && (decide (a.r0 ≤ r) && decide (r ≤ a.r1)))
theorem lap_eq (a b : Ar) : PTo.spec_GridOverlap.f a.c0 a.r0 a.c1 a.r1 b.c0 b.r0 b.c1 b.r1 = some (lap a b) := by
  unfold PTo.spec_GridOverlap.f lap
  by_cases h1 : a.c0 ≤ b.c1
  · by_cases h2 : b.c0 ≤ a.c1
    · by_cases h3 : a.r0 ≤ b.r1
      · rw [if_pos h1, if_pos h2, if_pos h3, decide_eq_true h1, decide_eq_true h2, decide_eq_true h3]; rfl
      · rw [if_pos h1, if_pos h2, if_neg h3, decide_eq_true h1, decide_eq_true h2, decide_eq_false h3]; rfl
    · rw [if_pos h1, if_neg h2, decide_eq_true h1, decide_eq_false h2]; rfl
  · rw [if_neg h1, decide_eq_false h1]; rfl
theorem within_eq (c r : Int) (a : Ar) : PTo.spec_GridWithin.f c r a.c0 a.r0 a.c1 a.r1 = some (within c r a) := by
  unfold PTo.spec_GridWithin.f within
  by_cases h1 : a.c0 ≤ c
  · by_cases h2 : c ≤ a.c1
    · by_cases h3 : a.r0 ≤ r
      · rw [if_pos (show c ≥ a.c0 from h1), if_pos h2, if_pos (show r ≥ a.r0 from h3), decide_eq_true h1, decide_eq_true h2, decide_eq_true h3]; rfl
      · rw [if_pos (show c ≥ a.c0 from h1), if_pos h2, if_neg (show ¬ r ≥ a.r0 from h3), decide_eq_true h1, decide_eq_true h2, decide_eq_false h3]; rfl
    · rw [if_pos (show c ≥ a.c0 from h1), if_neg h2, decide_eq_true h1, decide_eq_false h2]; rfl
  · rw [if_neg (show ¬ c ≥ a.c0 from h1), decide_eq_false h1]; rfl
/-- Areas within the limits, at most five, no two of which overlap. -/
structure Good (ars : List Ar) : Prop where
  ok : ∀ a ∈ ars, a.Ok
  top : ars.length ≤ 5
  apart : ars.Pairwise fun a b => lap b a = false
theorem apart_l1 (inp out : List Ar) (i : Nat) (a : Ar) (ha : inp[i]? = some a) (hi : i ≤ 1000) (ho : out.length ≤ 1000) (r : List PTo.S34) :
    ∀ (d j : Nat) (b v : Bool), out.length - j = d → j ≤ out.length → (b && (out.drop j).all fun o => !lap a o) = v →
      Ev (fun k => PTo.spec_GridApart.l0 k (inp.map toS) ((cond v (out ++ [a]) out).map toS) ((i + 1 : Nat) : Int)) r →
      Ev (fun k => PTo.spec_GridApart.l1 k (inp.map toS) (out.map toS) (i : Int) b (j : Int)) r := by
  have hil : i < inp.length := (List.getElem?_eq_some_iff.1 ha).1
  have e1 := rd_S inp i a ha
  have hl1 : (inp.map toS).length = inp.length := List.length_map _
  have hl2 : (out.map toS).length = out.length := List.length_map _
  intro d
  induction d with
  | zero =>
    intro j b v hd hj hv h
    obtain rfl : j = out.length := by omega
    have hv2 : v = b := by rw [← hv, List.drop_length]; simp
    subst hv2
    cases v with
    | true =>
      refine Ev.step (f := fun k => PTo.spec_GridApart.l0 k (inp.map toS) ((out ++ [a]).map toS) ((i + 1 : Nat) : Int)) (fun k => ?_) h
      rw [PTo.spec_GridApart.l1, if_neg (by omega), if_pos rfl, if_pos (by omega), if_pos (by omega), if_pos (by omega), e1, w64n _ (by omega), List.map_append]
      rfl
    | false =>
      refine Ev.step (f := fun k => PTo.spec_GridApart.l0 k (inp.map toS) (out.map toS) ((i + 1 : Nat) : Int)) (fun k => ?_) h
      rw [PTo.spec_GridApart.l1, if_neg (by omega), if_neg (by decide), w64n _ (by omega)]
  | succ d ih =>
    intro j b v hd hj hv h
    have hlt : j < out.length := by omega
    obtain ⟨o, hoo⟩ : ∃ o, out[j]? = some o := ⟨_, List.getElem?_eq_getElem hlt⟩
    have e2 := rd_S out j o hoo
    have e3 : out.drop j = o :: out.drop (j + 1) := Go.Lib.drop_at hoo
    rw [e3, List.all_cons] at hv
    cases b with
    | true =>
      rw [Bool.true_and] at hv
      refine Ev.step (fun k => by rw [PTo.spec_GridApart.l1, if_pos (by omega), if_pos rfl, if_pos (by omega), if_pos (by omega), if_pos (by omega), e1, e2, show PTo.spec_GridOverlap.f (toS a).f0 (toS a).f1 (toS a).f2 (toS a).f3 (toS o).f0 (toS o).f1 (toS o).f2 (toS o).f3 = some (lap a o) from lap_eq a o, Option.bind_some, w64n _ (by omega)]) (ih (j + 1) (!lap a o) v (by omega) (by omega) hv h)
    | false =>
      rw [Bool.false_and] at hv
      refine Ev.step (fun k => by rw [PTo.spec_GridApart.l1, if_pos (by omega), if_neg (by decide), w64n _ (by omega)]) (ih (j + 1) false v (by omega) (by omega) (by rw [Bool.false_and]; exact hv) h)
theorem apart_l0 (inp : List Ar) (hok : ∀ a ∈ inp, a.Ok) (hl : inp.length ≤ 5) : ∀ (d i : Nat) (out : List Ar), inp.length - i = d → i ≤ inp.length → out.length ≤ i → (∀ a ∈ out, a.Ok) → (out.Pairwise fun a b => lap b a = false) →
    ∃ res, Ev (fun k => PTo.spec_GridApart.l0 k (inp.map toS) (out.map toS) (i : Int)) (res.map toS) ∧ Good res := by
  have hl1 : (inp.map toS).length = inp.length := List.length_map _
  intro d
  induction d with
  | zero =>
    intro i out hd hi ho h1 h2
    exact ⟨out, Ev.step (f := fun _ => some _) (fun k => by rw [PTo.spec_GridApart.l0, if_neg (by omega)]) (Ev.now _), h1, by omega, h2⟩
  | succ d ih =>
    intro i out hd hi ho h1 h2
    have hlt : i < inp.length := by omega
    obtain ⟨a, ha⟩ : ∃ a, inp[i]? = some a := ⟨_, List.getElem?_eq_getElem hlt⟩
    obtain ⟨v, hv⟩ : ∃ v, (true && (out.drop 0).all fun o => !lap a o) = v := ⟨_, rfl⟩
    have hr : ∃ res, Ev (fun k => PTo.spec_GridApart.l0 k (inp.map toS) ((cond v (out ++ [a]) out).map toS) ((i + 1 : Nat) : Int)) (res.map toS) ∧ Good res := by
      cases v with
      | true =>
        refine ih (i + 1) (out ++ [a]) (by omega) (by omega) (by rw [List.length_append, List.length_singleton]; omega) (fun x hx => ?_) ?_
        · rcases List.mem_append.1 hx with hx | hx
          · exact h1 x hx
          · rw [List.mem_singleton.1 hx]; exact hok a (List.mem_of_getElem? ha)
        · rw [List.pairwise_append]
          refine ⟨h2, List.pairwise_singleton _ _, fun x hx y hy => ?_⟩
          rw [List.mem_singleton.1 hy]
          rw [Bool.true_and, List.drop_zero, List.all_eq_true] at hv
          simpa using hv x hx
      | false => exact ih (i + 1) out (by omega) (by omega) (by omega) h1 h2
    obtain ⟨res, hres, hg⟩ := hr
    exact ⟨res, Ev.step (fun k => by rw [PTo.spec_GridApart.l0, if_pos (by omega)]; rfl) (apart_l1 inp out i a ha (by omega) (by omega) _ _ 0 true v rfl (Nat.zero_le _) hv hres), hg⟩
theorem refApart (l : List PTo.S34) : ∃ ars, Ev (fun k => PTo.laws_refApart.f k l) (ars.map toS) ∧ Good ars := by
  have key : ∀ (d i : Nat) (acc : List Ar), 5 - i = d → i ≤ 5 → acc.length = i → (∀ a ∈ acc, a.Ok) → ∃ ars, Ev (fun k => PTo.laws_refApart.l0 k l (acc.map toS) (i : Int)) (ars.map toS) ∧ Good ars := by
    have fin : ∀ acc : List Ar, acc.length ≤ 5 → (∀ a ∈ acc, a.Ok) → ∃ ars, Ev (fun k => (PTo.spec_GridApart.f k (acc.map toS)).bind fun t => some t) (ars.map toS) ∧ Good ars := by
      intro acc hl hok
      obtain ⟨res, h1, h2⟩ := apart_l0 acc hok hl acc.length 0 [] (by omega) (Nat.zero_le _) (Nat.le_refl _) (fun a ha => by cases ha) List.Pairwise.nil
      refine ⟨res, Ev.bind (a := res.map toS) ?_ (Ev.now _), h2⟩
      unfold PTo.spec_GridApart.f
      exact h1
    intro d
    induction d with
    | zero =>
      intro i acc hd hi hl hok
      obtain ⟨ars, h1, h2⟩ := fin acc (by omega) hok
      refine ⟨ars, ?_, h2⟩
      by_cases hli : (i : Int) < (l.length : Int)
      · exact Ev.step (fun k => by rw [PTo.laws_refApart.l0, if_pos hli, if_neg (by omega)]) h1
      · exact Ev.step (fun k => by rw [PTo.laws_refApart.l0, if_neg hli]) h1
    | succ d ih =>
      intro i acc hd hi hl hok
      by_cases hli : (i : Int) < (l.length : Int)
      · obtain ⟨x, hx, hxo⟩ := area (PTo.rd_T34 l (i : Int)).f0 (PTo.rd_T34 l (i : Int)).f1 (PTo.rd_T34 l (i : Int)).f2 (PTo.rd_T34 l (i : Int)).f3
        obtain ⟨ars, h1, h2⟩ := ih (i + 1) (acc ++ [x]) (by omega) (by omega) (by rw [List.length_append, List.length_singleton]; omega) (fun a ha => by
          rcases List.mem_append.1 ha with ha | ha
          · exact hok a ha
          · rw [List.mem_singleton.1 ha]; exact hxo)
        refine ⟨ars, ?_, h2⟩
        refine Ev.step (fun k => by rw [PTo.laws_refApart.l0, if_pos hli, if_pos (by omega), if_pos (by omega)]) ?_
        refine Ev.bind hx ?_
        refine Ev.congr (fun k => ?_) h1
        dsimp only
        rw [if_pos (by rw [List.length_map]; omega), w64n _ (by omega), List.map_append]
        rfl
      · obtain ⟨ars, h1, h2⟩ := fin acc (by omega) hok
        exact ⟨ars, Ev.step (fun k => by rw [PTo.laws_refApart.l0, if_neg hli]) h1, h2⟩
  unfold PTo.laws_refApart.f
  exact key 5 0 [] rfl (by omega) rfl (fun a ha => by cases ha)
/-! ### the comparison -/
/-- A column of the answer has the cell. -/
def has (cols : List PTo.S63) (c r : Int) : Bool := cols.any fun x => decide (x.f0 = c) && x.f1.any fun y => decide (y = r)
theorem rd_T63_at (cols : List PTo.S63) (i : Nat) (x : PTo.S63) (h : cols[i]? = some x) : PTo.rd_T63 cols (i : Int) = x := by
  unfold PTo.rd_T63
  rw [List.getD_eq_getElem?_getD, Int.toNat_natCast, h]; rfl
theorem rd_at (xs : List Int) (j : Nat) (y : Int) (h : xs[j]? = some y) : rd xs (j : Int) = y := by
  unfold rd
  rw [show ((j : Nat) : Int).toNat = j by omega, List.getD_eq_getElem?_getD, h]; rfl
theorem has_l1 (cols : List PTo.S63) (c r : Int) (i : Nat) (x : PTo.S63) (hx : cols[i]? = some x) (hi : i ≤ 100000) (hz : x.f1.length ≤ 1000000 * 10) (R : Bool) :
    ∀ (d j : Nat), x.f1.length - j = d → j ≤ x.f1.length → (if (decide (x.f0 = c) && (x.f1.drop j).any fun y => decide (y = r)) = true then R = true else Ev (fun k => PTo.laws_refHas.l0 k cols c r ((i + 1 : Nat) : Int)) R) →
      Ev (fun k => PTo.laws_refHas.l1 k cols c r (i : Int) (j : Int)) R := by
  have hil : i < cols.length := (List.getElem?_eq_some_iff.1 hx).1
  have e1 := rd_T63_at cols i x hx
  intro d
  induction d with
  | zero =>
    intro j hd hj h
    obtain rfl : j = x.f1.length := by omega
    rw [List.drop_length, if_neg (by simp)] at h
    exact Ev.step (fun k => by rw [PTo.laws_refHas.l1, if_pos (by omega), if_pos (by omega), e1, if_neg (by omega), w64n _ (by omega)]) h
  | succ d ih =>
    intro j hd hj h
    have hlt : j < x.f1.length := by omega
    obtain ⟨y, hy⟩ : ∃ y, x.f1[j]? = some y := ⟨_, List.getElem?_eq_getElem hlt⟩
    have e2 := rd_at x.f1 j y hy
    rw [Go.Lib.drop_at hy, List.any_cons] at h
    by_cases hc : x.f0 = c
    · by_cases hr : y = r
      · rw [if_pos (by rw [decide_eq_true hc, decide_eq_true hr]; rfl)] at h
        subst h
        exact Ev.step (f := fun _ => some true) (fun k => by rw [PTo.laws_refHas.l1, if_pos (by omega), if_pos (by omega), e1, if_pos (by omega), if_pos hc, if_pos (by omega), e2, if_pos hr]) (Ev.now _)
      · rw [decide_eq_false hr, Bool.false_or] at h
        exact Ev.step (fun k => by rw [PTo.laws_refHas.l1, if_pos (by omega), if_pos (by omega), e1, if_pos (by omega), if_pos hc, if_pos (by omega), e2, if_neg hr, w64n _ (by omega)]) (ih (j + 1) (by omega) (by omega) h)
    · rw [decide_eq_false hc, Bool.false_and, if_neg (by decide)] at h
      exact Ev.step (fun k => by rw [PTo.laws_refHas.l1, if_pos (by omega), if_pos (by omega), e1, if_pos (by omega), if_neg hc, w64n _ (by omega)]) (ih (j + 1) (by omega) (by omega) (by rw [decide_eq_false hc, Bool.false_and, if_neg (by decide)]; exact h))
theorem refHas (cols : List PTo.S63) (hl : cols.length ≤ 100000) (hz : ∀ x ∈ cols, x.f1.length ≤ 1000000 * 10) (c r : Int) : Ev (fun k => PTo.laws_refHas.f k cols c r) (has cols c r) := by
  have key : ∀ (d i : Nat), cols.length - i = d → i ≤ cols.length → Ev (fun k => PTo.laws_refHas.l0 k cols c r (i : Int)) (has (cols.drop i) c r) := by
    intro d
    induction d with
    | zero =>
      intro i hd hi
      obtain rfl : i = cols.length := by omega
      rw [List.drop_length]
      exact Ev.step (f := fun _ => some _) (fun k => by rw [PTo.laws_refHas.l0, if_neg (by omega)]; rfl) (Ev.now _)
    | succ d ih =>
      intro i hd hi
      have hlt : i < cols.length := by omega
      obtain ⟨x, hx⟩ : ∃ x, cols[i]? = some x := ⟨_, List.getElem?_eq_getElem hlt⟩
      refine Ev.step (fun k => by rw [PTo.laws_refHas.l0, if_pos (by omega)]; rfl) (has_l1 cols c r i x hx (by omega) (hz x (List.mem_of_getElem? hx)) _ x.f1.length 0 (by omega) (Nat.zero_le _) ?_)
      rw [Go.Lib.drop_at hx, List.drop_zero]
      have e : has (x :: cols.drop (i + 1)) c r = ((decide (x.f0 = c) && x.f1.any fun y => decide (y = r)) || has (cols.drop (i + 1)) c r) := rfl
      rw [e]
      by_cases h : (decide (x.f0 = c) && x.f1.any fun y => decide (y = r)) = true
      · rw [if_pos h, h]; rfl
      · rw [if_neg h, Bool.eq_false_iff.2 h, Bool.false_or]; exact ih (i + 1) (by omega) (by omega)
  unfold PTo.laws_refHas.f
  have h := key cols.length 0 (by omega) (Nat.zero_le _)
  rw [List.drop_zero] at h
  exact h
theorem covers (cols : List PTo.S63) (hl : cols.length ≤ 100000) (hz : ∀ x ∈ cols, x.f1.length ≤ 1000000 * 10) (inp out : List Ar) (h1 : inp.length ≤ 1000) (h2 : out.length ≤ 1000)
    (H : ∀ c r : Int, 1 ≤ c → c ≤ 30 → 1 ≤ r → r ≤ 60 → has cols c r = (inp.any (within c r) && !out.any (within c r))) : Ev (fun k => PTo.laws_refCovers.f k cols (inp.map toS) (out.map toS)) true := by
  have hl1 : (inp.map toS).length = inp.length := List.length_map _
  have hl2 : (out.map toS).length = out.length := List.length_map _
  have l3 : ∀ (c r : Int), ∀ (d j : Nat) (b : Bool), out.length - j = d → j ≤ out.length → has cols c r = (b && !(out.drop j).any (within c r)) → Ev (fun k => PTo.laws_refCovers.l1 k cols (inp.map toS) (out.map toS) c (wrap64 (r + 1))) true →
      Ev (fun k => PTo.laws_refCovers.l3 k cols (inp.map toS) (out.map toS) c r b (j : Int)) true := by
    intro c r d
    induction d with
    | zero =>
      intro j b hd hj hb h
      obtain rfl : j = out.length := by omega
      rw [List.drop_length] at hb
      have hb2 : has cols c r = b := by simpa using hb
      refine Ev.step (fun k => by rw [PTo.laws_refCovers.l3, if_neg (by omega)]) ?_
      refine Ev.bind (refHas cols hl hz c r) ?_
      exact Ev.congr (fun k => by rw [hb2, if_neg (by simp)]) h
    | succ d ih =>
      intro j b hd hj hb h
      have hlt : j < out.length := by omega
      obtain ⟨o, ho⟩ : ∃ o, out[j]? = some o := ⟨_, List.getElem?_eq_getElem hlt⟩
      have e2 := rd_S out j o ho
      rw [Go.Lib.drop_at ho, List.any_cons] at hb
      cases b with
      | true =>
        refine Ev.step (fun k => by rw [PTo.laws_refCovers.l3, if_pos (by omega), if_pos rfl, if_pos (by omega), e2, show PTo.spec_GridWithin.f c r (toS o).f0 (toS o).f1 (toS o).f2 (toS o).f3 = some (within c r o) from within_eq c r o, Option.bind_some, w64n _ (by omega)]) (ih (j + 1) (!within c r o) (by omega) (by omega) (by rw [hb, Bool.true_and, Bool.not_or]) h)
      | false =>
        refine Ev.step (fun k => by rw [PTo.laws_refCovers.l3, if_pos (by omega), if_neg (by decide), w64n _ (by omega)]) (ih (j + 1) false (by omega) (by omega) (by rw [hb, Bool.false_and, Bool.false_and]) h)
  have l2 : ∀ (c r : Int), ∀ (d j : Nat) (b : Bool), inp.length - j = d → j ≤ inp.length → has cols c r = ((b || (inp.drop j).any (within c r)) && !out.any (within c r)) → Ev (fun k => PTo.laws_refCovers.l1 k cols (inp.map toS) (out.map toS) c (wrap64 (r + 1))) true →
      Ev (fun k => PTo.laws_refCovers.l2 k cols (inp.map toS) (out.map toS) c r b (j : Int)) true := by
    intro c r d
    induction d with
    | zero =>
      intro j b hd hj hb h
      obtain rfl : j = inp.length := by omega
      rw [List.drop_length, List.any_nil, Bool.or_false] at hb
      exact Ev.step (fun k => by rw [PTo.laws_refCovers.l2, if_neg (by omega)]; rfl) (l3 c r out.length 0 b (by omega) (Nat.zero_le _) (by rw [List.drop_zero]; exact hb) h)
    | succ d ih =>
      intro j b hd hj hb h
      have hlt : j < inp.length := by omega
      obtain ⟨o, ho⟩ : ∃ o, inp[j]? = some o := ⟨_, List.getElem?_eq_getElem hlt⟩
      have e2 := rd_S inp j o ho
      rw [Go.Lib.drop_at ho, List.any_cons] at hb
      cases b with
      | true =>
        refine Ev.step (fun k => by rw [PTo.laws_refCovers.l2, if_pos (by omega), if_pos rfl, w64n _ (by omega)]) (ih (j + 1) true (by omega) (by omega) (by rw [hb, Bool.true_or, Bool.true_or]) h)
      | false =>
        refine Ev.step (fun k => by rw [PTo.laws_refCovers.l2, if_pos (by omega), if_neg (by decide), if_pos (by omega), e2, show PTo.spec_GridWithin.f c r (toS o).f0 (toS o).f1 (toS o).f2 (toS o).f3 = some (within c r o) from within_eq c r o, Option.bind_some, w64n _ (by omega)]) (ih (j + 1) (within c r o) (by omega) (by omega) (by rw [hb, Bool.false_or]) h)
  have l1 : ∀ (c : Int), 1 ≤ c → c ≤ 30 → Ev (fun k => PTo.laws_refCovers.l0 k cols (inp.map toS) (out.map toS) (wrap64 (c + 1))) true → ∀ (d : Nat) (r : Int), (61 - r).toNat = d → 1 ≤ r → r ≤ 61 → Ev (fun k => PTo.laws_refCovers.l1 k cols (inp.map toS) (out.map toS) c r) true := by
    intro c c1 c2 h d
    induction d with
    | zero =>
      intro r hd r1 r2
      exact Ev.step (fun k => by rw [PTo.laws_refCovers.l1, if_neg (by omega)]) h
    | succ d ih =>
      intro r hd r1 r2
      refine Ev.step (fun k => by rw [PTo.laws_refCovers.l1, if_pos (by omega)]; rfl) (l2 c r inp.length 0 false (by omega) (Nat.zero_le _) (by rw [List.drop_zero, Bool.false_or]; exact H c r c1 c2 r1 (by omega)) ?_)
      rw [w64s (by omega) (by omega)]
      exact ih (r + 1) (by omega) (by omega) (by omega)
  have l0 : ∀ (d : Nat) (c : Int), (31 - c).toNat = d → 1 ≤ c → c ≤ 31 → Ev (fun k => PTo.laws_refCovers.l0 k cols (inp.map toS) (out.map toS) c) true := by
    intro d
    induction d with
    | zero =>
      intro c hd c1 c2
      exact Ev.step (f := fun _ => some true) (fun k => by rw [PTo.laws_refCovers.l0, if_neg (by omega)]) (Ev.now _)
    | succ d ih =>
      intro c hd c1 c2
      refine Ev.step (fun k => by rw [PTo.laws_refCovers.l0, if_pos (by omega)]) (l1 c c1 (by omega) ?_ 60 1 (by omega) (by omega) (by omega))
      rw [w64s (by omega) (by omega)]
      exact ih (c + 1) (by omega) (by omega) (by omega)
  unfold PTo.laws_refCovers.f
  exact l0 30 1 (by omega) (by omega) (by omega)
/-! ### a cell's place among a column's rows -/
def place (r : Int) : List Int → Option Nat
  | [] => none
  | x :: xs => if x = r then some 0 else (place r xs).map (· + 1)
def placeI (r : Int) (l : List Int) : Int := match place r l with | some j => (j : Int) | none => -1
theorem place_spec (r : Int) : ∀ (l : List Int), (place r l = none → l.erase r = l ∧ r ∉ l) ∧ ∀ j, place r l = some j → j < l.length ∧ l.eraseIdx j = l.erase r
  | [] => ⟨fun _ => ⟨rfl, by simp⟩, fun j h => by cases h⟩
  | x :: xs => by
    obtain ⟨h1, h2⟩ := place_spec r xs
    unfold place
    by_cases e : x = r
    · rw [if_pos e]
      refine ⟨fun h => (by cases h), fun j h => ?_⟩
      cases h
      subst e
      exact ⟨by simp, by simp⟩
    · rw [if_neg e]
      refine ⟨fun h => ?_, fun j h => ?_⟩
      · have h3 := h1 (Option.map_eq_none_iff.1 h)
        refine ⟨?_, fun hm => ?_⟩
        · rw [List.erase_cons_tail (by simpa using e), h3.1]
        · rcases List.mem_cons.1 hm with hm | hm
          · exact e hm.symm
          · exact h3.2 hm
      · obtain ⟨i, hi, rfl⟩ := Option.map_eq_some_iff.1 h
        have h3 := h2 i hi
        exact ⟨by rw [List.length_cons]; omega, by rw [List.erase_cons_tail (by simpa using e), ← h3.2]; rfl⟩
theorem prs_at (c : Int) (rows : List Int) (i : Nat) (x : Int) (h : rows[i]? = some x) : PTo.rd_L3 (prs c rows) (i : Int) = [c, x] := by
  unfold PTo.rd_L3 prs
  rw [show ((i : Nat) : Int).toNat = i by omega, List.getD_eq_getElem?_getD, List.getElem?_map, h]; rfl
theorem inCoords (c r : Int) (rows : List Int) (hl : rows.length ≤ 1000000) : Ev (fun k => PTo.excelize_inCoordinates.f k (prs c rows) [c, r]) (placeI r rows) := by
  have hp : (prs c rows).length = rows.length := prs_len c rows
  have key : ∀ (d i : Nat), rows.length - i = d → i ≤ rows.length → Ev (fun k => PTo.excelize_inCoordinates.l0 k [c, r] (prs c rows) ((prs c rows).length : Int) (i : Int)) (match place r (rows.drop i) with | some j => ((i + j : Nat) : Int) | none => -1) := by
    intro d
    induction d with
    | zero =>
      intro i hd hi
      obtain rfl : i = rows.length := by omega
      rw [List.drop_length]
      exact Ev.step (f := fun _ => some _) (fun k => by rw [PTo.excelize_inCoordinates.l0, if_neg (by omega)]; rfl) (Ev.now _)
    | succ d ih =>
      intro i hd hi
      have hlt : i < rows.length := by omega
      obtain ⟨x, hx⟩ : ∃ x, rows[i]? = some x := ⟨_, List.getElem?_eq_getElem hlt⟩
      have e1 := prs_at c rows i x hx
      have h' := ih (i + 1) (by omega) (by omega)
      rw [Go.Lib.drop_at hx]
      unfold place
      by_cases e : x = r
      · rw [if_pos e]
        exact Ev.step (f := fun _ => some _) (fun k => by rw [PTo.excelize_inCoordinates.l0, if_pos (by omega), if_pos (by omega), if_pos (by omega), if_pos (by simp), e1, if_pos (by simp), if_pos (show rd [c, r] 0 = rd [c, x] 0 from rfl), if_pos (by simp), if_pos (by simp), if_pos (show rd [c, r] 1 = rd [c, x] 1 from e.symm)]; rfl) (Ev.now _)
      · rw [if_neg e]
        refine Ev.step (fun k => by rw [PTo.excelize_inCoordinates.l0, if_pos (by omega), if_pos (by omega), if_pos (by omega), if_pos (by simp), e1, if_pos (by simp), if_pos (show rd [c, r] 0 = rd [c, x] 0 from rfl), if_pos (by simp), if_pos (by simp), if_neg (show ¬ rd [c, r] 1 = rd [c, x] 1 from fun h => e h.symm), w64n _ (by omega)]) ?_
        cases hpl : place r (rows.drop (i + 1)) with
        | none => rw [hpl] at h'; exact h'
        | some j =>
          rw [hpl] at h'
          have e4 : ((i + (j + 1) : Nat) : Int) = ((i + 1 + j : Nat) : Int) := by omega
          show Ev _ ((i + (j + 1) : Nat) : Int)
          rw [e4]
          exact h'
  unfold PTo.excelize_inCoordinates.f
  have h := key rows.length 0 (by omega) (Nat.zero_le _)
  rw [List.drop_zero] at h
  unfold placeI
  cases hpl : place r rows with
  | none => rw [hpl] at h; exact h
  | some j =>
    rw [hpl] at h
    have h2 : Ev (fun k => PTo.excelize_inCoordinates.l0 k [c, r] (prs c rows) ((prs c rows).length : Int) 0) ((0 + j : Nat) : Int) := h
    rw [Nat.zero_add] at h2
    exact h2
/-- The rows left when others are taken out. -/
def left (rows out : List Int) : List Int := out.foldl (fun a r => a.erase r) rows
theorem left_sub (out : List Int) : ∀ rows : List Int, (left rows out).Sublist rows := by
  induction out with
  | nil => exact fun rows => List.Sublist.refl _
  | cons r out ih => exact fun rows => (ih _).trans List.erase_sublist
theorem mem_left (out : List Int) : ∀ rows : List Int, rows.Nodup → ∀ x, x ∈ left rows out ↔ x ∈ rows ∧ x ∉ out := by
  induction out with
  | nil => intro rows _ x; simp [left]
  | cons r out ih =>
    intro rows hn x
    have h := ih (rows.erase r) (hn.sublist List.erase_sublist) x
    have e : left rows (r :: out) = left (rows.erase r) out := rfl
    rw [e, h, hn.mem_erase_iff, List.mem_cons]
    constructor
    · rintro ⟨⟨h1, h2⟩, h3⟩
      exact ⟨h2, fun hh => hh.elim h1 h3⟩
    · rintro ⟨h1, h2⟩
      exact ⟨⟨fun e => h2 (.inl e), h1⟩, fun e => h2 (.inr e)⟩
theorem lt_of_sorted {l : List Int} (h : l.Pairwise (· ≤ ·)) (hn : l.Nodup) : l.Pairwise (· < ·) := by
  have := h.and hn
  exact this.imp fun h => by omega
theorem sorted_len (l : List Int) (hp : l.Pairwise (· < ·)) (hb : ∀ x ∈ l, 1 ≤ x ∧ x ≤ 60) : l.length ≤ 60 := by
  have key : ∀ (l : List Int) (m : Int), l.Pairwise (· < ·) → (∀ x ∈ l, m ≤ x ∧ x ≤ 60) → m ≤ 61 → (l.length : Int) ≤ 61 - m := by
    intro l
    induction l with
    | nil => intro m _ _ hm; simp; omega
    | cons x xs ih =>
      intro m hp hb hm
      have hx := hb x List.mem_cons_self
      have hp' := List.pairwise_cons.1 hp
      have := ih (x + 1) hp'.2 (fun y hy => ⟨by have := hp'.1 y hy; omega, (hb y (List.mem_cons_of_mem _ hy)).2⟩) (by omega)
      rw [List.length_cons]
      omega
  have := key l 1 hp hb (by omega)
  omega
/-- The cells of areas that do not overlap: no row twice. -/
theorem rowsTo_nodup (a : Ar) (r : Int) : (rowsTo a r).Nodup := by
  unfold rowsTo
  exact List.pairwise_map.2 (List.nodup_range.imp fun h e => h (by omega))
theorem flats_nodup (ars : List Ar) (h : ars.Pairwise fun a b => lap b a = false) (c : Int) : (flats ars c).Nodup := by
  have key : ∀ (ars : List Ar) (l : Int → List Int), (ars.Pairwise fun a b => lap b a = false) → (l c).Nodup → (∀ a ∈ ars, ∀ r ∈ l c, ¬ within c r a = true) → ((ars.foldl flatA l) c).Nodup := by
    intro ars
    induction ars with
    | nil => intro l _ h _; exact h
    | cons a ars ih =>
      intro l hp hn hl
      have hp' := List.pairwise_cons.1 hp
      rw [List.foldl_cons]
      refine ih (flatA l a) hp'.2 ?_ ?_
      · unfold flatA
        by_cases h : a.c0 ≤ c ∧ c ≤ a.c1
        · rw [if_pos h, List.nodup_append]
          refine ⟨hn, rowsTo_nodup _ _, fun x hx y hy e => ?_⟩
          subst e
          have h1 := (mem_rowsTo _ _ _).1 hy
          refine hl a List.mem_cons_self x hx ?_
          unfold within
          rw [decide_eq_true h.1, decide_eq_true h.2, decide_eq_true h1.1, decide_eq_true (show x ≤ a.r1 by omega)]
          rfl
        · rw [if_neg h]; exact hn
      · intro b hb r hr hw
        unfold flatA at hr
        by_cases h : a.c0 ≤ c ∧ c ≤ a.c1
        · rw [if_pos h] at hr
          rcases List.mem_append.1 hr with hr | hr
          · exact hl b (List.mem_cons_of_mem _ hb) r hr hw
          · have h1 := (mem_rowsTo _ _ _).1 hr
            have h2 := hp'.1 b hb
            unfold within at hw
            simp only [Bool.and_eq_true, decide_eq_true_eq] at hw
            unfold lap at h2
            rw [decide_eq_true (show b.c0 ≤ a.c1 by omega), decide_eq_true (show a.c0 ≤ b.c1 by omega), decide_eq_true (show b.r0 ≤ a.r1 by omega), decide_eq_true (show a.r0 ≤ b.r1 by omega)] at h2
            cases h2
        · rw [if_neg h] at hr
          exact hl b (List.mem_cons_of_mem _ hb) r hr hw
  exact key ars (fun _ => []) h List.nodup_nil (fun a _ r hr => by cases hr)
end Go.Proofs.YtmcppajgfhmpaaaGreatDoor.FtF
