/- Plain facts on the printed functions of FnFilterWords: the letters of a text, and what the filter of three or seven words says. No conditions. -/
import Derived.Test.YtjefbpfpobgmaaaDoorPFxx2
import Derived.Test.YtjefbpfpobgmaaaDoorPFxx3
import Derived.Test.YtjefbpfpobgmaaaDoorPFxx6
import Derived.Test.YtjefbpfpobgmaaaDoorPFxx7
namespace Go.Proofs.YtjefbpfpobgmaaaDoor.EvFilt
open Go.RowKit Go.Proofs.YtjefbpfpobgmaaaDoorW.PrintWords Go.Proofs.YtjefbpfpobgmaaaDoorW.PrintLast Go.Proofs.YtjefbpfpobgmaaaDoorW.PrintMore
open Go.Proofs.YtjefbpfpobgmaaaDoor.PFx
set_option linter.unusedVariables false
set_option linter.unusedSimpArgs false

theorem w64 (x : Int) (h : -9223372036854775808 ≤ x) (h2 : x ≤ 9223372036854775807) : wrap64 x = x := by unfold wrap64; omega

theorem bytes_inj {a b : ByteArray} (h : bytesOf a = bytesOf b) : a = b := by
  have h1 : a.data.toList = b.data.toList := by
    unfold bytesOf at h
    have hinj : ∀ (l m : List UInt8), l.map (fun b => (b.toNat : Int)) = m.map (fun b => (b.toNat : Int)) → l = m := by
      intro l
      induction l with
      | nil => intro m hm; cases m with
        | nil => rfl
        | cons x m => simp at hm
      | cons x l ih => intro m hm; cases m with
        | nil => simp at hm
        | cons y m =>
          simp only [List.map_cons, List.cons.injEq] at hm
          have hxy : x = y := by
            have : x.toNat = y.toNat := by omega
            exact UInt8.toNat_inj.1 this
          rw [hxy, ih m hm.2]
    exact hinj _ _ h
  cases a; cases b
  simp only [ByteArray.mk.injEq]
  exact Array.toList_inj.1 h1
theorem bytes_append (a b : ByteArray) : bytesOf (a ++ b) = bytesOf a ++ bytesOf b := by
  unfold bytesOf
  rw [ByteArray.data_append, Array.toList_append, List.map_append]
theorem bytes_extract (s : ByteArray) (a b : Nat) : bytesOf (s.extract a b) = ((bytesOf s).drop a).take (b - a) := by
  unfold bytesOf
  rw [ByteArray.data_extract, Array.toList_extract, List.extract_eq_take_drop, List.map_take, List.map_drop]
theorem bytes_get (s : ByteArray) (i : Nat) (h : i < s.size) : (bytesOf s)[i]? = some (bt s (i : Int)) := by
  unfold bytesOf bt
  have h1 : i < s.data.toList.length := h
  simp only [List.getElem?_map, Int.toNat_natCast, h, dif_pos]
  rw [List.getElem?_eq_getElem h1]
  rfl
theorem bytes_range (s : ByteArray) : ∀ x ∈ bytesOf s, 0 ≤ x ∧ x ≤ 255 := by
  intro x hx
  unfold bytesOf at hx
  obtain ⟨b, _, rfl⟩ := List.mem_map.1 hx
  have := b.toNat_lt
  omega
theorem str_bytes (l : List Int) (h : ∀ x ∈ l, 0 ≤ x ∧ x ≤ 255) : bytesOf (strOfNums l) = l := by
  unfold bytesOf
  rw [strOfNums_data, List.map_map]
  conv => rhs; rw [← List.map_id l]
  apply List.map_congr_left
  intro x hx
  have := h x hx
  simp only [Function.comp, id_eq, UInt8.toNat_ofNat']
  omega
theorem bytes_str (s : ByteArray) : strOfNums (bytesOf s) = s := bytes_inj (str_bytes _ (bytes_range s))
theorem toList_eq_iff (a b : ByteArray) : a.toList = b.toList ↔ bytesOf a = bytesOf b := by
  rw [ByteArray.toList_eq, ByteArray.toList_eq]
  constructor
  · intro h; unfold bytesOf; rw [h]
  · intro h; rw [bytes_inj h]
theorem bt_bytes (s : ByteArray) (i : Nat) (c : Int) (h : (bytesOf s)[i]? = some c) : bt s (i : Int) = c := by
  have hl : i < s.size := by
    have := (List.getElem?_eq_some_iff.1 h).1
    rwa [bytesOf_length] at this
  rw [bytes_get s i hl] at h
  exact Option.some.inj h

/-! The search at one byte. -/
theorem w64s {x : Int} (h : 0 ≤ x) (h2 : x ≤ 4611686018427387904) : wrap64 x = x := by unfold wrap64; omega
/-- A letter; a capital letter or digit. -/
def Let (x : Int) : Prop := (65 ≤ x ∧ x ≤ 90) ∨ (97 ≤ x ∧ x ≤ 122)
def Aln (x : Int) : Prop := (65 ≤ x ∧ x ≤ 90) ∨ (48 ≤ x ∧ x ≤ 57)
/-- A sheet's name here. -/
structure Nm (s : ByteArray) : Prop where
  all : ∀ x ∈ bytesOf s, Let x
  ne : 1 ≤ s.size
  le : s.size ≤ 20
theorem plain_one (s : ByteArray) (hs : s.size = 1) : ∃ b, Ev (fun k => laws_refPlain.f k s) b ∧ (b = true → Let (bt s 0)) := by
  have hl : (s.toList != ([] : List UInt8)) = true := by
    rw [ByteArray.toList_eq]
    have : s.data.toList.length = 1 := hs
    cases h : s.data.toList with
    | nil => rw [h] at this; cases this
    | cons a l => rfl
  have ht : Ev (fun k => laws_refPlain.l0 k s (wrap64 (0 + 1))) true := by
    refine Ev.step (f := fun _ => some true) (fun k => ?_) (Ev.now _)
    rw [laws_refPlain.l0, if_neg (by rw [w64s (by omega) (by omega)]; omega), hl]
  unfold laws_refPlain.f
  by_cases h1 : bt s 0 ≥ 97
  · by_cases h2 : bt s 0 ≤ 122
    · exact ⟨true, Ev.step (fun k => by rw [laws_refPlain.l0, if_pos (by omega), if_pos (by omega), if_pos h1, if_pos h2]) ht, fun _ => .inr ⟨h1, h2⟩⟩
    · exact ⟨false, Ev.step (f := fun _ => some false) (fun k => by rw [laws_refPlain.l0, if_pos (by omega), if_pos (by omega), if_pos h1, if_neg h2, if_pos (by omega), if_neg (by omega)]) (Ev.now _), fun h => by cases h⟩
  · by_cases h2 : bt s 0 ≥ 65
    · by_cases h3 : bt s 0 ≤ 90
      · exact ⟨true, Ev.step (fun k => by rw [laws_refPlain.l0, if_pos (by omega), if_pos (by omega), if_neg h1, if_pos h2, if_pos h3]) ht, fun _ => .inl ⟨h2, h3⟩⟩
      · exact ⟨false, Ev.step (f := fun _ => some false) (fun k => by rw [laws_refPlain.l0, if_pos (by omega), if_pos (by omega), if_neg h1, if_pos h2, if_neg h3]) (Ev.now _), fun h => by cases h⟩
    · exact ⟨false, Ev.step (f := fun _ => some false) (fun k => by rw [laws_refPlain.l0, if_pos (by omega), if_pos (by omega), if_neg h1, if_neg h2]) (Ev.now _), fun h => by cases h⟩
theorem extract_one (s : ByteArray) (i : Nat) (h : i < s.size) : (s.extract i (i + 1)).size = 1 ∧ bt (s.extract i (i + 1)) 0 = bt s (i : Int) := by
  have hz : (s.extract i (i + 1)).size = 1 := by rw [ByteArray.size_extract]; omega
  refine ⟨hz, ?_⟩
  have h2 : bytesOf (s.extract i (i + 1)) = [bt s (i : Int)] := by
    rw [bytes_extract, show i + 1 - i = 1 by omega, List.take_one, List.head?_drop, bytes_get s i h]; rfl
  exact bt_bytes _ 0 _ (by rw [h2]; rfl)
theorem out_name (l : List Int) (h : ∀ x ∈ l, Let x) (hl : l.length ≤ 20) : ∃ t, (if (l.length : Int) = 0 then some (⟨#[120]⟩ : ByteArray) else some (strOfNums l)) = some t ∧ Nm t := by
  by_cases h0 : (l.length : Int) = 0
  · exact ⟨_, if_pos h0, fun x hx => by rw [show bytesOf (⟨#[120]⟩ : ByteArray) = [120] from rfl, List.mem_singleton] at hx; rw [hx]; exact .inr (by decide), by decide, by decide⟩
  · have hb : bytesOf (strOfNums l) = l := str_bytes l (fun x hx => by have := h x hx; unfold Let at this; omega)
    have hz : (strOfNums l).size = l.length := by rw [← bytesOf_length, hb]
    exact ⟨_, if_neg h0, by rw [hb]; exact h, by omega, by omega⟩
theorem letters (a : ByteArray) (ha : a.size ≤ 2147483647) : ∃ t, Ev (fun k => laws_refLetters.f k a) t ∧ Nm t := by
  have key : ∀ (d i : Nat) (l : List Int), i ≤ a.size → a.size - i = d → (∀ x ∈ l, Let x) → l.length ≤ 20 → ∃ t, Ev (fun k => laws_refLetters.l0 k a l (i : Int)) t ∧ Nm t := by
    intro d
    induction d with
    | zero =>
      intro i l hi hd hl h20
      obtain ⟨t, ht, hn⟩ := out_name l hl h20
      refine ⟨t, ?_, hn⟩
      refine Ev.step (fun k => by rw [laws_refLetters.l0, if_neg (by omega)]) ?_
      exact Ev.step (f := fun _ => some t) (fun k => by rw [laws_refLetters.j1, if_neg (by decide)]; exact ht) (Ev.now _)
    | succ d ih =>
      intro i l hi hd hl h20
      by_cases hlt : (l.length : Int) < 20
      · obtain ⟨z1, z2⟩ := extract_one a i (by omega)
        obtain ⟨b, hb, hbl⟩ := plain_one _ z1
        have hw : wrap64 ((i : Int) + 1) = ((i + 1 : Nat) : Int) := by rw [w64s (by omega) (by omega)]; omega
        have e1 : ((i : Nat) : Int).toNat = i := by omega
        have e2 : (((i + 1 : Nat) : Int)).toNat = i + 1 := by omega
        cases b with
        | true =>
          obtain ⟨t, ht, hn⟩ := ih (i + 1) (l ++ [bt a (i : Int)]) (by omega) (by omega) (fun x hx => by
            rcases List.mem_append.1 hx with hx | hx
            · exact hl x hx
            · rw [List.mem_singleton.1 hx, ← z2]; exact hbl rfl) (by rw [List.length_append, List.length_singleton]; omega)
          refine ⟨t, ?_, hn⟩
          refine Ev.step (fun k => by rw [laws_refLetters.l0, if_pos (by omega), decide_eq_true hlt]) ?_
          refine Ev.step (fun k => by rw [laws_refLetters.j1, if_pos rfl, if_pos (by omega), hw, if_pos (by omega), if_pos (by omega), e1, e2]) ?_
          refine Ev.bind hb ?_
          refine Ev.congr (fun k => by rw [if_pos rfl, if_pos (by omega), if_pos (by omega)]) ht
        | false =>
          obtain ⟨t, ht, hn⟩ := ih (i + 1) l (by omega) (by omega) hl h20
          refine ⟨t, ?_, hn⟩
          refine Ev.step (fun k => by rw [laws_refLetters.l0, if_pos (by omega), decide_eq_true hlt]) ?_
          refine Ev.step (fun k => by rw [laws_refLetters.j1, if_pos rfl, if_pos (by omega), hw, if_pos (by omega), if_pos (by omega), e1, e2]) ?_
          refine Ev.bind hb ?_
          refine Ev.congr (fun k => by rw [if_neg (by decide)]) ht
      · obtain ⟨t, ht, hn⟩ := out_name l hl h20
        refine ⟨t, ?_, hn⟩
        refine Ev.step (fun k => by rw [laws_refLetters.l0, if_pos (by omega), decide_eq_false hlt]) ?_
        exact Ev.step (f := fun _ => some t) (fun k => by rw [laws_refLetters.j1, if_neg (by decide)]; exact ht) (Ev.now _)
  obtain ⟨t, ht, hn⟩ := key a.size 0 [] (by omega) (by omega) (fun _ h => by cases h) (by decide)
  exact ⟨t, ht, hn⟩

theorem size_nums (l : List Int) : (strOfNums l).size = l.length := by
  show (strOfNums l).data.size = _
  rw [← Array.length_toList, strOfNums_data, List.length_map]
theorem Nm.low {s : ByteArray} (h : Nm s) : ∃ t, FwLow.strings_ToLower.f s = some t ∧ t.size = s.size := by
  have ha : FwLow.ascii s = true := by
    unfold FwLow.ascii
    refine List.all_eq_true.2 (fun b hb => decide_eq_true ?_)
    have hm : (b.toNat : Int) ∈ bytesOf s := List.mem_map.2 ⟨b, hb, rfl⟩
    have := h.all _ hm
    unfold Let at this
    omega
  have hl := h.le
  refine ⟨FwLow.lower s, by unfold FwLow.strings_ToLower.f; rw [if_pos ⟨ha, by omega⟩], ?_⟩
  show (FwLow.lower s).data.size = s.data.size
  unfold FwLow.lower
  rw [← Array.length_toList, ← Array.length_toList]
  simp [Lib.toLowerA]

theorem special (s : ByteArray) (hs : s.size ≤ 1000) : ∃ b, Ev (fun k => laws_refSpecial.f k s) b := by
  have key : ∀ (d i : Nat) (t : ByteArray), i ≤ s.size → s.size - i = d → t.size = i → ∃ b, Ev (fun k => laws_refSpecial.l0 k s t (i : Int)) b := by
    intro d
    induction d with
    | zero =>
      intro i t hi hd ht
      by_cases h1 : t.toList = ([98, 108, 97, 110, 107, 115] : List UInt8)
      · exact ⟨true, Ev.step (f := fun _ => some true) (fun k => by rw [laws_refSpecial.l0, if_neg (by omega), if_pos h1]) (Ev.now _)⟩
      by_cases h2 : t.toList = ([110, 111, 110, 98, 108, 97, 110, 107, 115] : List UInt8)
      · exact ⟨true, Ev.step (f := fun _ => some true) (fun k => by rw [laws_refSpecial.l0, if_neg (by omega), if_neg h1, if_pos h2]) (Ev.now _)⟩
      by_cases h3 : t.toList = ([116, 111, 112] : List UInt8)
      · exact ⟨true, Ev.step (f := fun _ => some true) (fun k => by rw [laws_refSpecial.l0, if_neg (by omega), if_neg h1, if_neg h2, if_pos h3]) (Ev.now _)⟩
      exact ⟨_, Ev.step (f := fun _ => some _) (fun k => by rw [laws_refSpecial.l0, if_neg (by omega), if_neg h1, if_neg h2, if_neg h3]) (Ev.now _)⟩
    | succ d ih =>
      intro i t hi hd ht
      have hw : wrap64 ((i : Int) + 1) = ((i + 1 : Nat) : Int) := by rw [w64s (by omega) (by omega)]; omega
      have go : ∀ c : Int, ∃ b, Ev (fun k => laws_refSpecial.l0 k s (t ++ strOfNums [c]) ((i + 1 : Nat) : Int)) b := fun c =>
        ih (i + 1) _ (by omega) (by omega) (by rw [ByteArray.size_append, size_nums, ht]; rfl)
      have z : ∀ c : Int, t.size + (strOfNums [c]).size ≤ 9223372036854775807 := fun c => by rw [size_nums, ht, List.length_singleton]; omega
      by_cases h1 : bt s (i : Int) ≥ 65
      · by_cases h2 : bt s (i : Int) ≤ 90
        · obtain ⟨b, hb⟩ := go ((bt s (i : Int) + 32) % 256)
          exact ⟨b, Ev.step (fun k => by rw [laws_refSpecial.l0, if_pos (by omega), if_pos (by omega), if_pos h1, if_pos h2, Option.bind_some, if_pos (z _), hw]) hb⟩
        · obtain ⟨b, hb⟩ := go (bt s (i : Int))
          exact ⟨b, Ev.step (fun k => by rw [laws_refSpecial.l0, if_pos (by omega), if_pos (by omega), if_pos h1, if_neg h2, Option.bind_some, if_pos (z _), hw]) hb⟩
      · obtain ⟨b, hb⟩ := go (bt s (i : Int))
        exact ⟨b, Ev.step (fun k => by rw [laws_refSpecial.l0, if_pos (by omega), if_pos (by omega), if_neg h1, Option.bind_some, if_pos (z _), hw]) hb⟩
  exact key s.size 0 ⟨#[]⟩ (by omega) (by omega) rfl

/-! ### the package's search -/
theorem index (s p : ByteArray) (hs : s.size ≤ 1000) (hp : 1 ≤ p.size ∧ p.size ≤ 1000) : ∃ r, Ev (fun k => PFv.excelize_zzIndex.f k s p) r := by
  have key : ∀ (d i : Nat), i ≤ s.size → s.size - i = d → ∃ r, Ev (fun k => PFv.excelize_zzIndex.l0 k s p (i : Int)) r := by
    intro d
    induction d with
    | zero =>
      intro i hi hd
      exact ⟨-1, Ev.step (f := fun _ => some (-1)) (fun k => by rw [PFv.excelize_zzIndex.l0, w64s (x := (i : Int) + p.size) (by omega) (by omega), if_neg (by omega)]) (Ev.now _)⟩
    | succ d ih =>
      intro i hi hd
      have hw : wrap64 ((i : Int) + 1) = ((i + 1 : Nat) : Int) := by rw [w64s (by omega) (by omega)]; omega
      by_cases h1 : (i : Int) + p.size ≤ s.size
      · by_cases h2 : (s.extract (i : Int).toNat ((i : Int) + (p.size : Int)).toNat).toList = p.toList
        · exact ⟨i, Ev.step (f := fun _ => some (i : Int)) (fun k => by rw [PFv.excelize_zzIndex.l0, w64s (x := (i : Int) + p.size) (by omega) (by omega), if_pos h1, if_pos (by omega), if_pos (by omega), if_pos h2]) (Ev.now _)⟩
        · obtain ⟨r, hr⟩ := ih (i + 1) (by omega) (by omega)
          exact ⟨r, Ev.step (fun k => by rw [PFv.excelize_zzIndex.l0, w64s (x := (i : Int) + p.size) (by omega) (by omega), if_pos h1, if_pos (by omega), if_pos (by omega), if_neg h2, hw]) hr⟩
      · exact ⟨-1, Ev.step (f := fun _ => some (-1)) (fun k => by rw [PFv.excelize_zzIndex.l0, w64s (x := (i : Int) + p.size) (by omega) (by omega), if_neg h1]) (Ev.now _)⟩
  exact key s.size 0 (by omega) (by omega)
theorem holds (s p : ByteArray) (hs : s.size ≤ 1000) (hp : 1 ≤ p.size ∧ p.size ≤ 1000) : ∃ r, Ev (fun k => PFv.excelize_zzContains.f k s p) r := by
  obtain ⟨r, hr⟩ := index s p hs hp
  exact ⟨_, Ev.bind hr (Ev.now _)⟩
theorem any (s p : ByteArray) (hs : s.size ≤ 1000) (hp : p.size ≤ 1000) : ∃ r, Ev (fun k => PFv.excelize_zzContainsAny.f k s p) r := by
  have key : ∀ (d i : Nat), i ≤ s.size → s.size - i = d → ∃ r, Ev (fun k => PFv.excelize_zzContainsAny.l0 k s p (i : Int)) r := by
    intro d
    induction d with
    | zero =>
      intro i hi hd
      exact ⟨false, Ev.step (f := fun _ => some false) (fun k => by rw [PFv.excelize_zzContainsAny.l0, if_neg (by omega)]) (Ev.now _)⟩
    | succ d ih =>
      intro i hi hd
      have hw : wrap64 ((i : Int) + 1) = ((i + 1 : Nat) : Int) := by rw [w64s (by omega) (by omega)]; omega
      have inner : ∀ (e j : Nat), j ≤ p.size → p.size - j = e → ∃ r, Ev (fun k => PFv.excelize_zzContainsAny.l1 k s p (i : Int) (j : Int)) r := by
        intro e
        induction e with
        | zero =>
          intro j hj he
          obtain ⟨r, hr⟩ := ih (i + 1) (by omega) (by omega)
          exact ⟨r, Ev.step (fun k => by rw [PFv.excelize_zzContainsAny.l1, if_neg (by omega), hw]) hr⟩
        | succ e ih2 =>
          intro j hj he
          have hw2 : wrap64 ((j : Int) + 1) = ((j + 1 : Nat) : Int) := by rw [w64s (by omega) (by omega)]; omega
          by_cases h2 : bt s (i : Int) = bt p (j : Int)
          · exact ⟨true, Ev.step (f := fun _ => some true) (fun k => by rw [PFv.excelize_zzContainsAny.l1, if_pos (by omega), if_pos (by omega), if_pos (by omega), if_pos (by omega), if_pos h2]) (Ev.now _)⟩
          · obtain ⟨r, hr⟩ := ih2 (j + 1) (by omega) (by omega)
            exact ⟨r, Ev.step (fun k => by rw [PFv.excelize_zzContainsAny.l1, if_pos (by omega), if_pos (by omega), if_pos (by omega), if_pos (by omega), if_neg h2, hw2]) hr⟩
      obtain ⟨r, hr⟩ := inner p.size 0 (by omega) (by omega)
      exact ⟨r, Ev.step (fun k => by rw [PFv.excelize_zzContainsAny.l0, if_pos (by omega)]; rfl) hr⟩
  exact key s.size 0 (by omega) (by omega)

/-! ### three words -/
/-- The numbers that a filter is written with. -/
def Num (m : Int) : Prop := m = 0 ∨ m = 1 ∨ m = 2 ∨ m = 5 ∨ m = 22
theorem fin2_ev (n : Int) (hn : n = 2 ∨ n = 5) (t : ByteArray) (ht : t.size ≤ 20) : ∃ m, Num m ∧ Ev (fun k => FwTok.fin2 k n t) ([m], t, none) := by
  obtain ⟨r, hr⟩ := any t ⟨#[42, 63]⟩ (by omega) (by decide)
  refine ⟨if n = 2 ∧ r = true then 22 else n, ?_, Ev.bind hr (Ev.now _)⟩
  unfold Num
  split <;> omega
theorem fin_ev (n : Int) (hn : n = 2 ∨ n = 5) (s t : ByteArray) (hs : s.size ≤ 20) (ht : t.size ≤ 20) : ∃ m u, Num m ∧ u.size ≤ 20 ∧ Ev (fun k => FwTok.fin k n s t) ([m], u, none) := by
  obtain ⟨r, hr⟩ := holds t FwTok.blanks (by omega) (by decide)
  have step : ∀ (F : Nat → Option (List Int × ByteArray × Option Int)) (n' : Int) (u : ByteArray), (n' = 2 ∨ n' = 5) → u.size ≤ 20 → (∀ k, F k = FwTok.fin2 k n' u) → ∃ m u, Num m ∧ u.size ≤ 20 ∧ Ev F ([m], u, none) := by
    intro F n' u hn' hu he
    obtain ⟨m, hm, h⟩ := fin2_ev n' hn' u hu
    exact ⟨m, u, hm, hu, Ev.congr he h⟩
  have fit : ∀ m u, Ev (fun k => if r = true then (if n = 2 then (if (t.toList == ([98, 108, 97, 110, 107, 115] : List UInt8)) = true then FwTok.fin2 k 2 t else FwTok.fin2 k 5 FwTok.gap) else if n = 5 then (if (t.toList == ([98, 108, 97, 110, 107, 115] : List UInt8)) = true then FwTok.fin2 k 5 FwTok.gap else FwTok.fin2 k 2 FwTok.blanks) else none) else FwTok.fin2 k n s) ([m], u, none) → Ev (fun k => FwTok.fin k n s t) ([m], u, none) := fun m u h => Ev.bind hr h
  have got : ∃ m u, Num m ∧ u.size ≤ 20 ∧ Ev (fun k => if r = true then (if n = 2 then (if (t.toList == ([98, 108, 97, 110, 107, 115] : List UInt8)) = true then FwTok.fin2 k 2 t else FwTok.fin2 k 5 FwTok.gap) else if n = 5 then (if (t.toList == ([98, 108, 97, 110, 107, 115] : List UInt8)) = true then FwTok.fin2 k 5 FwTok.gap else FwTok.fin2 k 2 FwTok.blanks) else none) else FwTok.fin2 k n s) ([m], u, none) := by
    by_cases h1 : r = true
    · by_cases h2 : n = 2
      · by_cases h3 : (t.toList == ([98, 108, 97, 110, 107, 115] : List UInt8)) = true
        · exact step _ 2 t (.inl rfl) ht (fun k => by rw [if_pos h1, if_pos h2, if_pos h3])
        · exact step _ 5 FwTok.gap (.inr rfl) (by decide) (fun k => by rw [if_pos h1, if_pos h2, if_neg h3])
      · by_cases h3 : (t.toList == ([98, 108, 97, 110, 107, 115] : List UInt8)) = true
        · exact step _ 5 FwTok.gap (.inr rfl) (by decide) (fun k => by rw [if_pos h1, if_neg h2, if_pos (by omega), if_pos h3])
        · exact step _ 2 FwTok.blanks (.inl rfl) (by decide) (fun k => by rw [if_pos h1, if_neg h2, if_pos (by omega), if_neg h3])
    · exact step _ n s hn hs (fun k => by rw [if_neg h1])
  obtain ⟨m, u, h1, h2, h3⟩ := got
  exact ⟨m, u, h1, h2, fit m u h3⟩
/-- A word is an operator of this number. -/
def Op (w : ByteArray) (n : Int) : Prop := ∃ t, FwLow.strings_ToLower.f w = some t ∧ (FwTok.known t = true ∧ t.size ≤ 1000000) ∧ FwTok.num t = n
theorem tok (n : Int) (hn : n = 2 ∨ n = 5) (v : ByteArray) (hv : Nm v) : ∃ m u, Num m ∧ u.size ≤ 20 ∧ ∀ (a : Value) (b x w : ByteArray), Op w n → Ev (fun k => FwTok.excelize_File_parseFilterTokens.f k a b [x, w, v]) ([m], u, none) := by
  obtain ⟨t, ht, hz⟩ := hv.low
  have hl := hv.le
  obtain ⟨m, u, hm, hu, h⟩ := fin_ev n hn v t hl (by omega)
  refine ⟨m, u, hm, hu, fun a b x w ⟨t1, h1, h2, h3⟩ => ?_⟩
  refine Ev.congr (f := fun k => FwTok.fin k n v t) (fun k => ?_) h
  unfold FwTok.excelize_File_parseFilterTokens.f
  rw [if_pos (show 2 < (([x, w, v].length : Nat) : Int) by simp), show rdOf ByteArray.empty [x, w, v] 1 = w from rfl, h1, Option.bind_some, if_pos h2, show rdOf ByteArray.empty [x, w, v] 2 = v from rfl, ht, Option.bind_some, h3]

/-! ### what is written -/
theorem digs (m : Int) (h : Num m) : ∃ d, d.size = 3 ∧ Ev (fun k => spec_Digits.f k (wrap64 (m + 100)) 10) d := by
  rcases h with rfl | rfl | rfl | rfl | rfl
  · exact ⟨⟨#[49, 48, 48]⟩, rfl, Ev.of (spec_Digits.mono _ _) (k := 6) (by decide +kernel)⟩
  · exact ⟨⟨#[49, 48, 49]⟩, rfl, Ev.of (spec_Digits.mono _ _) (k := 6) (by decide +kernel)⟩
  · exact ⟨⟨#[49, 48, 50]⟩, rfl, Ev.of (spec_Digits.mono _ _) (k := 6) (by decide +kernel)⟩
  · exact ⟨⟨#[49, 48, 53]⟩, rfl, Ev.of (spec_Digits.mono _ _) (k := 6) (by decide +kernel)⟩
  · exact ⟨⟨#[49, 50, 50]⟩, rfl, Ev.of (spec_Digits.mono _ _) (k := 6) (by decide +kernel)⟩
theorem rd_mem (l : List Int) (i : Nat) (h : i < l.length) : rd l (i : Int) ∈ l := by
  unfold rd
  rw [show ((i : Nat) : Int).toNat = i by omega, List.getD_eq_getElem?_getD, List.getElem?_eq_getElem h]
  exact List.getElem_mem h
theorem rdOf_mem (l : List ByteArray) (i : Nat) (h : i < l.length) : rdOf ByteArray.empty l (i : Int) ∈ l := by
  unfold rdOf
  rw [show ((i : Nat) : Int).toNat = i by omega, List.getD_eq_getElem?_getD, List.getElem?_eq_getElem h]
  exact List.getElem_mem h
theorem out1 (l : List Int) (vs : List ByteArray) (hv : ∀ v ∈ vs, v.size ≤ 20) (hz : vs.length ≤ 10) : ∀ (d i : Nat) (s : ByteArray), i ≤ vs.length → vs.length - i = d → s.size ≤ 1000 + 100 * i →
    ∃ r, s.size ≤ r.size ∧ Ev (fun k => laws_refFilter.l1 k l vs true s (i : Int)) (r, decide ((l.length : Int) > 0)) := by
  intro d
  induction d with
  | zero =>
    intro i s hi hd hs
    exact ⟨s, Nat.le_refl _, Ev.step (f := fun _ => some _) (fun k => by rw [laws_refFilter.l1, if_neg (by omega), if_pos rfl]) (Ev.now _)⟩
  | succ d ih =>
    intro i s hi hd hs
    have hw : wrap64 ((i : Int) + 1) = ((i + 1 : Nat) : Int) := by rw [w64s (by omega) (by omega)]; omega
    have h1 := hv _ (rdOf_mem vs i (by omega))
    have h2 : (⟨#[59]⟩ : ByteArray).size = 1 := rfl
    obtain ⟨r, hr, h⟩ := ih (i + 1) (s ++ (rdOf ByteArray.empty vs (i : Int) ++ ⟨#[59]⟩)) (by omega) (by omega) (by rw [ByteArray.size_append, ByteArray.size_append]; omega)
    rw [ByteArray.size_append] at hr
    exact ⟨r, by omega, Ev.step (fun k => by rw [laws_refFilter.l1, if_pos (by omega), if_pos (by omega), if_pos (by omega), if_pos (by rw [ByteArray.size_append]; omega), hw]) h⟩
theorem out0 (l : List Int) (vs : List ByteArray) (hl : ∀ m ∈ l, Num m) (hn : l.length ≤ 10) (hv : ∀ v ∈ vs, v.size ≤ 20) (hz : vs.length ≤ 10) : ∀ (d i : Nat) (s : ByteArray), i ≤ l.length → l.length - i = d → s.size = 4 * i →
    ∃ r, 4 * l.length ≤ r.size ∧ Ev (fun k => laws_refFilter.l0 k l vs true s (i : Int)) (r, decide ((l.length : Int) > 0)) := by
  intro d
  induction d with
  | zero =>
    intro i s hi hd hs
    obtain ⟨r, hr, h⟩ := out1 l vs hv hz vs.length 0 s (by omega) (by omega) (by omega)
    exact ⟨r, by omega, Ev.step (fun k => by rw [laws_refFilter.l0, if_neg (by omega)]; rfl) h⟩
  | succ d ih =>
    intro i s hi hd hs
    have hw : wrap64 ((i : Int) + 1) = ((i + 1 : Nat) : Int) := by rw [w64s (by omega) (by omega)]; omega
    obtain ⟨t, ht, e⟩ := digs _ (hl _ (rd_mem l i (by omega)))
    have h2 : (⟨#[32]⟩ : ByteArray).size = 1 := rfl
    obtain ⟨r, hr, h⟩ := ih (i + 1) (s ++ (t ++ ⟨#[32]⟩)) (by omega) (by omega) (by rw [ByteArray.size_append, ByteArray.size_append]; omega)
    refine ⟨r, hr, Ev.step (fun k => by rw [laws_refFilter.l0, if_pos (by omega), if_pos (by omega)]) (Ev.bind e ?_)⟩
    exact Ev.congr (fun k => by rw [if_pos (by omega), if_pos (by rw [ByteArray.size_append]; omega), hw]) h
theorem out (l : List Int) (vs : List ByteArray) (hl : ∀ m ∈ l, Num m) (hn : 1 ≤ l.length ∧ l.length ≤ 10) (hv : ∀ v ∈ vs, v.size ≤ 20) (hz : vs.length ≤ 10) :
    ∃ r, 1 ≤ r.size ∧ Ev (fun k => laws_refFilter.l0 k l vs true ⟨#[]⟩ 0) (r, true) := by
  obtain ⟨r, hr, h⟩ := out0 l vs hl hn.2 hv hz l.length 0 ⟨#[]⟩ (by omega) (by omega) rfl
  rw [decide_eq_true (by omega)] at h
  exact ⟨r, by omega, h⟩

/-- The filter of three words: an operator's other names say the same. -/
theorem filt3 (n : Int) (hn : n = 2 ∨ n = 5) (v : ByteArray) (hv : Nm v) : ∃ r, 1 ≤ r.size ∧ ∀ x w : ByteArray, Op w n → Ev (fun k => laws_refFilter.f k [x, w, v]) (r, true) := by
  obtain ⟨m, u, hm, hu, h⟩ := tok n hn v hv
  obtain ⟨r, hr, hO⟩ := out [m] [u] (fun y hy => by rw [List.mem_singleton.1 hy]; exact hm) (by simp) (fun y hy => by rw [List.mem_singleton.1 hy]; exact hu) (by simp)
  refine ⟨r, hr, fun x w hw => ?_⟩
  unfold laws_refFilter.f
  refine Ev.bind (a := ([m], [u], true)) ?_ hO
  unfold impl_Filter.f
  refine Ev.congr (fun k => if_pos (by rfl)) ?_
  refine Ev.bind (a := ([m], [u], true)) ?_ (Ev.now _)
  unfold FwDoor.excelize_DoorFilter.f
  refine Ev.bind (a := ([m], [u], none)) ?_ (Ev.now _)
  unfold PFw.excelize_File_parseFilterExpression.f
  refine Ev.congr (fun k => if_neg (by simp)) ?_
  refine Ev.bind (h Value.nilIface ByteArray.empty x w hw) ?_
  exact Ev.congr (f := fun _ => some _) (fun k => if_pos rfl) (Ev.now _)
/-- A word links two parts: 0 is "and", 1 is "or". -/
def Lk (c : ByteArray) (o : Int) : Prop :=
  (Ev (fun k => PFv.excelize_zzContains.f k c ⟨#[111, 114]⟩) true ∧ o = 1) ∨
  (Ev (fun k => PFv.excelize_zzContains.f k c ⟨#[111, 114]⟩) false ∧ ∃ b, Ev (fun k => PFv.excelize_zzContains.f k c ⟨#[124, 124]⟩) b ∧ o = if b = true then 1 else 0)
theorem filt7 (n : Int) (hn : n = 2 ∨ n = 5) (v u : ByteArray) (hv : Nm v) (hu : Nm u) (o : Int) (ho : o = 0 ∨ o = 1) : ∃ r, 1 ≤ r.size ∧ ∀ x w c : ByteArray, Op w n → Lk c o → Ev (fun k => laws_refFilter.f k [x, w, v, c, x, w, u]) (r, true) := by
  obtain ⟨m, v', hm, hv', h⟩ := tok n hn v hv
  obtain ⟨m2, u', hm2, hu', h2⟩ := tok n hn u hu
  obtain ⟨r, hr, hO⟩ := out [m, o, m2] [v', u'] (fun y hy => by
      simp only [List.mem_cons, List.not_mem_nil, or_false] at hy
      rcases hy with rfl | rfl | rfl
      · exact hm
      · unfold Num; omega
      · exact hm2) (by simp) (fun y hy => by
      simp only [List.mem_cons, List.not_mem_nil, or_false] at hy
      rcases hy with rfl | rfl
      · exact hv'
      · exact hu') (by simp)
  refine ⟨r, hr, fun x w c hw hc => ?_⟩
  unfold laws_refFilter.f
  refine Ev.bind (a := ([m, o, m2], [v', u'], true)) ?_ hO
  unfold impl_Filter.f
  refine Ev.congr (fun k => (if_neg (by simp)).trans (if_pos (by rfl))) ?_
  refine Ev.bind (a := ([m, o, m2], [v', u'], true)) ?_ (Ev.now _)
  unfold FwDoor.excelize_DoorFilter.f
  refine Ev.bind (a := ([m, o, m2], [v', u'], none)) ?_ (Ev.now _)
  have J1 : Ev (fun k => PFw.excelize_File_parseFilterExpression.j1 k Value.nilIface ByteArray.empty [x, w, v, c, x, w, u] [] [] o) ([m, o, m2], [v', u'], none) := by
    refine Ev.step (fun k => by rw [PFw.excelize_File_parseFilterExpression.j1, if_pos (by simp)]) ?_
    refine Ev.bind (h Value.nilIface ByteArray.empty x w hw) ?_
    refine Ev.congr (fun k => (if_pos rfl).trans ((if_pos (by omega)).trans (if_pos (by simp)))) ?_
    refine Ev.bind (h2 Value.nilIface ByteArray.empty x w hw) ?_
    exact Ev.congr (f := fun _ => some _) (fun k => (if_pos rfl).trans ((if_pos (by simp)).trans (if_pos (by simp)))) (Ev.now _)
  unfold PFw.excelize_File_parseFilterExpression.f
  refine Ev.congr (fun k => (if_pos (by rfl)).trans (if_pos (by simp))) ?_
  rcases hc with ⟨h1, rfl⟩ | ⟨h1, b, hb, rfl⟩
  · refine Ev.bind h1 ?_
    exact Ev.congr (fun k => if_pos rfl) (Ev.step (fun k => by rw [PFw.excelize_File_parseFilterExpression.j0, if_pos rfl]) J1)
  · refine Ev.bind h1 ?_
    refine Ev.congr (fun k => if_neg (by decide)) ?_
    refine Ev.bind hb ?_
    cases b with
    | true => exact Ev.step (fun k => by rw [PFw.excelize_File_parseFilterExpression.j0, if_pos rfl]; rfl) J1
    | false => exact Ev.step (fun k => by rw [PFw.excelize_File_parseFilterExpression.j0, if_neg (by decide)]; rfl) J1

/-! ### the words -/
theorem op_eq : Op ⟨#[61]⟩ 2 := ⟨⟨#[61]⟩, by decide +kernel, by decide +kernel, by decide +kernel⟩
theorem op_eqeq : Op ⟨#[61, 61]⟩ 2 := ⟨⟨#[61, 61]⟩, by decide +kernel, by decide +kernel, by decide +kernel⟩
theorem op_eq_ : Op ⟨#[101, 113]⟩ 2 := ⟨⟨#[101, 113]⟩, by decide +kernel, by decide +kernel, by decide +kernel⟩
theorem op_ne : Op ⟨#[33, 61]⟩ 5 := ⟨⟨#[33, 61]⟩, by decide +kernel, by decide +kernel, by decide +kernel⟩
theorem op_ne_ : Op ⟨#[110, 101]⟩ 5 := ⟨⟨#[110, 101]⟩, by decide +kernel, by decide +kernel, by decide +kernel⟩
theorem op_lg : Op ⟨#[60, 62]⟩ 5 := ⟨⟨#[60, 62]⟩, by decide +kernel, by decide +kernel, by decide +kernel⟩
theorem lk_and : Lk ⟨#[97, 110, 100]⟩ 0 := .inr ⟨Ev.of (PFv.excelize_zzContains.mono _ _) (k := 9) (by decide +kernel), false, Ev.of (PFv.excelize_zzContains.mono _ _) (k := 9) (by decide +kernel), rfl⟩
theorem lk_amp : Lk ⟨#[38, 38]⟩ 0 := .inr ⟨Ev.of (PFv.excelize_zzContains.mono _ _) (k := 9) (by decide +kernel), false, Ev.of (PFv.excelize_zzContains.mono _ _) (k := 9) (by decide +kernel), rfl⟩
theorem lk_or : Lk ⟨#[111, 114]⟩ 1 := .inl ⟨Ev.of (PFv.excelize_zzContains.mono _ _) (k := 9) (by decide +kernel), rfl⟩
theorem lk_bar : Lk ⟨#[124, 124]⟩ 1 := .inr ⟨Ev.of (PFv.excelize_zzContains.mono _ _) (k := 9) (by decide +kernel), true, Ev.of (PFv.excelize_zzContains.mono _ _) (k := 9) (by decide +kernel), rfl⟩
end Go.Proofs.YtjefbpfpobgmaaaDoor.EvFilt
