/- The plain law of FnAdjustRef: what the printed functions compute: areas within the limits, at most six, written as a text, moved by the package and read back are the moved areas. Conditions: none but the length of the list. -/
import Derived.Test.YtfbenlenihlpbaaDoorPAl
import Derived.Test.YtfbenlenihlpbaaDoorAdj
import Derived.Test.YtfbenlenihlpbaaDoorOpenArrs
namespace Go.Proofs.YtfbenlenihlpbaaDoor.EvAdjust
open Go.RowKit Go.Proofs.YtfbenlenihlpbaaDoorW.PrintWords Go.Proofs.YtfbenlenihlpbaaDoorW.PrintLast Go.Proofs.YtfbenlenihlpbaaDoorW.PrintMore
open Go.Proofs.YtfbenlenihlpbaaDoor.Str Go.Proofs.YtfbenlenihlpbaaDoor.PAl Go.Proofs.YtfbenlenihlpbaaDoor.CellWide Go.Proofs.YtfbenlenihlpbaaDoor.AdjT Go.Proofs.YtfbenlenihlpbaaDoor.AdjB
set_option linter.unusedVariables false
set_option linter.unusedSimpArgs false

theorem gridNum (a n : Int) (hn : 1 ≤ n ∧ n ≤ 1000) : ∃ x, PgridNumber.laws_gridNumber.f a n = some x ∧ 1 ≤ x ∧ x ≤ n := by
  have h1 : -n < Int.tmod a n := by have := Int.lt_tmod_of_pos a (show 0 < n by omega); omega
  have h2 : Int.tmod a n < n := Int.tmod_lt_of_pos a (by omega)
  unfold PgridNumber.laws_gridNumber.f
  first
    | (rw [if_neg (by omega)]
       by_cases h : Int.tmod a n < 0
       · rw [if_pos h]
         refine ⟨_, rfl, ?_⟩
         unfold wrap64
         omega
       · rw [if_neg h]
         refine ⟨_, rfl, ?_⟩
         unfold wrap64
         omega)

theorem gridIn (a n : Int) (hn : 1 ≤ n ∧ n ≤ 1000) : ∃ x, PgridIn.spec_gridIn.f a n = some x ∧ 1 ≤ x ∧ x ≤ n := by
  have h1 : -n < Int.tmod a n := by have := Int.lt_tmod_of_pos a (show 0 < n by omega); omega
  have h2 : Int.tmod a n < n := Int.tmod_lt_of_pos a (by omega)
  unfold PgridIn.spec_gridIn.f
  rw [if_neg (by omega)]
  by_cases h : Int.tmod a n < 0
  · rw [if_pos h]
    refine ⟨_, rfl, ?_⟩
    rw [w64s (x := Int.tmod a n + n) (by omega) (by omega), w64s (by omega) (by omega)]
    omega
  · rw [if_neg h]
    refine ⟨_, rfl, ?_⟩
    rw [w64s (by omega) (by omega)]
    omega

theorem area (a b c d : Int) : ∃ p q r s, Ev (fun k => spec_GridArea.f k a b c d) (p, q, r, s) ∧ (1 ≤ p ∧ p ≤ 30) ∧ (1 ≤ q ∧ q ≤ 60) ∧ (1 ≤ r ∧ r ≤ 30) ∧ (1 ≤ s ∧ s ≤ 60) := by
  obtain ⟨p, hp, p1, p2⟩ := gridIn a 30 (by omega)
  obtain ⟨q, hq, q1, q2⟩ := gridIn b 60 (by omega)
  obtain ⟨r, hr, r1, r2⟩ := gridIn c 30 (by omega)
  obtain ⟨s, hs, s1, s2⟩ := gridIn d 60 (by omega)
  have j0 : ∀ (x y z t : Int) (b : Bool), 1 ≤ x ∧ x ≤ 30 → 1 ≤ y ∧ y ≤ 60 → 1 ≤ z ∧ z ≤ 30 → 1 ≤ t ∧ t ≤ 60 → (b = true → t < 60 ∨ 2 ≤ y) → ∃ p q r s, Ev (fun k => spec_GridArea.j0 k x y z t b) (p, q, r, s) ∧ (1 ≤ p ∧ p ≤ 30) ∧ (1 ≤ q ∧ q ≤ 60) ∧ (1 ≤ r ∧ r ≤ 30) ∧ (1 ≤ s ∧ s ≤ 60) := by
    intro x y z t b hx hy hz ht hb
    cases b with
    | false => exact ⟨x, y, z, t, Ev.step (f := fun _ => some _) (fun k => by rw [spec_GridArea.j0, if_neg (by decide)]) (Ev.now _), hx, hy, hz, ht⟩
    | true =>
      by_cases h : t < 60
      · exact ⟨x, y, z, wrap64 (t + 1), Ev.step (f := fun _ => some _) (fun k => by rw [spec_GridArea.j0, if_pos rfl, if_pos h]) (Ev.now _), hx, hy, hz, by rw [w64s (by omega) (by omega)]; omega⟩
      · have := (hb rfl).resolve_left h
        exact ⟨x, wrap64 (y - 1), z, t, Ev.step (f := fun _ => some _) (fun k => by rw [spec_GridArea.j0, if_pos rfl, if_neg h]) (Ev.now _), hx, by rw [w64s (by omega) (by omega)]; omega, hz, ht⟩
  have mnx : ∀ x y n : Int, 1 ≤ x ∧ x ≤ n → 1 ≤ y ∧ y ≤ n → (1 ≤ mn x y ∧ mn x y ≤ n) ∧ (1 ≤ mx x y ∧ mx x y ≤ n) := by
    intro x y n hx hy
    unfold mn mx
    constructor <;> split <;> omega
  have b1 := mnx p r 30 ⟨p1, p2⟩ ⟨r1, r2⟩
  have b2 := mnx q s 60 ⟨q1, q2⟩ ⟨s1, s2⟩
  unfold spec_GridArea.f
  rw [hp, hq, hr, hs]
  simp only [Option.bind_some]
  by_cases h : mn p r = mx p r
  · simp only [if_pos h]
    refine j0 _ _ _ _ _ b1.1 b2.1 b1.2 b2.2 (fun hb => ?_)
    have := beq_iff_eq.1 hb
    omega
  · simp only [if_neg h]
    exact j0 _ _ _ _ _ b1.1 b2.1 b1.2 b2.2 (fun hb => by cases hb)

theorem w64n (x : Nat) (h : x ≤ 1000000) : wrap64 ((x : Int) + 1) = ((x + 1 : Nat) : Int) := by rw [w64s (by omega) (by omega)]; omega
def okCol2 (c : Nat) : Bool := decide (PColumnName.spec_ColumnName.f 20 ((c : Int) + 1) = some (colT ((c : Int) + 1), true))
theorem cols2_ok : ((List.range 60).all okCol2) = true := by decide +kernel
def okRow2 (r : Nat) : Bool := decide (PDigits.spec_Digits.f 20 ((r : Int) + 1) 10 = some (rowT ((r : Int) + 1)))
theorem rows2_ok : ((List.range 99).all okRow2) = true := by decide +kernel
theorem col2 (c : Int) (hc : 1 ≤ c ∧ c ≤ 60) : Ev (fun k => PColumnName.spec_ColumnName.f k c) (colT c, true) := by
  have h := List.all_eq_true.1 cols2_ok (c.toNat - 1) (List.mem_range.2 (by omega))
  unfold okCol2 at h
  have h := of_decide_eq_true h
  rw [show ((c.toNat - 1 : Nat) : Int) + 1 = c by omega] at h
  exact Ev.of (PColumnName.spec_ColumnName.mono c) h
theorem row2 (r : Int) (hr : 1 ≤ r ∧ r ≤ 99) : Ev (fun k => PDigits.spec_Digits.f k r 10) (rowT r) := by
  have h := List.all_eq_true.1 rows2_ok (r.toNat - 1) (List.mem_range.2 (by omega))
  unfold okRow2 at h
  have h := of_decide_eq_true h
  rw [show ((r.toNat - 1 : Nat) : Int) + 1 = r by omega] at h
  exact Ev.of (PDigits.spec_Digits.mono r 10) h
theorem cellName (c r : Int) (hc : 1 ≤ c ∧ c ≤ 60) (hr : 1 ≤ r ∧ r ≤ 99) : Ev (fun k => spec_CellName.f k c r false) (txt c r, true) := by
  have hs := small c r
  unfold spec_CellName.f
  refine Ev.bind (col2 c hc) ?_
  refine Ev.congr (fun k => by rw [if_pos rfl, if_neg (by omega), decide_eq_false (show ¬ r > 1048576 by omega)]) ?_
  refine Ev.step (fun k => by rw [spec_CellName.j0, if_neg (by decide), if_neg (by decide)]) ?_
  refine Ev.bind (row2 r hr) ?_
  exact Ev.congr (f := fun _ => some (txt c r, true)) (fun k => if_pos (by simp only; omega)) (Ev.now _)
theorem areaText (a : Ar) (h : Ok a) : Ev (fun k => spec_GridAreaText.f k a.1 a.2.1 a.2.2.1 a.2.2.2) (tx a) := by
  have h1 := (txt_bytes _ _ h.1 h.2.1).2
  have h2 := (txt_bytes _ _ h.2.2.1 h.2.2.2).2
  have h3 : (⟨#[58]⟩ : ByteArray).size = 1 := rfl
  unfold spec_GridAreaText.f
  refine Ev.bind (cellName _ _ h.1 h.2.1) ?_
  refine Ev.bind (cellName _ _ h.2.2.1 h.2.2.2) ?_
  exact Ev.congr (f := fun _ => some _) (fun k => by simp only; rw [if_pos (by omega), if_pos (by rw [ByteArray.size_append]; omega)]; rfl) (Ev.now _)

/-- An area as the reference has it. -/
def S (a : Ar) : S22 := ⟨a.1, a.2.1, a.2.2.1, a.2.2.2⟩
theorem rd_S (l : List Ar) (i : Nat) (a : Ar) (h : l[i]? = some a) : rd_T22 (l.map S) (i : Int) = S a := by
  unfold rd_T22
  rw [List.getD_eq_getElem?_getD, Int.toNat_natCast, List.getElem?_map, h]; rfl
theorem texts_snoc (a : Ar) (r : List Ar) (b : Ar) : texts ((a :: r) ++ [b]) = texts (a :: r) ++ ⟨#[32]⟩ ++ tx b := by
  apply bytes_inj
  rw [bytes_append, bytes_append, texts_bytes, List.cons_append, texts_bytes]
  simp [tailI, show bytesOf (⟨#[32]⟩ : ByteArray) = [32] from rfl]
theorem texts_one (b : Ar) : texts [b] = tx b := by
  apply bytes_inj
  rw [texts_bytes]
  simp [tailI]
theorem areasText (l : List Ar) (h : ∀ a ∈ l, Ok a) (hl : l.length ≤ 10) : Ev (fun k => spec_GridAreasText.f k (l.map S)) (texts l) := by
  have key : ∀ (d i : Nat), l.length - i = d → i ≤ l.length → Ev (fun k => spec_GridAreasText.l0 k (l.map S) (texts (l.take i)) (i : Int)) (texts l) := by
    intro d
    induction d with
    | zero =>
      intro i hd hi
      obtain rfl : i = l.length := by omega
      rw [List.take_length]
      exact Ev.step (f := fun _ => some _) (fun k => by rw [spec_GridAreasText.l0, if_neg (by rw [List.length_map]; omega)]) (Ev.now _)
    | succ d ih =>
      intro i hd hi
      have hlt : i < l.length := by omega
      obtain ⟨b, hb⟩ : ∃ b, l[i]? = some b := ⟨l[i], List.getElem?_eq_getElem hlt⟩
      have hbo := h b (List.mem_of_getElem? hb)
      have hbs := tx_size hbo
      have hts := texts_size (l.take i) (fun a ha => h a (List.mem_of_mem_take ha))
      rw [List.length_take] at hts
      have e1 := rd_S l i b hb
      have e2 : l.take (i + 1) = l.take i ++ [b] := by rw [List.take_add_one, hb]; rfl
      have h3 : (⟨#[32]⟩ : ByteArray).size = 1 := rfl
      have h' := ih (i + 1) (by omega) (by omega)
      rcases Nat.eq_zero_or_pos i with rfl | hp
      · refine Ev.step (fun k => by rw [spec_GridAreasText.l0, if_pos (by rw [List.length_map]; omega), if_neg (by omega), if_pos (by omega), e1]) ?_
        refine Ev.bind (areaText b hbo) ?_
        refine Ev.congr (fun k => by rw [if_pos (by omega), w64n _ (by omega)]) ?_
        rw [e2, List.take_zero, List.nil_append, texts_one] at h'
        have e3 : texts (l.take 0) ++ tx b = tx b := by
          apply bytes_inj
          rw [bytes_append]
          rfl
        rw [e3]
        exact h'
      · obtain ⟨c, r, hr⟩ : ∃ c r, l.take i = c :: r := by
          cases hc : l.take i with
          | nil => have := congrArg List.length hc; rw [List.length_take, List.length_nil] at this; omega
          | cons c r => exact ⟨c, r, rfl⟩
        refine Ev.step (fun k => by rw [spec_GridAreasText.l0, if_pos (by rw [List.length_map]; omega), if_pos (by omega), if_pos (by omega), if_pos (by omega), e1]) ?_
        refine Ev.bind (areaText b hbo) ?_
        refine Ev.congr (fun k => by rw [if_pos (by rw [ByteArray.size_append]; omega), w64n _ (by omega)]) ?_
        rw [e2, hr, texts_snoc] at h'
        rw [hr]
        exact h'
  unfold spec_GridAreasText.f
  exact key l.length 0 (by omega) (by omega)

/-! ### reading back -/
/-- One area is read, and then what follows it. -/
theorem read_part (s : ByteArray) (hz : s.size ≤ 1000) (a : Ar) (l : List Ar) (p : Nat) (acc : List S22) (hd : (bytesOf s).drop p = bytesOf (tx a) ++ tailI (l.map tx)) (ho : ∀ b ∈ a :: l, Ok b) (hl : acc.length + l.length ≤ 1000) (hp : p ≤ s.size)
    (hmore : p + (tx a).size < s.size → Ev (fun k => spec_GridRead.l0 k s (acc ++ [S a]) ((p + (tx a).size + 1 : Nat) : Int) ((p + (tx a).size + 1 : Nat) : Int)) (acc ++ (a :: l).map S, true))
    (hlast : p + (tx a).size = s.size → l = [] → Ev (fun k => spec_GridRead.l0 k s (acc ++ [S a]) ((p + (tx a).size + 1 : Nat) : Int) ((p + (tx a).size + 1 : Nat) : Int)) (acc ++ (a :: l).map S, true)) :
    Ev (fun k => spec_GridRead.l0 k s acc (p : Int) (p : Int)) (acc ++ (a :: l).map S, true) := by
  have hao := ho a List.mem_cons_self
  have has := tx_size hao
  have hlen : s.size - p = (tx a).size + (tailI (l.map tx)).length := by
    have := congrArg List.length hd
    rw [List.length_drop, bytesOf_length, List.length_append, bytesOf_length] at this
    exact this
  have get : ∀ j : Nat, (bytesOf s)[p + j]? = (bytesOf (tx a) ++ tailI (l.map tx))[j]? := fun j => by rw [← hd, List.getElem?_drop]
  have hne : ∀ j : Nat, j < (tx a).size → bt s ((p + j : Nat) : Int) ≠ 32 := by
    intro j hj e
    have : bt s ((p + j : Nat) : Int) = bt (tx a) (j : Int) := bt_bytes _ _ _ (by
      rw [get, List.getElem?_append_left (by rw [bytesOf_length]; exact hj)]
      exact bytes_get _ j hj)
    rw [this] at e
    have := tx_no hao _ (List.mem_of_getElem? (bytes_get (tx a) j hj))
    omega
  have hex : s.extract p (p + (tx a).size) = tx a := bytes_inj (by
    rw [bytes_extract, hd, Nat.add_sub_cancel_left, List.take_left' (bytesOf_length _)])
  have hread : Ev (fun k => PRo.spec_gridReadOne.f k (tx a)) (a.1, a.2.1, a.2.2.1, a.2.2.2, true) := read_range _ _ _ _ hao.1 hao.2.1 hao.2.2.1 hao.2.2.2
  have fin : Ev (fun k => spec_GridRead.j1 k s acc (p : Int) ((p + (tx a).size : Nat) : Int) false) (acc ++ (a :: l).map S, true) := by
    refine Ev.step (fun k => by rw [spec_GridRead.j1, if_neg (by decide), if_pos (by omega), if_pos (by omega), if_pos (by omega), if_pos (by omega), Int.toNat_natCast, Int.toNat_natCast, hex]) ?_
    refine Ev.bind hread ?_
    refine Ev.congr (fun k => by rw [if_pos rfl, if_pos (by omega), w64n _ (by omega)]) ?_
    rcases Nat.lt_or_ge (p + (tx a).size) s.size with h | h
    · exact hmore h
    · exact hlast (by omega) (by
        cases l with
        | nil => rfl
        | cons b l => simp [tailI] at hlen; omega)
  have walk : ∀ (d j : Nat), (tx a).size - j = d → j ≤ (tx a).size → Ev (fun k => spec_GridRead.l0 k s acc (p : Int) ((p + j : Nat) : Int)) (acc ++ (a :: l).map S, true) := by
    intro d
    induction d with
    | zero =>
      intro j hj hj2
      obtain rfl : j = (tx a).size := by omega
      rcases Nat.lt_or_ge (p + (tx a).size) s.size with h | h
      · have h32 : bt s ((p + (tx a).size : Nat) : Int) = 32 := bt_bytes _ _ _ (by
          rw [get, List.getElem?_append_right (by rw [bytesOf_length]; omega), bytesOf_length, Nat.sub_self]
          cases l with
          | nil => simp [tailI] at hlen; omega
          | cons b l => simp [tailI])
        exact Ev.step (fun k => by rw [spec_GridRead.l0, if_pos (by omega), if_pos (by omega), if_pos (by omega), h32]; rfl) fin
      · exact Ev.step (fun k => by rw [spec_GridRead.l0, if_pos (by omega), if_neg (by omega)]) fin
    | succ d ih =>
      intro j hj hj2
      have hb : (bt s ((p + j : Nat) : Int) != 32) = true := bne_iff_ne.2 (hne j (by omega))
      refine Ev.step (fun k => by rw [spec_GridRead.l0, if_pos (by omega), if_pos (by omega), if_pos (by omega), hb]) ?_
      exact Ev.step (fun k => by rw [spec_GridRead.j1, if_pos rfl, w64n _ (by omega), Nat.add_assoc]) (ih (j + 1) (by omega) (by omega))
  exact walk (tx a).size 0 (by omega) (by omega)
theorem read_loop (s : ByteArray) (hz : s.size ≤ 1000) : ∀ (l : List Ar) (a : Ar) (p : Nat) (acc : List S22), (bytesOf s).drop p = bytesOf (tx a) ++ tailI (l.map tx) → (∀ b ∈ a :: l, Ok b) → acc.length + l.length ≤ 1000 → p ≤ s.size →
    Ev (fun k => spec_GridRead.l0 k s acc (p : Int) (p : Int)) (acc ++ (a :: l).map S, true) := by
  intro l
  induction l with
  | nil =>
    intro a p acc hd ho hl hp
    exact read_part s hz a [] p acc hd ho hl hp (fun h => absurd h (by
      have := congrArg List.length hd
      rw [List.length_drop, bytesOf_length, List.length_append, bytesOf_length] at this
      simp [tailI] at this
      omega)) (fun he h => by
      exact Ev.step (f := fun _ => some _) (fun k => by rw [spec_GridRead.l0, if_neg (by omega)]; rfl) (Ev.now _))
  | cons b l ih =>
    intro a p acc hd ho hl hp
    exact read_part s hz a (b :: l) p acc hd ho hl hp (fun h => by
      have e : tailI ((b :: l).map tx) = 32 :: (bytesOf (tx b) ++ tailI (l.map tx)) := by simp [tailI]
      have := ih b (p + (tx a).size + 1) (acc ++ [S a]) (by
        rw [Nat.add_assoc, ← List.drop_drop, hd, ← List.drop_drop, List.drop_left' (bytesOf_length _), e]; rfl) (fun c hc => ho c (List.mem_cons_of_mem _ hc)) (by simp at hl ⊢; omega) (by omega)
      simpa using this) (fun he h => by cases h)
theorem read_all (l : List Ar) (h : ∀ a ∈ l, Ok a) (hl : l ≠ [] ∧ l.length ≤ 10) : Ev (fun k => spec_GridRead.f k (texts l)) (l.map S, true) := by
  obtain ⟨a, l, rfl⟩ := List.exists_cons_of_ne_nil hl.1
  have hz := texts_size (a :: l) h
  have h2 := hl.2
  have := read_loop (texts (a :: l)) (by omega) l a 0 [] (by rw [List.drop_zero, texts_bytes]) h (by simp at h2 ⊢; omega) (Nat.zero_le _)
  exact this

/-! ### the comparison -/
theorem same (x : List S22) (hx : x.length ≤ 1000) : Ev (fun k => spec_GridSame.f k x x) true := by
  have inner : ∀ (d j i : Nat) (n : Int), x.length - j = d → j ≤ x.length → i < x.length → 0 ≤ n ∧ n ≤ j → Ev (fun k => spec_GridSame.l0 k x x ((i + 1 : Nat) : Int)) true → Ev (fun k => spec_GridSame.l1 k x x (i : Int) n n (j : Int)) true := by
    intro d
    induction d with
    | zero =>
      intro j i n hd hj hi hn h
      exact Ev.step (fun k => by rw [spec_GridSame.l1, if_neg (by omega), if_pos rfl, w64n _ (by omega)]) h
    | succ d ih =>
      intro j i n hd hj hi hn h
      by_cases hc : (((rd_T22 x (j : Int)).f0) == ((rd_T22 x (i : Int)).f0) && (((rd_T22 x (j : Int)).f1) == ((rd_T22 x (i : Int)).f1) && (((rd_T22 x (j : Int)).f2) == ((rd_T22 x (i : Int)).f2) && (((rd_T22 x (j : Int)).f3) == ((rd_T22 x (i : Int)).f3))))) = true
      · exact Ev.step (fun k => by rw [spec_GridSame.l1, if_pos (by omega), if_pos (by omega), if_pos (by omega), if_pos (by omega), if_pos hc, if_pos (by omega), if_pos hc, w64n _ (by omega), w64s (x := n + 1) (by omega) (by omega)]) (ih (j + 1) i (n + 1) (by omega) (by omega) hi (by omega) h)
      · exact Ev.step (fun k => by rw [spec_GridSame.l1, if_pos (by omega), if_pos (by omega), if_pos (by omega), if_pos (by omega), if_neg hc, if_pos (by omega), if_neg hc, w64n _ (by omega)]) (ih (j + 1) i n (by omega) (by omega) hi (by omega) h)
  have outer : ∀ (d i : Nat), x.length - i = d → i ≤ x.length → Ev (fun k => spec_GridSame.l0 k x x (i : Int)) true := by
    intro d
    induction d with
    | zero =>
      intro i hd hi
      exact Ev.step (f := fun _ => some true) (fun k => by rw [spec_GridSame.l0, if_neg (by omega)]) (Ev.now _)
    | succ d ih =>
      intro i hd hi
      exact Ev.step (fun k => by rw [spec_GridSame.l0, if_pos (by omega)]; rfl) (inner x.length 0 i 0 (by omega) (by omega) (by omega) (by omega) (ih (i + 1) (by omega) (by omega)))
  unfold spec_GridSame.f
  refine Ev.congr (fun k => if_pos rfl) ?_
  exact outer x.length 0 (by omega) (by omega)

/-! ### the reference's move -/
theorem index (rows : Bool) (n o x : Int) (ho : 1 ≤ o ∧ o ≤ 20) (hx : 1 ≤ x ∧ x ≤ 60) : spec_GridMove_Index.f rows n o x = some (ix n o x) := by
  unfold spec_GridMove_Index.f ix
  by_cases h : x < n
  · rw [if_pos h, if_pos h]
  · rw [if_neg h, if_neg h, w64s (by omega) (by omega)]
    unfold mx
    by_cases h1 : 1 < x + o
    · rw [if_pos h1]
    · rw [if_neg h1]; congr 1; omega
theorem move (rows : Bool) (n o : Int) (a : Ar) (ho : 1 ≤ o ∧ o ≤ 20) (h : In a) : spec_GridMove_Area.f rows n o a.1 a.2.1 a.2.2.1 a.2.2.2 = some (mv rows n o a) := by
  obtain ⟨h1, h2, h3, h4⟩ := h
  unfold spec_GridMove_Area.f spec_GridMove_Place.f
  cases rows
  · simp only [Bool.false_eq_true, if_false]
    rw [index false n o a.1 ho (by omega), index false n o a.2.2.1 ho (by omega)]; rfl
  · simp only [if_true]
    rw [index true n o a.2.1 ho (by omega), index true n o a.2.2.2 ho (by omega)]; rfl

/-! ### the law -/
theorem law_end (rows : Bool) (n o : Int) (ho : 1 ≤ o ∧ o ≤ 20) (l : List S22) (as' : List Ar) (ha : ∀ a ∈ as', In a) (hl : as'.length ≤ 6) (i : Int) (b1 : Bool) (b2 b3 : Int) :
    Ev (fun k => laws_FnAdjustRef.j1 k l rows n o (as'.map S) ((as'.map (mv rows n o)).map S) i false b1 b2 b3) true := by
  match as', ha, hl with
  | [], _, _ => exact Ev.step (f := fun _ => some true) (fun k => by rw [laws_FnAdjustRef.j1, if_neg (by decide), if_pos (by rfl)]; rfl) (Ev.now _)
  | a :: r, ha, hl =>
    have hne : a :: r ≠ [] := by simp
    refine Ev.step (fun k => by rw [laws_FnAdjustRef.j1, if_neg (by decide), if_neg (by simp; omega)]) ?_
    refine Ev.bind (areasText (a :: r) (fun b hb => (ha b hb).ok) (by omega)) ?_
    rw [adjusted rows n o (a :: r) ⟨hne, by omega⟩ ha ho]
    have hm : ∀ b ∈ (a :: r).map (mv rows n o), Ok b := fun b hb => by
      obtain ⟨c, hc, rfl⟩ := List.mem_map.1 hb
      exact mv_ok ho (ha c hc)
    refine Ev.congr (fun k => Option.bind_some _ _) ?_
    refine Ev.bind (read_all ((a :: r).map (mv rows n o)) hm ⟨by simp, by rw [List.length_map]; omega⟩) ?_
    refine Ev.congr (fun k => by rw [if_pos rfl, if_pos rfl]) ?_
    refine Ev.bind (same _ (by rw [List.length_map, List.length_map]; omega)) ?_
    exact Ev.congr (f := fun _ => some true) (fun k => by rw [if_pos rfl]; rfl) (Ev.now _)
theorem law_loop (rows : Bool) (n o : Int) (ho : 1 ≤ o ∧ o ≤ 20) (l : List S22) : ∀ (d i : Nat) (as' : List Ar), 7 - i = d → i ≤ 6 → as'.length = i → i ≤ l.length → (∀ a ∈ as', In a) →
    Ev (fun k => laws_FnAdjustRef.l0 k l rows n o (as'.map S) ((as'.map (mv rows n o)).map S) (i : Int) rows n o) true := by
  intro d
  induction d with
  | zero => intro i as' hd hi; omega
  | succ d ih =>
    intro i as' hd hi hi2 hl ha
    by_cases h : (i : Int) < (l.length : Int)
    · by_cases h6 : (i : Int) < 6
      · obtain ⟨p, q, r, s, hA, hp, hq, hr, hs⟩ := area ((rd_T22 l (i : Int)).f0) ((rd_T22 l (i : Int)).f1) ((rd_T22 l (i : Int)).f2) ((rd_T22 l (i : Int)).f3)
        have hin : In (p, q, r, s) := ⟨hp, hq, hr, hs⟩
        have e1 : as'.map S ++ [(⟨p, q, r, s⟩ : S22)] = (as' ++ [(p, q, r, s)]).map S := by simp [S]
        have e2 : rd_T22 ((as' ++ [(p, q, r, s)]).map S) (i : Int) = S (p, q, r, s) := rd_S _ i _ (by rw [List.getElem?_append_right (by omega), hi2, Nat.sub_self]; rfl)
        have hm : spec_GridMove_Area.f rows n o ((rd_T22 ((as' ++ [(p, q, r, s)]).map S) (i : Int)).f0) ((rd_T22 ((as' ++ [(p, q, r, s)]).map S) (i : Int)).f1) ((rd_T22 ((as' ++ [(p, q, r, s)]).map S) (i : Int)).f2) ((rd_T22 ((as' ++ [(p, q, r, s)]).map S) (i : Int)).f3) = some (mv rows n o (p, q, r, s)) := by rw [e2]; exact move rows n o (p, q, r, s) ho hin
        have e3 : (as'.map (mv rows n o)).map S ++ [S (mv rows n o (p, q, r, s))] = ((as' ++ [(p, q, r, s)]).map (mv rows n o)).map S := by simp
        have h' := ih (i + 1) (as' ++ [(p, q, r, s)]) (by omega) (by omega) (by rw [List.length_append, hi2]; rfl) (by omega) (fun a h => by
          rcases List.mem_append.1 h with h | h
          · exact ha a h
          · rw [List.mem_singleton.1 h]; exact hin)
        refine Ev.step (fun k => by rw [laws_FnAdjustRef.l0, if_pos h, decide_eq_true h6]) ?_
        refine Ev.step (fun k => by rw [laws_FnAdjustRef.j1, if_pos rfl, if_pos (by omega), if_pos h]) ?_
        refine Ev.bind hA ?_
        refine Ev.congr (fun k => by rw [if_pos (by rw [List.length_map]; omega), e1, Option.bind_some, if_pos (by rw [List.length_map, List.length_append, List.length_singleton]; omega), hm, Option.bind_some, if_pos (by rw [List.length_map, List.length_map]; omega), w64n _ (by omega)]) ?_
        rw [← e3] at h'
        exact h'
      · refine Ev.step (fun k => by rw [laws_FnAdjustRef.l0, if_pos h, decide_eq_false h6]) ?_
        exact law_end rows n o ho l as' ha (by omega) _ _ _ _
    · refine Ev.step (fun k => by rw [laws_FnAdjustRef.l0, if_neg h]) ?_
      exact law_end rows n o ho l as' ha (by omega) _ _ _ _
theorem plain (l : List S22) (rows : Bool) (num n : Int) : ∃ k, laws_FnAdjustRef.f k l rows num n = some true := by
  refine Ev.rounds (g := fun k => laws_FnAdjustRef.f k l rows num n) ?_
  unfold laws_FnAdjustRef.f
  by_cases h : (l.length : Int) > 2147483647
  · simp only [if_pos h]; exact Ev.now _
  simp only [if_neg h]
  obtain ⟨a, ha, a1, a2⟩ := gridNum num 70 (by omega)
  obtain ⟨o, ho, o1, o2⟩ := gridNum n 20 (by omega)
  rw [ha, ho]
  simp only [Option.bind_some]
  exact law_loop rows a o ⟨o1, o2⟩ l 7 0 [] (by omega) (by omega) rfl (by omega) (fun _ h => by cases h)

/-- A list of arrays in memory, as the printed functions want it. -/
theorem row_of {w : World} {a : Option Addr} {len cap : Nat} {z : List (Int × Int × Int × Int)} (h : OpenArrs.IsArrs w a len cap z) : ∃ l : List S22, len = l.length ∧ l.length ≤ cap ∧ Kd.C k22 w a l.length l := by
  obtain ⟨h1, h2, h3, h4⟩ := h
  refine ⟨z.map S, by rw [List.length_map, h1], by rw [List.length_map, h1]; exact h2, rfl, by rw [List.length_map, h1]; exact h3, fun hn => ?_⟩
  obtain ⟨ad, e, hc⟩ := h4 (by rw [List.length_map, h1] at hn; exact hn)
  refine ⟨ad, e, fun j p hj => ?_⟩
  rw [List.getElem?_map] at hj
  obtain ⟨x, hx, rfl⟩ := Option.map_eq_some_iff.1 hj
  obtain ⟨g0, g1, g2, g3⟩ := hc j x hx
  refine ⟨[.int .i64 x.1, .int .i64 x.2.1, .int .i64 x.2.2.1, .int .i64 x.2.2.2], rfl, k22_mk w (S x), fun i u hu => ?_⟩
  match i, hu with
  | 0, hu => cases hu; exact g0
  | 1, hu => cases hu; exact g1
  | 2, hu => cases hu; exact g2
  | 3, hu => cases hu; exact g3
theorem law (a0 : Option Addr) (len0 cap0 : Nat) (z0 : List (Int × Int × Int × Int)) (rows : Bool) (num n : Int) (w : World) (w0 : OpenArrs.IsArrs w a0 len0 cap0 z0) :
    Calls Tryd.prog 7 #[.slice a0 len0 cap0, .bool rows, .int .i64 num, .int .i64 n] w fun e w' => e = .returned (.bool true) ∧ Below w.heap.size w w' := by
  obtain ⟨l, rfl, hc, hr⟩ := row_of w0
  obtain ⟨k, h⟩ := plain l rows num n
  exact laws_FnAdjustRef.calls k a0 cap0 l rows num n true w hr hc h
end Go.Proofs.YtfbenlenihlpbaaDoor.EvAdjust
