/- FnFrequency, plain facts: how many numbers are at most a bound; sorted lists; a row of rows whose places are filled one by one. No conditions. -/
import Derived.Test.YtjefbpfpobgmaaaFrU
namespace Go.Proofs.Ytjefbpfpobgmaaa.FrW
open Go.Proofs.Ytjefbpfpobgmaaa.FrT Go.Proofs.Ytjefbpfpobgmaaa.FrU
set_option linter.unusedVariables false
set_option linter.unusedSimpArgs false
/-- How many numbers are at most y. -/
def cnt (xs : List Int) (y : Int) : Nat := xs.countP (fun x => decide (x ≤ y))
/-- How many numbers are at most the j-th bin's predecessor. -/
def cAt (xs ys : List Int) (j : Nat) : Nat := if j = 0 then 0 else cnt xs (ys.getD (j - 1) 0)
/-- The number of numbers of the j-th bin. -/
def fr (xs ys : List Int) (j : Nat) : Int := if j < ys.length then (cAt xs ys (j + 1) : Int) - cAt xs ys j else (xs.length : Int) - cAt xs ys j
def counts (xs ys : List Int) : List Int := (List.range (ys.length + 1)).map (fr xs ys)
theorem cnt_le (xs : List Int) (y : Int) : cnt xs y ≤ xs.length := List.countP_le_length
theorem cnt_mono (xs : List Int) {y z : Int} (h : y ≤ z) : cnt xs y ≤ cnt xs z := by
  unfold cnt
  refine List.countP_mono_left (fun x _ hx => ?_)
  have := of_decide_eq_true hx
  exact decide_eq_true (by omega)
theorem cAt_le (xs ys : List Int) (j : Nat) : cAt xs ys j ≤ xs.length := by
  unfold cAt; split
  · omega
  · exact cnt_le _ _
theorem cAt_mono (xs ys : List Int) (h : ys.Pairwise (· < ·)) (j : Nat) (hj : j < ys.length) : cAt xs ys j ≤ cAt xs ys (j + 1) := by
  unfold cAt
  split
  · omega
  · next h0 =>
    rw [if_neg (by omega)]
    refine cnt_mono _ ?_
    have h1 : j - 1 < ys.length := by omega
    have h2 := List.pairwise_iff_getElem.1 h (j - 1) j h1 hj (by omega)
    simp only [List.getD_eq_getElem?_getD, Nat.add_sub_cancel]
    rw [List.getElem?_eq_getElem h1, List.getElem?_eq_getElem hj]
    simp only [Option.getD_some]
    omega
/-- In a list in order the numbers that are at most y stand ahead. -/
theorem count_at {ds : List Int} (h : ds.Pairwise (· ≤ ·)) (y : Int) (i : Nat) (hi : i ≤ ds.length) (h1 : ∀ k, k < i → ds.getD k 0 ≤ y) (h2 : i < ds.length → y < ds.getD i 0) : ds.countP (fun x => decide (x ≤ y)) = i := by
  have e : ds.countP (fun x => decide (x ≤ y)) = (ds.take i).countP (fun x => decide (x ≤ y)) + (ds.drop i).countP (fun x => decide (x ≤ y)) := by
    rw [← List.countP_append, List.take_append_drop]
  rw [e]
  have a : (ds.take i).countP (fun x => decide (x ≤ y)) = (ds.take i).length := by
    refine List.countP_eq_length.2 (fun x hx => ?_)
    obtain ⟨k, hk, rfl⟩ := List.mem_iff_getElem.1 hx
    have hk2 : k < i := by rw [List.length_take] at hk; omega
    have := h1 k hk2
    rw [List.getD_eq_getElem?_getD, List.getElem?_eq_getElem (by omega)] at this
    simpa using this
  have b : (ds.drop i).countP (fun x => decide (x ≤ y)) = 0 := by
    refine List.countP_eq_zero.2 (fun x hx => ?_)
    obtain ⟨k, hk, rfl⟩ := List.mem_iff_getElem.1 hx
    rw [List.length_drop] at hk
    have hlt : i < ds.length := by omega
    have := h2 hlt
    rw [List.getD_eq_getElem?_getD, List.getElem?_eq_getElem hlt] at this
    simp only [Option.getD_some] at this
    rw [List.getElem_drop]
    rcases Nat.eq_or_lt_of_le (Nat.le_add_right i k) with hk0 | hk0
    · have e2 : ds[i + k] = ds[i] := by congr 1; omega
      rw [e2]; simp; omega
    · have := List.pairwise_iff_getElem.1 h i (i + k) hlt (by omega) hk0
      simp; omega
  rw [a, b, List.length_take]
  omega
/-- Two lists in order with the same elements are one, where elements of the same number are the same. -/
theorem order_unique {l l' : List El} (hp : l.Perm l') (h1 : l.Pairwise (fun p q => p.2.1 ≤ q.2.1)) (h2 : l'.Pairwise (fun p q => p.2.1 ≤ q.2.1)) (hi : ∀ p ∈ l, ∀ q ∈ l, p.2.1 = q.2.1 → p = q) : l = l' := by
  exact hp.eq_of_pairwise (le := fun p q : El => p.2.1 ≤ q.2.1) (fun a b ha hb h3 h4 => hi a ha b (hp.mem_iff.2 hb) (Int.le_antisymm h3 h4)) h1 h2
theorem items_get (ys : List Int) (j : Nat) (hj : j < ys.length) : (items ys)[j]? = some ((j : Int), toSm ys[j]) := by
  simp [items, hj]
theorem items_pair (ys : List Int) (hb : ∀ y ∈ ys, -500 ≤ y ∧ y ≤ 500) (h : ys.Pairwise (· < ·)) : (items ys).Pairwise (fun p q => p.2.1 < q.2.1) := by
  rw [List.pairwise_iff_getElem]
  intro i j hi hj hij
  have hi' : i < ys.length := by rwa [items_len] at hi
  have hj' : j < ys.length := by rwa [items_len] at hj
  have e1 := items_get ys i hi'
  have e2 := items_get ys j hj'
  rw [List.getElem?_eq_getElem hi] at e1
  rw [List.getElem?_eq_getElem hj] at e2
  rw [Option.some.inj e1, Option.some.inj e2]
  simp only
  rw [toSm_val (hb _ (List.getElem_mem hi')), toSm_val (hb _ (List.getElem_mem hj'))]
  exact List.pairwise_iff_getElem.1 h i j hi' hj' hij
theorem bins_are {ys : List Int} {ds : List El} (hb : ∀ y ∈ ys, -500 ≤ y ∧ y ≤ 500) (h : ys.Pairwise (· < ·)) (hp : ds.Perm (items ys)) (hs : ds.Pairwise (fun p q => p.2.1 ≤ q.2.1)) : ds = items ys := by
  have hq := items_pair ys hb h
  refine order_unique hp hs (hq.imp (fun h => Int.le_of_lt h)) (fun p hp2 q hq2 e => ?_)
  obtain ⟨i, hi, rfl⟩ := List.mem_iff_getElem.1 (hp.mem_iff.1 hp2)
  obtain ⟨j, hj, rfl⟩ := List.mem_iff_getElem.1 (hp.mem_iff.1 hq2)
  rcases Nat.lt_trichotomy i j with h3 | h3 | h3
  · have := List.pairwise_iff_getElem.1 hq i j hi hj h3; omega
  · subst h3; rfl
  · have := List.pairwise_iff_getElem.1 hq j i hj hi h3; omega
/-- The numbers of the sorted data. -/
def nos (ds : List El) : List Int := ds.map (fun p => p.2.1)
theorem nos_items (xs : List Int) (hb : ∀ x ∈ xs, -500 ≤ x ∧ x ≤ 500) : nos (items xs) = xs := by
  apply List.ext_getElem
  · simp [nos, items]
  · intro i h1 h2
    have h3 : i < xs.length := h2
    simp [nos, items]
    exact toSm_val (hb _ (List.getElem_mem h3))
theorem nos_sorted {ds : List El} (h : ds.Pairwise (fun p q => p.2.1 ≤ q.2.1)) : (nos ds).Pairwise (· ≤ ·) := by
  unfold nos; rw [List.pairwise_map]; exact h
theorem nos_count {ds : List El} {xs : List Int} (hb : ∀ x ∈ xs, -500 ≤ x ∧ x ≤ 500) (hp : ds.Perm (items xs)) (y : Int) : (nos ds).countP (fun x => decide (x ≤ y)) = cnt xs y := by
  have h1 : (nos ds).Perm xs := by
    have := hp.map (fun p : El => p.2.1)
    have h2 := nos_items xs hb
    unfold nos at h2 ⊢
    rwa [h2] at this
  exact h1.countP_eq _
/-- A row of rows, filled up to j. -/
def filled (f : Nat → Int) (j m : Nat) : List (List Int) := (List.range j).map (fun k => [f k]) ++ List.replicate (m - j) []
theorem filled_len (f : Nat → Int) (j m : Nat) (h : j ≤ m) : (filled f j m).length = m := by simp [filled]; omega
theorem filled_zero (f : Nat → Int) (m : Nat) : filled f 0 m = List.replicate m [] := by simp [filled]
theorem filled_set (f : Nat → Int) (j m : Nat) (h : j < m) : (filled f j m).set j [f j] = filled f (j + 1) m := by
  unfold filled
  rw [List.set_append_right _ _ (by simp), List.length_map, List.length_range, Nat.sub_self, List.range_succ, List.map_append, List.append_assoc]
  congr 1
  obtain ⟨d, hd⟩ : ∃ d, m - j = d + 1 := ⟨m - j - 1, by omega⟩
  have e : m - (j + 1) = d := by omega
  rw [hd, e, List.replicate_succ]
  rfl
theorem filled_all (f : Nat → Int) (m : Nat) : filled f m m = ((List.range m).map f).map (fun x => [x]) := by simp [filled, Function.comp_def]
end Go.Proofs.Ytjefbpfpobgmaaa.FrW
