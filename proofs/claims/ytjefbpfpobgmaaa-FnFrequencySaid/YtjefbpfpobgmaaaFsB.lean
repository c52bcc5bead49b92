/- FnFrequency, plain law: the reference's counting of the numbers by bins, and the number of numbers up to each bin, agree. Conditions: bins in increasing order, lengths. -/
import Derived.Test.YtjefbpfpobgmaaaFrW
import Derived.Test.YtjefbpfpobgmaaaPFqx1
namespace Go.Proofs.Ytjefbpfpobgmaaa.FsB
open Go.Proofs.Ytjefbpfpobgmaaa.FrW Go.Proofs.Ytjefbpfpobgmaaa.PFq Go.RowKit Go.Proofs.YtjefbpfpobgmaaaW.PrintWords
set_option linter.unusedVariables false
set_option linter.unusedSimpArgs false
/-- The bin of a number. -/
def bin (x : Int) : List Int → Nat
  | [] => 0
  | y :: ys => if y < x then bin x ys + 1 else 0
theorem bin_le (x : Int) : ∀ ys : List Int, bin x ys ≤ ys.length
  | [] => Nat.le_refl 0
  | y :: ys => by
    have := bin_le x ys
    unfold bin; split <;> simp <;> omega
theorem bin_lt (x : Int) : ∀ (ys : List Int) (k : Nat), k < bin x ys → ys.getD k 0 < x
  | [], k, h => absurd h (Nat.not_lt_zero k)
  | y :: ys, k, h => by
    unfold bin at h
    split at h
    · next hy =>
      cases k with
      | zero => simpa using hy
      | succ k => simpa using bin_lt x ys k (by omega)
    · exact absurd h (Nat.not_lt_zero k)
theorem bin_at (x : Int) : ∀ (ys : List Int), bin x ys < ys.length → ¬ ys.getD (bin x ys) 0 < x
  | [], h => absurd h (by simp)
  | y :: ys, h => by
    unfold bin at h ⊢
    split
    · next hy =>
      rw [if_pos hy] at h
      simp at h
      simpa using bin_at x ys h
    · next hy => simpa using hy
theorem get_mono {ys : List Int} (h : ys.Pairwise (· < ·)) {i j : Nat} (hij : i ≤ j) (hj : j < ys.length) : ys.getD i 0 ≤ ys.getD j 0 := by
  rcases Nat.eq_or_lt_of_le hij with e | e
  · rw [e]; exact Int.le_refl _
  · have h2 := List.pairwise_iff_getElem.1 h i j (by omega) hj e
    rw [List.getD_eq_getElem?_getD, List.getD_eq_getElem?_getD, List.getElem?_eq_getElem (show i < ys.length by omega), List.getElem?_eq_getElem hj]
    exact Int.le_of_lt h2
theorem bin_iff {ys : List Int} (h : ys.Pairwise (· < ·)) (x : Int) (j : Nat) (hj : j < ys.length) : bin x ys ≤ j ↔ x ≤ ys.getD j 0 := by
  constructor
  · intro hb
    have h1 := bin_at x ys (by omega)
    have h2 := get_mono h hb hj
    omega
  · intro hx
    rcases Nat.lt_or_ge j (bin x ys) with h1 | h1
    · have := bin_lt x ys j h1; omega
    · exact h1
def cb (ys xs : List Int) (j : Nat) : Nat := xs.countP (fun x => decide (bin x ys = j))
theorem cb_zero (ys xs : List Int) : cb ys xs 0 = xs.countP (fun x => decide (bin x ys ≤ 0)) := by
  unfold cb; congr 1; funext x; simp
theorem cb_succ (ys : List Int) (j : Nat) : ∀ xs : List Int, cb ys xs (j + 1) + xs.countP (fun x => decide (bin x ys ≤ j)) = xs.countP (fun x => decide (bin x ys ≤ j + 1))
  | [] => rfl
  | x :: xs => by
    have ih := cb_succ ys j xs
    unfold cb at ih ⊢
    simp only [List.countP_cons, decide_eq_true_eq]
    by_cases h1 : bin x ys = j + 1
    · have h2 : ¬ bin x ys ≤ j := by omega
      have h3 : bin x ys ≤ j + 1 := by omega
      rw [if_pos h1, if_neg h2, if_pos h3]; omega
    · by_cases h2 : bin x ys ≤ j
      · have h3 : bin x ys ≤ j + 1 := by omega
        rw [if_neg h1, if_pos h2, if_pos h3]; omega
      · have h3 : ¬ bin x ys ≤ j + 1 := by omega
        rw [if_neg h1, if_neg h2, if_neg h3]; omega
theorem cnt_bin {ys : List Int} (h : ys.Pairwise (· < ·)) (xs : List Int) (j : Nat) (hj : j < ys.length) : xs.countP (fun x => decide (bin x ys ≤ j)) = cnt xs (ys.getD j 0) := by
  unfold cnt
  congr 1
  funext x
  exact decide_eq_decide.2 (bin_iff h x j hj)
theorem cnt_all (ys xs : List Int) : xs.countP (fun x => decide (bin x ys ≤ ys.length)) = xs.length := List.countP_eq_length.2 (fun x _ => decide_eq_true (bin_le x ys))
theorem fr_cb {ys : List Int} (h : ys.Pairwise (· < ·)) (xs : List Int) (j : Nat) (hj : j ≤ ys.length) : fr xs ys j = (cb ys xs j : Int) := by
  unfold fr
  cases j with
  | zero =>
    split
    · next h0 =>
      rw [cb_zero, cnt_bin h xs 0 h0]
      simp [cAt]
    · next h0 =>
      have h1 : ys.length = 0 := by omega
      have h2 := cnt_all ys xs
      rw [h1] at h2
      rw [cb_zero, h2]
      simp [cAt]
  | succ j =>
    have h1 := cb_succ ys j xs
    rw [cnt_bin h xs j (by omega)] at h1
    have e1 : cAt xs ys (j + 1) = cnt xs (ys.getD j 0) := by unfold cAt; rw [if_neg (by omega), Nat.add_sub_cancel]
    split
    · next h0 =>
      have e2 : cAt xs ys (j + 1 + 1) = cnt xs (ys.getD (j + 1) 0) := by unfold cAt; rw [if_neg (by omega), Nat.add_sub_cancel]
      rw [cnt_bin h xs (j + 1) h0] at h1
      omega
    · next h0 =>
      have h2 := cnt_all ys xs
      rw [show ys.length = j + 1 by omega] at h2
      omega
/-- What the counting has made of the first numbers. -/
def made (ys xs : List Int) : List Int := (List.range (ys.length + 1)).map (fun j => (cb ys xs j : Int))
theorem counts_made {ys : List Int} (h : ys.Pairwise (· < ·)) (xs : List Int) : made ys xs = counts xs ys := by
  unfold made counts
  refine List.map_congr_left (fun j hj => ?_)
  rw [List.mem_range] at hj
  exact (fr_cb h xs j (by omega)).symm
theorem made_len (ys xs : List Int) : (made ys xs).length = ys.length + 1 := by simp [made]
theorem made_get (ys xs : List Int) (j : Nat) (hj : j ≤ ys.length) : (made ys xs).getD j 0 = (cb ys xs j : Int) := by
  simp [made, List.getD_eq_getElem?_getD, Nat.lt_succ_of_le hj]
theorem made_snoc (ys xs : List Int) (x : Int) : (made ys xs).set (bin x ys) ((made ys xs).getD (bin x ys) 0 + 1) = made ys (xs ++ [x]) := by
  have hb := bin_le x ys
  rw [made_get ys xs _ hb]
  apply List.ext_getElem
  · simp [made]
  · intro i h1 h2
    have hi : i < ys.length + 1 := by simpa [made] using h2
    rw [List.getElem_set]
    have e : cb ys (xs ++ [x]) i = cb ys xs i + (if bin x ys = i then 1 else 0) := by
      unfold cb; rw [List.countP_append]; simp [List.countP_cons]
    split
    · next h3 => subst h3; simp [made, e]
    · next h3 => simp [made, e, h3]
theorem made_nil (ys : List Int) : made ys [] = List.replicate (ys.length + 1) 0 := by
  apply List.ext_getElem
  · simp [made]
  · intro i h1 h2; simp [made, cb]
/-- From some fuel on. -/
def E {α : Type} (f : Nat → Option α) (r : α) : Prop := ∃ K, ∀ k, K ≤ k → f k = some r
theorem l1_ev (xs ys : List Int) (i : Nat) (hi : i < xs.length) (hx : xs.length ≤ 100) (hy : ys.length ≤ 100) (r : List Int) (hr : E (fun k => spec_SumsFrequency.l0 k xs ys (made ys (xs.take (i + 1))) ((i + 1 : Nat) : Int)) r) :
    ∀ (d j : Nat), j + d = bin (rd xs i) ys → E (fun k => spec_SumsFrequency.l1 k xs ys (made ys (xs.take i)) (i : Int) (j : Int)) r := by
  have hb := bin_le (rd xs i) ys
  have hw : ∀ n : Int, 0 ≤ n → n ≤ 200 → wrap64 (n + 1) = n + 1 := fun n h1 h2 => by unfold wrap64; omega
  intro d
  induction d with
  | zero =>
    intro j hj
    obtain ⟨K, hK⟩ := hr
    refine ⟨K + 1, fun k hk => ?_⟩
    obtain ⟨k, rfl⟩ : ∃ q, k = q + 1 := ⟨k - 1, by omega⟩
    have e1 := hK k (by omega)
    have hx1 : xs[i]? = some (rd xs i) := by simp [rd, List.getD_eq_getElem?_getD, hi]
    have e2 : made ys (xs.take (i + 1)) = (made ys (xs.take i)).set j ((made ys (xs.take i)).getD j 0 + 1) := by
      rw [List.take_add_one, hx1]
      show made ys (xs.take i ++ [rd xs i]) = _
      rw [← made_snoc]
      have : bin (rd xs i) ys = j := by omega
      rw [this]
    have hg : (made ys (xs.take i)).getD j 0 = (cb ys (xs.take i) j : Int) := made_get _ _ _ (by omega)
    have hc : cb ys (xs.take i) j ≤ 100 := by
      have h1 : cb ys (xs.take i) j ≤ (xs.take i).length := List.countP_le_length
      rw [List.length_take] at h1; omega
    have e3 : rd (made ys (xs.take i)) (j : Int) = (made ys (xs.take i)).getD j 0 := by unfold rd; rw [Int.toNat_natCast]
    have hfin : spec_SumsFrequency.l0 k xs ys ((made ys (xs.take i)).set ((j : Int)).toNat (wrap64 ((rd (made ys (xs.take i)) (j : Int)) + 1))) (wrap64 ((i : Int) + 1)) = some r := by
      rw [e3, hw _ (by rw [hg]; omega) (by rw [hg]; omega), hw _ (by omega) (by omega), Int.toNat_natCast, ← e2]
      exact e1
    have hlen : (j : Int) < ((made ys (xs.take i)).length : Int) := by rw [made_len]; omega
    show spec_SumsFrequency.l1 (k + 1) xs ys (made ys (xs.take i)) (i : Int) (j : Int) = some r
    unfold spec_SumsFrequency.l1
    by_cases hl : j < ys.length
    · have hn : ¬ rd xs i > rd ys j := by
        have h1 := bin_at (rd xs i) ys (by omega)
        have h2 : bin (rd xs i) ys = j := by omega
        rw [h2] at h1
        have h3 : rd ys (j : Int) = ys.getD j 0 := by unfold rd; rw [Int.toNat_natCast]
        rw [h3]; omega
      rw [if_pos (by omega), if_pos (by omega), if_pos (by omega), if_pos (by omega), if_neg hn, if_pos hlen]
      exact hfin
    · rw [if_neg (by omega), if_pos (by omega), if_pos hlen]
      exact hfin
  | succ d ih =>
    intro j hj
    obtain ⟨K, hK⟩ := ih (j + 1) (by omega)
    refine ⟨K + 1, fun k hk => ?_⟩
    obtain ⟨k, rfl⟩ : ∃ q, k = q + 1 := ⟨k - 1, by omega⟩
    have e1 := hK k (by omega)
    show spec_SumsFrequency.l1 (k + 1) xs ys (made ys (xs.take i)) (i : Int) (j : Int) = some r
    unfold spec_SumsFrequency.l1
    have hg : rd xs i > rd ys j := by
      have h1 := bin_lt (rd xs i) ys j (by omega)
      have h3 : rd ys (j : Int) = ys.getD j 0 := by unfold rd; rw [Int.toNat_natCast]
      rw [h3]; exact h1
    rw [if_pos (by omega), if_pos (by omega), if_pos (by omega), if_pos (by omega), if_pos hg, hw _ (by omega) (by omega)]
    exact e1
theorem l0_ev (xs ys : List Int) (hx : xs.length ≤ 100) (hy : ys.length ≤ 100) : ∀ (d i : Nat), i + d = xs.length → E (fun k => spec_SumsFrequency.l0 k xs ys (made ys (xs.take i)) (i : Int)) (made ys xs) := by
  intro d
  induction d with
  | zero =>
    intro i hi
    refine ⟨1, fun k hk => ?_⟩
    obtain ⟨k, rfl⟩ : ∃ q, k = q + 1 := ⟨k - 1, by omega⟩
    show spec_SumsFrequency.l0 (k + 1) xs ys (made ys (xs.take i)) (i : Int) = _
    unfold spec_SumsFrequency.l0
    rw [if_neg (by omega), List.take_of_length_le (by omega)]
  | succ d ih =>
    intro i hi
    obtain ⟨K, hK⟩ := l1_ev xs ys i (by omega) hx hy _ (ih (i + 1) (by omega)) _ 0 (Nat.zero_add _)
    refine ⟨K + 1, fun k hk => ?_⟩
    obtain ⟨k, rfl⟩ : ∃ q, k = q + 1 := ⟨k - 1, by omega⟩
    have e1 := hK k (by omega)
    show spec_SumsFrequency.l0 (k + 1) xs ys (made ys (xs.take i)) (i : Int) = _
    unfold spec_SumsFrequency.l0
    rw [if_pos (by omega)]
    exact e1
theorem sums_counts (xs ys : List Int) (hx : xs.length ≤ 100) (hy : ys.length ≤ 100) (h : ys.Pairwise (· < ·)) : ∃ k, spec_SumsFrequency.f k xs ys = some (counts xs ys) := by
  obtain ⟨K, hK⟩ := l0_ev xs ys hx hy xs.length 0 (Nat.zero_add _)
  refine ⟨K, ?_⟩
  have e1 := hK K (Nat.le_refl _)
  have hw : wrap64 ((ys.length : Int) + 1) = (ys.length : Int) + 1 := by unfold wrap64; omega
  unfold spec_SumsFrequency.f
  rw [hw, if_pos (by omega), if_pos (by omega), show ((ys.length : Int) + 1).toNat = ys.length + 1 by omega, ← made_nil, ← counts_made h]
  simpa using e1
end Go.Proofs.Ytjefbpfpobgmaaa.FsB
