/- FnFrequency, plain facts: how the floats of small whole numbers stand to each other, and a float counted up by one. No conditions beyond the sizes. -/
import Derived.Test.YtjefbpfpobgmaaaFrB
namespace Go.Proofs.Ytjefbpfpobgmaaa.FrE
open Go.Proofs.Ytjefbpfpobgmaaa.FrA Go.Proofs.Ytjefbpfpobgmaaa.FrB
set_option linter.unusedVariables false
set_option linter.unusedSimpArgs false
/-- The float of a whole number stands for it: at one common place. -/
def okRead (n : Int) : Bool := match FloatKind.f64.format.read (fl n) with
  | .number s m i => decide (-1074 ≤ i) && decide (Ieee.signed s m (i + 1074).toNat = n * 2 ^ 1074)
  | _ => false
theorem read_all : ((List.range 1001).all fun k => okRead ((k : Int) - 500)) = true := by decide +kernel
theorem read_one (n : Int) (h : -500 ≤ n ∧ n ≤ 500) : ∃ s m i, FloatKind.f64.format.read (fl n) = .number s m i ∧ -1074 ≤ i ∧ Ieee.signed s m (i + 1074).toNat = n * 2 ^ 1074 := by
  have h1 := List.all_eq_true.1 read_all (n + 500).toNat (List.mem_range.2 (by omega))
  rw [show (((n + 500).toNat : Nat) : Int) - 500 = n by omega] at h1
  unfold okRead at h1
  split at h1
  · next s m i e =>
    have h2 := Bool.and_eq_true_iff.1 h1
    exact ⟨s, m, i, e, of_decide_eq_true h2.1, of_decide_eq_true h2.2⟩
  · cases h1
theorem signed_up (s : Bool) (m a b : Nat) : Ieee.signed s m (a + b) = Ieee.signed s m a * 2 ^ b := by
  cases s <;> simp [Ieee.signed, Nat.shiftLeft_eq, Nat.pow_add, Int.mul_assoc, Int.neg_mul]
theorem cmp_up (x y : Int) (b : Nat) : compare (x * 2 ^ b) (y * 2 ^ b) = compare x y := by
  have hp : (0 : Int) < 2 ^ b := Int.pow_pos (by decide)
  rcases Int.lt_trichotomy x y with h | h | h
  · rw [Int.compare_eq_lt.2 h, Int.compare_eq_lt.2 (Int.mul_lt_mul_of_pos_right h hp)]
  · rw [h, Int.compare_eq_eq.2 rfl, Int.compare_eq_eq.2 rfl]
  · rw [Int.compare_eq_gt.2 h, Int.compare_eq_gt.2 (Int.mul_lt_mul_of_pos_right h hp)]
theorem order (a b : Int) (ha : -500 ≤ a ∧ a ≤ 500) (hb : -500 ≤ b ∧ b ≤ 500) : FloatKind.f64.format.order (fl a) (fl b) = some (compare a b) := by
  obtain ⟨s, m, i, e1, h1, h2⟩ := read_one a ha
  obtain ⟨t, n, j, e3, h3, h4⟩ := read_one b hb
  unfold Ieee.Format.order
  rw [e1, e3]
  show some (compare (Ieee.signed s m (i - min i j).toNat) (Ieee.signed t n (j - min i j).toNat)) = _
  congr 1
  rw [← cmp_up _ _ (min i j + 1074).toNat, ← signed_up, ← signed_up, ← cmp_up a b 1074, ← h2, ← h4]
  have q1 : (i - min i j).toNat + (min i j + 1074).toNat = (i + 1074).toNat := by omega
  have q2 : (j - min i j).toNat + (min i j + 1074).toNat = (j + 1074).toNat := by omega
  rw [q1, q2]
theorem order_lt (a b : Int) (ha : -500 ≤ a ∧ a ≤ 500) (hb : -500 ≤ b ∧ b ≤ 500) : (FloatKind.f64.format.order (fl a) (fl b) == some .lt) = decide (a < b) := by
  rw [order a b ha hb]
  by_cases h : a < b
  · rw [Int.compare_eq_lt.2 h, decide_eq_true h]; rfl
  · rw [decide_eq_false h]
    cases hc : compare a b with
    | lt => exact absurd (Int.compare_eq_lt.1 hc) h
    | eq => rfl
    | gt => rfl
theorem order_eq (a b : Int) (ha : -500 ≤ a ∧ a ≤ 500) (hb : -500 ≤ b ∧ b ≤ 500) : (FloatKind.f64.format.order (fl a) (fl b) == some .eq) = decide (a = b) := by
  rw [order a b ha hb]
  by_cases h : a = b
  · rw [Int.compare_eq_eq.2 h, decide_eq_true h]; rfl
  · rw [decide_eq_false h]
    cases hc : compare a b with
    | eq => exact absurd (Int.compare_eq_eq.1 hc) h
    | lt => rfl
    | gt => rfl
theorem order_le (a b : Int) (ha : -500 ≤ a ∧ a ≤ 500) (hb : -500 ≤ b ∧ b ≤ 500) : (FloatKind.f64.format.order (fl a) (fl b) == some .lt || FloatKind.f64.format.order (fl a) (fl b) == some .eq) = decide (a ≤ b) := by
  rw [order_lt a b ha hb, order_eq a b ha hb]
  by_cases h : a ≤ b <;> by_cases h2 : a < b <;> by_cases h3 : a = b <;> simp [h, h2, h3] <;> omega
/-- Counting up. -/
def okUp (n : Nat) : Bool := decide (floatBits .add .f64 (fl (n : Int)) (fl 1) = some (fl ((n : Int) + 1)))
theorem up_all : ((List.range 201).all okUp) = true := by decide +kernel
theorem up_one (n : Nat) (h : n ≤ 200) : floatBits .add .f64 (fl (n : Int)) (fl 1) = some (fl ((n : Int) + 1)) := of_decide_eq_true (List.all_eq_true.1 up_all n (List.mem_range.2 (by omega)))
end Go.Proofs.Ytjefbpfpobgmaaa.FrE
