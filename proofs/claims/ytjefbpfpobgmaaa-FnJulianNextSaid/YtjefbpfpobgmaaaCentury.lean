/- The days of a century from March 1 on, and their dates: each day's next one has the next date. Whole numbers alone. -/
import Derived.RowKit
namespace Go.Proofs.Ytjefbpfpobgmaaa.Pure

-- A day within a century (from March 1 on), and its day, month and year of the century.
def yr (l : Nat) : Nat := 4000 * (l + 1) / 1461001
def in_ (l : Nat) : Nat := l - 1461 * yr l / 4 + 31
def mo (l : Nat) : Nat := 80 * in_ l / 2447
def dd (l : Nat) : Nat := in_ l - 2447 * mo l / 80
def mm (l : Nat) : Nat := mo l + 2 - 12 * (mo l / 11)
def yy (l : Nat) : Nat := yr l + mo l / 11

def cnt (l : Nat) : Nat := if mm l = 2 then (if yy l % 4 = 0 ∧ yy l % 100 ≠ 0 then 29 else 28) else if mm l = 4 ∨ mm l = 6 ∨ mm l = 9 ∨ mm l = 11 then 30 else 31
def same_ (l : Nat) : Bool := (dd (l + 1) == dd l + 1) && ((mm (l + 1) == mm l) && (yy (l + 1) == yy l))
def chk (l : Nat) : Bool :=
  (1 ≤ mm l) && ((mm l ≤ 12) && (if yy l % 100 = 0 ∧ mm l = 2 then (dd l < 28) && same_ l
  else if dd l < cnt l then same_ l
  else if mm l < 12 then (dd (l + 1) == 1) && ((mm (l + 1) == mm l + 1) && (yy (l + 1) == yy l))
  else (dd (l + 1) == 1) && ((mm (l + 1) == 1) && (yy (l + 1) == yy l + 1))))
def below (l : Nat) : Bool := (36523 ≤ l) || chk l
def allR (p : Nat → Bool) : Nat → Nat → Bool
  | 0, lo => p lo
  | k + 1, lo => allR p k lo && allR p k (lo + 2 ^ k)
theorem allR_at (p : Nat → Bool) : ∀ k lo, allR p k lo = true → ∀ x, lo ≤ x → x < lo + 2 ^ k → p x = true
  | 0, lo, h, x, h0, h1 => by
    have : x = lo := by simp at h1; omega
    subst this; exact h
  | k + 1, lo, h, x, h0, h1 => by
    simp only [allR, Bool.and_eq_true] at h
    by_cases hx : x < lo + 2 ^ k
    · exact allR_at p k lo h.1 x h0 hx
    · exact allR_at p k (lo + 2 ^ k) h.2 x (by omega) (by rw [Nat.pow_succ] at h1; omega)
theorem days0 : allR below 13 0 = true := by decide +kernel
theorem days1 : allR below 13 8192 = true := by decide +kernel
theorem days2 : allR below 13 16384 = true := by decide +kernel
theorem days3 : allR below 13 24576 = true := by decide +kernel
theorem days4 : allR below 13 32768 = true := by decide +kernel
theorem chk_at (l : Nat) (h : l < 36523) : chk l = true := by
  have : below l = true := by
    by_cases h1 : l < 8192
    · exact allR_at below 13 0 days0 l (Nat.zero_le _) (by omega)
    by_cases h2 : l < 16384
    · exact allR_at below 13 8192 days1 l (by omega) (by omega)
    by_cases h3 : l < 24576
    · exact allR_at below 13 16384 days2 l (by omega) (by omega)
    by_cases h4 : l < 32768
    · exact allR_at below 13 24576 days3 l (by omega) (by omega)
    exact allR_at below 13 32768 days4 l (by omega) (by omega)
  simp only [below, Bool.or_eq_true, decide_eq_true_eq] at this
  rcases this with h1 | h1
  · omega
  · exact h1

end Go.Proofs.Ytjefbpfpobgmaaa.Pure
