/- The law FnJulianNext, as a statement over whole numbers: for every argument the next Julian day number, in the years from 1600 to 3000, has the next day's date. -/
import Derived.Test.YtjefbpfpobgmaaaPFnJulianNextx1
import Derived.Test.YtjefbpfpobgmaaaCentury
namespace Go.Proofs.Ytjefbpfpobgmaaa.Pure
open Go.RowKit Go.Proofs.Ytjefbpfpobgmaaa.PFnJulianNext Go.Proofs.YtjefbpfpobgmaaaW.PrintWords Go.Proofs.YtjefbpfpobgmaaaW.PrintLast

theorem w64 (x : Int) (h : -9223372036854775808 ≤ x) (h2 : x ≤ 9223372036854775807) : wrap64 x = x := by unfold wrap64; omega
theorem wq (x y : Nat) (h : x ≤ 9223372036854775807) : wrap64 (Int.tdiv (x : Int) (y : Int)) = ((x / y : Nat) : Int) := by
  have h1 : Int.tdiv (x : Int) (y : Int) = ((x / y : Nat) : Int) := rfl
  have h2 : x / y ≤ x := Nat.div_le_self x y
  rw [h1]
  generalize x / y = z at h2 ⊢
  exact w64 _ (by omega) (by omega)

theorem fl (a0 : Int) (L N l : Nat) (ha : a0 = (L : Int) - 68569) (h0 : 2374017 ≤ L) (h1 : L ≤ 2884019) (hN : N = 4 * L / 146097) (hl : l = L - (146097 * N + 3) / 4) :
    l ≤ 36524 ∧ impl_Julian.f a0 = some ((dd l : Int), (mm l : Int), 100 * ((N : Int) - 49) + (yy l : Int)) := by
  have hN1 : 146097 * N ≤ 4 * L ∧ 4 * L < 146097 * N + 146097 := by omega
  have hN2 : 64 ≤ N ∧ N ≤ 79 := by omega
  obtain ⟨Q, hQ⟩ : ∃ Q, Q = (146097 * N + 3) / 4 := ⟨_, rfl⟩
  rw [← hQ] at hl
  have hl1 : l ≤ 36524 ∧ Q ≤ L := by omega
  refine ⟨hl1.1, ?_⟩
  obtain ⟨I, hI⟩ : ∃ I, I = 4000 * (l + 1) / 1461001 := ⟨_, rfl⟩
  have hI1 : I ≤ 99 := by omega
  obtain ⟨Q2, hQ2⟩ : ∃ Q2, Q2 = 1461 * I / 4 := ⟨_, rfl⟩
  have hQ21 : Q2 ≤ l ∧ l - Q2 ≤ 366 := by omega
  obtain ⟨l2, hl2⟩ : ∃ l2, l2 = l - Q2 + 31 := ⟨_, rfl⟩
  obtain ⟨J, hJ⟩ : ∃ J, J = 80 * l2 / 2447 := ⟨_, rfl⟩
  have hJ1 : J ≤ 12 ∧ 1 ≤ J := by omega
  obtain ⟨Q3, hQ3⟩ : ∃ Q3, Q3 = 2447 * J / 80 := ⟨_, rfl⟩
  have hQ31 : Q3 ≤ l2 := by omega
  obtain ⟨K, hK⟩ : ∃ K, K = J / 11 := ⟨_, rfl⟩
  have hK1 : K ≤ 1 ∧ 12 * K ≤ J + 2 := by omega
  have eI : yr l = I := by rw [hI]; rfl
  have el2 : in_ l = l2 := by unfold in_; rw [eI, ← hQ2, hl2]
  have eJ : mo l = J := by unfold mo; rw [el2, hJ]
  have eD : dd l = l2 - Q3 := by unfold dd; rw [el2, eJ, ← hQ3]
  have eM : mm l = J + 2 - 12 * K := by unfold mm; rw [eJ, ← hK]
  have eY : yy l = I + K := by unfold yy; rw [eI, eJ, ← hK]
  rw [eD, eM, eY]
  clear eI el2 eJ eD eM eY hN1
  unfold impl_Julian.f excelize_DoorJulian.f excelize_doTheFliegelAndVanFlandernAlgorithm.f
  rw [show wrap64 (a0 + 68569) = ((L : Nat) : Int) from by rw [w64 _ (by omega) (by omega)]; omega]
  rw [show wrap64 (4 * (L : Int)) = ((4 * L : Nat) : Int) from by rw [w64 _ (by omega) (by omega)]; omega]
  rw [show wrap64 (Int.tdiv ((4 * L : Nat) : Int) 146097) = ((N : Nat) : Int) from by rw [hN]; exact wq _ _ (by omega)]
  rw [show wrap64 (146097 * (N : Int)) = ((146097 * N : Nat) : Int) from by rw [w64 _ (by omega) (by omega)]; omega]
  rw [show wrap64 (((146097 * N : Nat) : Int) + 3) = ((146097 * N + 3 : Nat) : Int) from by rw [w64 _ (by omega) (by omega)]; omega]
  rw [show wrap64 (Int.tdiv ((146097 * N + 3 : Nat) : Int) 4) = ((Q : Nat) : Int) from by rw [hQ]; exact wq _ _ (by omega)]
  rw [show wrap64 ((L : Int) - (Q : Int)) = ((l : Nat) : Int) from by rw [w64 _ (by omega) (by omega)]; omega]
  rw [show wrap64 ((l : Int) + 1) = ((l + 1 : Nat) : Int) from by rw [w64 _ (by omega) (by omega)]; omega]
  rw [show wrap64 (4000 * ((l + 1 : Nat) : Int)) = ((4000 * (l + 1) : Nat) : Int) from by rw [w64 _ (by omega) (by omega)]; omega]
  rw [show wrap64 (Int.tdiv ((4000 * (l + 1) : Nat) : Int) 1461001) = ((I : Nat) : Int) from by rw [hI]; exact wq _ _ (by omega)]
  rw [show wrap64 (1461 * (I : Int)) = ((1461 * I : Nat) : Int) from by rw [w64 _ (by omega) (by omega)]; omega]
  rw [show wrap64 (Int.tdiv ((1461 * I : Nat) : Int) 4) = ((Q2 : Nat) : Int) from by rw [hQ2]; exact wq _ _ (by omega)]
  rw [show wrap64 ((l : Int) - (Q2 : Int)) = ((l - Q2 : Nat) : Int) from by rw [w64 _ (by omega) (by omega)]; omega]
  rw [show wrap64 (((l - Q2 : Nat) : Int) + 31) = ((l2 : Nat) : Int) from by rw [w64 _ (by omega) (by omega)]; omega]
  rw [show wrap64 (80 * (l2 : Int)) = ((80 * l2 : Nat) : Int) from by rw [w64 _ (by omega) (by omega)]; omega]
  rw [show wrap64 (Int.tdiv ((80 * l2 : Nat) : Int) 2447) = ((J : Nat) : Int) from by rw [hJ]; exact wq _ _ (by omega)]
  rw [show wrap64 (2447 * (J : Int)) = ((2447 * J : Nat) : Int) from by rw [w64 _ (by omega) (by omega)]; omega]
  rw [show wrap64 (Int.tdiv ((2447 * J : Nat) : Int) 80) = ((Q3 : Nat) : Int) from by rw [hQ3]; exact wq _ _ (by omega)]
  rw [show wrap64 ((l2 : Int) - (Q3 : Int)) = ((l2 - Q3 : Nat) : Int) from by rw [w64 _ (by omega) (by omega)]; omega]
  rw [show wrap64 ((J : Int) + 2) = ((J + 2 : Nat) : Int) from by rw [w64 _ (by omega) (by omega)]; omega]
  rw [show wrap64 (Int.tdiv (J : Int) 11) = ((K : Nat) : Int) from by rw [hK]; exact wq _ _ (by omega)]
  rw [show wrap64 (12 * (K : Int)) = ((12 * K : Nat) : Int) from by rw [w64 _ (by omega) (by omega)]; omega]
  rw [show wrap64 (((J + 2 : Nat) : Int) - ((12 * K : Nat) : Int)) = ((J + 2 - 12 * K : Nat) : Int) from by rw [w64 _ (by omega) (by omega)]; omega]
  rw [show wrap64 ((N : Int) - 49) = (N : Int) - 49 from w64 _ (by omega) (by omega)]
  rw [show wrap64 (100 * ((N : Int) - 49)) = 100 * ((N : Int) - 49) from w64 _ (by omega) (by omega)]
  rw [show wrap64 (100 * ((N : Int) - 49) + (I : Int)) = 100 * ((N : Int) - 49) + (I : Int) from w64 _ (by omega) (by omega)]
  rw [show wrap64 (100 * ((N : Int) - 49) + (I : Int) + (K : Int)) = 100 * ((N : Int) - 49) + ((I + K : Nat) : Int) from by rw [w64 _ (by omega) (by omega)]; omega]
  rfl

-- The century and the day in it of the next day.
theorem step_ (L N l N' l' : Nat) (hN : N = 4 * L / 146097) (hl : l = L - (146097 * N + 3) / 4)
    (hN' : N' = 4 * (L + 1) / 146097) (hl' : l' = L + 1 - (146097 * N' + 3) / 4) :
    (N' = N ∧ l' = l + 1 ∧ (l < 36523 ∨ (l = 36523 ∧ N % 4 = 0))) ∨ (N' = N + 1 ∧ l' = 0 ∧ ((l = 36523 ∧ N % 4 ≠ 0) ∨ (l = 36524 ∧ N % 4 = 0))) := by
  have hc : N' = N ∨ N' = N + 1 := by omega
  obtain ⟨q, hq⟩ : ∃ q, N = 4 * q ∨ N = 4 * q + 1 ∨ N = 4 * q + 2 ∨ N = 4 * q + 3 := ⟨N / 4, by omega⟩
  have hb : 146097 * N ≤ 4 * L ∧ 4 * L < 146097 * N + 146097 := by omega
  have hb' : 146097 * N' ≤ 4 * (L + 1) ∧ 4 * (L + 1) < 146097 * N' + 146097 := by omega
  clear hN hN'
  rcases hc with rfl | rfl
  · left
    rcases hq with rfl | rfl | rfl | rfl <;> omega
  · right
    rcases hq with rfl | rfl | rfl | rfl <;> omega

theorem leap_eq (y : Int) (hy : 0 ≤ y) : spec_DayLeap.f y = some (decide (y % 4 = 0 ∧ (y % 100 ≠ 0 ∨ y % 400 = 0))) := by
  unfold spec_DayLeap.f
  rw [Int.tmod_eq_emod_of_nonneg hy, Int.tmod_eq_emod_of_nonneg hy, Int.tmod_eq_emod_of_nonneg hy]
  by_cases a : y % 4 = 0 <;> by_cases b : y % 100 = 0 <;> simp [a, b]
  by_cases c : y % 400 = 0 <;> simp [c]

theorem count_feb (k : Nat) (y : Int) (hy : 0 ≤ y) : spec_DayCount.f (k + 2) y 2 = some (if y % 4 = 0 ∧ (y % 100 ≠ 0 ∨ y % 400 = 0) then 29 else 28) := by
  by_cases a : y % 4 = 0 ∧ (y % 100 ≠ 0 ∨ y % 400 = 0)
  · rw [if_pos a]
    have e := leap_eq y hy
    rw [decide_eq_true a] at e
    simp [spec_DayCount.f, spec_DayCount.j0, e, spec_DayCount.j1]
  · rw [if_neg a]
    have e := leap_eq y hy
    rw [decide_eq_false a] at e
    simp [spec_DayCount.f, spec_DayCount.j0, e, spec_DayCount.j1]
theorem count_other (k : Nat) (y : Int) (m : Nat) (h1 : 1 ≤ m) (h2 : m ≤ 12) (h3 : m ≠ 2) :
    spec_DayCount.f (k + 2) y (m : Int) = some ((if m = 4 ∨ m = 6 ∨ m = 9 ∨ m = 11 then 30 else 31 : Nat) : Int) := by
  have : m = 1 ∨ m = 3 ∨ m = 4 ∨ m = 5 ∨ m = 6 ∨ m = 7 ∨ m = 8 ∨ m = 9 ∨ m = 10 ∨ m = 11 ∨ m = 12 := by omega
  rcases this with rfl | rfl | rfl | rfl | rfl | rfl | rfl | rfl | rfl | rfl | rfl <;> rfl

theorem next_same (y d : Int) (m c : Int) (hc : spec_DayCount.f 3 y m = some c) (h : d < c) (hd : 0 ≤ d) (hd2 : d ≤ 1000) : spec_DayNext.f 3 d m y = some (d + 1, m, y) := by
  unfold spec_DayNext.f; rw [hc]; simp only [Option.bind_some]; rw [if_pos h, w64 _ (by omega) (by omega)]
theorem next_month (y d : Int) (m c : Int) (hc : spec_DayCount.f 3 y m = some c) (h : ¬ d < c) (h2 : m < 12) (h3 : 0 ≤ m) : spec_DayNext.f 3 d m y = some (1, m + 1, y) := by
  unfold spec_DayNext.f; rw [hc]; simp only [Option.bind_some]; rw [if_neg h, if_pos h2, w64 _ (by omega) (by omega)]
theorem next_year (y d : Int) (m c : Int) (hc : spec_DayCount.f 3 y m = some c) (h : ¬ d < c) (h2 : ¬ m < 12) (h3 : 0 ≤ y) (h4 : y ≤ 10000) : spec_DayNext.f 3 d m y = some (1, 1, y + 1) := by
  unfold spec_DayNext.f; rw [hc]; simp only [Option.bind_some]; rw [if_neg h, if_neg h2, w64 _ (by omega) (by omega)]

theorem dd_small (l : Nat) (h : l ≤ 36524) : dd l ≤ 400 ∧ yy l ≤ 100 := by
  have h1 : yr l ≤ 99 := by unfold yr; omega
  have h2 : in_ l ≤ 397 := by
    have : yr l = 4000 * (l + 1) / 1461001 := rfl
    unfold in_; omega
  have h3 : mo l ≤ 12 := by unfold mo; omega
  unfold dd yy
  omega

/-- The date of the next day, by the reference's step, is that of the next number. -/
theorem date_next (L N l N' l' : Nat) (h0 : 2374017 ≤ L) (h1 : L ≤ 2884018) (hN : N = 4 * L / 146097) (hl : l = L - (146097 * N + 3) / 4)
    (hN' : N' = 4 * (L + 1) / 146097) (hl' : l' = L + 1 - (146097 * N' + 3) / 4) (hle : l ≤ 36524) :
    spec_DayNext.f 3 (dd l : Int) (mm l : Int) (100 * ((N : Int) - 49) + (yy l : Int)) = some ((dd l' : Int), (mm l' : Int), 100 * ((N' : Int) - 49) + (yy l' : Int)) := by
  have hNb : 64 ≤ N ∧ N ≤ 79 := by omega
  obtain ⟨hs1, hs2⟩ := dd_small l hle
  have hstep := step_ L N l N' l' hN hl hN' hl'
  clear hN hl hN' hl' h0 h1
  have d0 : dd 36523 = 28 ∧ mm 36523 = 2 ∧ yy 36523 = 100 := by decide +kernel
  have d1 : dd 36524 = 29 ∧ mm 36524 = 2 ∧ yy 36524 = 100 := by decide +kernel
  have d2 : dd 0 = 1 ∧ mm 0 = 3 ∧ yy 0 = 0 := by decide +kernel
  rcases hstep with ⟨rfl, rfl, hlt | ⟨rfl, h4⟩⟩ | ⟨rfl, rfl, ⟨rfl, h4⟩ | ⟨rfl, h4⟩⟩
  · have hc := chk_at l hlt
    simp only [chk, Bool.and_eq_true, decide_eq_true_eq] at hc
    obtain ⟨hm1, hm2, hc⟩ := hc
    by_cases hf : yy l % 100 = 0 ∧ mm l = 2
    · rw [if_pos hf] at hc
      simp only [same_, Bool.and_eq_true, decide_eq_true_eq, beq_iff_eq] at hc
      obtain ⟨hd, e1, e2, e3⟩ := hc
      rw [e1, e2, e3]
      have hcnt := count_feb 1 (100 * ((N' : Int) - 49) + (yy l : Int)) (by omega)
      rw [show ((mm l : Nat) : Int) = 2 from by omega]
      rw [next_same _ _ _ _ hcnt (by split <;> omega) (by omega) (by omega)]
      simp
    · rw [if_neg hf] at hc
      have hcnt : spec_DayCount.f 3 (100 * ((N' : Int) - 49) + (yy l : Int)) (mm l : Int) = some (cnt l : Int) := by
        by_cases h2 : mm l = 2
        · have hcnt := count_feb 1 (100 * ((N' : Int) - 49) + (yy l : Int)) (by omega)
          rw [h2]
          refine hcnt.trans ?_
          unfold cnt
          rw [if_pos h2]
          have hy : ¬ yy l % 100 = 0 := fun e => hf ⟨e, h2⟩
          by_cases e4 : yy l % 4 = 0
          · rw [if_pos (by omega), if_pos ⟨e4, hy⟩]; rfl
          · rw [if_neg (by omega), if_neg (by omega)]; rfl
        · rw [count_other 1 _ (mm l) hm1 hm2 h2]
          unfold cnt; rw [if_neg h2]
      by_cases hd : dd l < cnt l
      · rw [if_pos hd] at hc
        simp only [same_, Bool.and_eq_true, beq_iff_eq] at hc
        obtain ⟨e1, e2, e3⟩ := hc
        rw [e1, e2, e3, next_same _ _ _ _ hcnt (by omega) (by omega) (by omega)]
        simp
      · rw [if_neg hd] at hc
        by_cases hm : mm l < 12
        · rw [if_pos hm] at hc
          simp only [Bool.and_eq_true, beq_iff_eq] at hc
          obtain ⟨e1, e2, e3⟩ := hc
          rw [e1, e2, e3, next_month _ _ _ _ hcnt (by omega) (by omega) (by omega)]
          simp
        · rw [if_neg hm] at hc
          simp only [Bool.and_eq_true, beq_iff_eq] at hc
          obtain ⟨e1, e2, e3⟩ := hc
          rw [e1, e2, e3, next_year _ _ _ _ hcnt (by omega) (by omega) (by omega) (by omega)]
          simp; omega
  · rw [d0.1, d0.2.1, d0.2.2, d1.1, d1.2.1, d1.2.2]
    show spec_DayNext.f 3 28 2 (100 * ((N' : Int) - 49) + 100) = some (29, 2, 100 * ((N' : Int) - 49) + 100)
    rw [next_same _ _ _ _ (count_feb 1 _ (by omega)) (by rw [if_pos (by omega)]; omega) (by omega) (by omega)]
    rfl
  · rw [d0.1, d0.2.1, d0.2.2, d2.1, d2.2.1, d2.2.2]
    show spec_DayNext.f 3 28 2 (100 * ((N : Int) - 49) + 100) = some (1, 3, 100 * (((N + 1 : Nat) : Int) - 49) + 0)
    rw [next_month _ _ _ _ (count_feb 1 _ (by omega)) (by rw [if_neg (by omega)]; omega) (by omega) (by omega)]
    simp; omega
  · rw [d1.1, d1.2.1, d1.2.2, d2.1, d2.2.1, d2.2.2]
    show spec_DayNext.f 3 29 2 (100 * ((N : Int) - 49) + 100) = some (1, 3, 100 * (((N + 1 : Nat) : Int) - 49) + 0)
    rw [next_month _ _ _ _ (count_feb 1 _ (by omega)) (by rw [if_pos (by omega)]; omega) (by omega) (by omega)]
    simp; omega

theorem dayIs_yes (a d m y : Int) (h : impl_Julian.f a = some (d, m, y)) : laws_dayIs.f a d m y = some true := by
  unfold laws_dayIs.f; rw [h]; simp

theorem small_eq (a0 : Int) : ∃ t : Nat, t ≤ 510000 ∧ laws_combSmall.f a0 510000 = some (t : Int) := by
  unfold laws_combSmall.f
  rw [show wrap64 ((510000 : Int) + 1) = 510001 from w64 _ (by omega) (by omega), if_neg (by omega)]
  have hb := Int.tmod_lt_of_pos a0 (show (0 : Int) < 510001 by omega)
  have hb2 : -510001 < Int.tmod a0 510001 := by
    by_cases hp : 0 ≤ a0
    · have := Int.tmod_nonneg 510001 hp; omega
    · have h2 := Int.tmod_lt_of_pos (-a0) (show (0 : Int) < 510001 by omega)
      rw [Int.neg_tmod] at h2; omega
  rw [w64 (Int.tmod a0 510001 + 510000) (by omega) (by omega), w64 _ (by omega) (by omega), Int.tmod_eq_emod_of_nonneg (by omega)]
  refine ⟨((Int.tmod a0 510001 + 510000 + 1) % 510001).toNat, by omega, ?_⟩
  congr 1; omega

theorem all_true (J L : Nat) (hL : L = J + 68569) (h0 : 2305448 ≤ J) (h1 : J ≤ 2815448) :
    ((impl_Julian.f (J : Int)).bind fun bt113 => ((spec_DayNext.f 3 bt113.1 bt113.2.1 bt113.2.2).bind fun bt116 => laws_dayIs.f ((J : Int) + 1) bt116.1 bt116.2.1 bt116.2.2)) = some true := by
  have a1 : (J : Int) = (L : Int) - 68569 := by omega
  have a2 : (J : Int) + 1 = ((L + 1 : Nat) : Int) - 68569 := by omega
  have b1 : 2374017 ≤ L := by omega
  have b2 : L ≤ 2884018 := by omega
  have b3 : L ≤ 2884019 := by omega
  have b4 : 2374017 ≤ L + 1 := by omega
  have b5 : L + 1 ≤ 2884019 := by omega
  clear h0 h1 hL
  obtain ⟨N, hN⟩ : ∃ N, N = 4 * L / 146097 := ⟨_, rfl⟩
  obtain ⟨l, hl⟩ : ∃ l, l = L - (146097 * N + 3) / 4 := ⟨_, rfl⟩
  obtain ⟨N', hN'⟩ : ∃ N', N' = 4 * (L + 1) / 146097 := ⟨_, rfl⟩
  obtain ⟨l', hl'⟩ : ∃ l', l' = L + 1 - (146097 * N' + 3) / 4 := ⟨_, rfl⟩
  obtain ⟨hle, e1⟩ := fl (J : Int) L N l a1 b1 b3 hN hl
  obtain ⟨_, e2⟩ := fl ((J : Int) + 1) (L + 1) N' l' a2 b4 b5 hN' hl'
  have e3 := date_next L N l N' l' b1 b2 hN hl hN' hl' hle
  have e4 := dayIs_yes _ _ _ _ e2
  rw [e1, Option.bind_some]
  exact Option.bind_eq_some_iff.mpr ⟨_, e3, e4⟩
theorem last_true : laws_dayIs.f 2451545 1 1 2000 = some true := by decide +kernel


theorem FnJulianNext : laws_FnJulianNext.Pure := by
  intro a0 _
  obtain ⟨t, ht, hs⟩ := small_eq a0
  refine ⟨3, ?_⟩
  unfold laws_FnJulianNext.f
  rw [hs, Option.bind_some]
  obtain ⟨J, hJ⟩ : ∃ J : Nat, J = 2305448 + t := ⟨_, rfl⟩
  have c1 : wrap64 ((2305448 : Int) + (t : Int)) = (J : Int) := by rw [w64 _ (by omega) (by omega)]; omega
  have c2 : wrap64 ((J : Int) + 1) = (J : Int) + 1 := w64 _ (by omega) (by omega)
  have h := all_true J (J + 68569) rfl (by omega) (by omega)
  clear hJ ht hs
  rw [c1, c2]
  obtain ⟨p, e1, h⟩ := Option.bind_eq_some_iff.mp h
  obtain ⟨q, e2, h⟩ := Option.bind_eq_some_iff.mp h
  refine Option.bind_eq_some_iff.mpr ⟨p, e1, Option.bind_eq_some_iff.mpr ⟨q, e2, Option.bind_eq_some_iff.mpr ⟨true, h, ?_⟩⟩⟩
  rw [if_pos rfl, last_true]
  rfl

end Go.Proofs.Ytjefbpfpobgmaaa.Pure
