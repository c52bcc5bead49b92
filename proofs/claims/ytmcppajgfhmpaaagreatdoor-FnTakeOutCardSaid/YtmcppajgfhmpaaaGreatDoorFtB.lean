/- FnTakeOut, plain facts: the columns of areas, filled cell by cell. No conditions. -/
import Derived.Test.YtmcppajgfhmpaaaGreatDoorFtA
namespace Go.Proofs.YtmcppajgfhmpaaaGreatDoor.FtB
open Go.Proofs.YtmcppajgfhmpaaaGreatDoor.FtA
set_option linter.unusedVariables false
set_option linter.unusedSimpArgs false
/-- An area: its first column and row, its last column and row; within the limits. -/
structure Ar where
  c0 : Int
  r0 : Int
  c1 : Int
  r1 : Int
structure Ar.Ok (a : Ar) : Prop where
  h0 : 1 ≤ a.c0
  h1 : a.c0 ≤ a.c1
  h2 : a.c1 ≤ 30
  h3 : 1 ≤ a.r0
  h4 : a.r0 ≤ a.r1
  h5 : a.r1 ≤ 60
/-- The rows from the first one on, below r. -/
def rowsTo (a : Ar) (r : Int) : List Int := (List.range (r - a.r0).toNat).map (fun i : Nat => a.r0 + (i : Int))
theorem rowsTo_start (a : Ar) : rowsTo a a.r0 = [] := by simp [rowsTo]
theorem rowsTo_step (a : Ar) (r : Int) (h : a.r0 ≤ r) : rowsTo a (r + 1) = rowsTo a r ++ [r] := by
  unfold rowsTo
  rw [show (r + 1 - a.r0).toNat = (r - a.r0).toNat + 1 by omega, List.range_succ, List.map_append]
  congr 1
  simp
  omega
/-- An area's cells behind the columns' own. -/
def flatA (l : Int → List Int) (a : Ar) : Int → List Int := fun c => if a.c0 ≤ c ∧ c ≤ a.c1 then l c ++ rowsTo a (a.r1 + 1) else l c
def part1 (l : Int → List Int) (a : Ar) (c : Int) : Int → List Int := fun k => if a.c0 ≤ k ∧ k < c then l k ++ rowsTo a (a.r1 + 1) else l k
def part2 (l : Int → List Int) (a : Ar) (c r : Int) : Int → List Int := upd (part1 l a c) c (l c ++ rowsTo a r)
theorem part1_start (l : Int → List Int) (a : Ar) : part1 l a a.c0 = l := by
  funext k; unfold part1; rw [if_neg (by omega)]
theorem part1_self (l : Int → List Int) (a : Ar) (c : Int) : part1 l a c c = l c := by unfold part1; rw [if_neg (by omega)]
theorem part2_start (l : Int → List Int) (a : Ar) (c : Int) : part2 l a c a.r0 = part1 l a c := by
  funext k
  unfold part2
  by_cases h : k = c
  · subst h; rw [upd_self, rowsTo_start, List.append_nil, part1_self]
  · rw [upd_ne _ _ h]
theorem part2_self (l : Int → List Int) (a : Ar) (c r : Int) : part2 l a c r c = l c ++ rowsTo a r := by unfold part2; rw [upd_self]
theorem part2_step (l : Int → List Int) (a : Ar) (c r : Int) (h : a.r0 ≤ r) : upd (part2 l a c r) c (part2 l a c r c ++ [r]) = part2 l a c (r + 1) := by
  funext k
  by_cases hk : k = c
  · subst hk; rw [upd_self, part2_self, part2_self, rowsTo_step a r h, List.append_assoc]
  · rw [upd_ne _ _ hk]; unfold part2; rw [upd_ne _ _ hk, upd_ne _ _ hk]
theorem part2_end (l : Int → List Int) (a : Ar) (c : Int) (h : a.c0 ≤ c) : part2 l a c (a.r1 + 1) = part1 l a (c + 1) := by
  funext k
  by_cases hk : k = c
  · subst hk; rw [part2_self]; unfold part1; rw [if_pos (by omega)]
  · unfold part2; rw [upd_ne _ _ hk]; unfold part1
    by_cases h2 : a.c0 ≤ k ∧ k < c
    · rw [if_pos h2, if_pos (by omega)]
    · rw [if_neg h2, if_neg (by omega)]
theorem part1_end (l : Int → List Int) (a : Ar) : part1 l a (a.c1 + 1) = flatA l a := by
  funext k; unfold part1 flatA
  by_cases h2 : a.c0 ≤ k ∧ k ≤ a.c1
  · rw [if_pos h2, if_pos (by omega)]
  · rw [if_neg h2, if_neg (by omega)]
/-- All areas' cells, one area behind the other. -/
def flats (ars : List Ar) : Int → List Int := ars.foldl flatA (fun _ => [])
theorem flats_snoc (ars : List Ar) (a : Ar) : flats (ars ++ [a]) = flatA (flats ars) a := by simp [flats]
theorem mem_rowsTo (a : Ar) (r k : Int) : k ∈ rowsTo a r ↔ a.r0 ≤ k ∧ k < r := by
  unfold rowsTo
  rw [List.mem_map]
  constructor
  · rintro ⟨i, hi, rfl⟩; rw [List.mem_range] at hi; omega
  · rintro ⟨h1, h2⟩; exact ⟨(k - a.r0).toNat, List.mem_range.2 (by omega), by omega⟩
theorem mem_flats (ars : List Ar) (c r : Int) : r ∈ flats ars c ↔ ∃ a ∈ ars, a.c0 ≤ c ∧ c ≤ a.c1 ∧ a.r0 ≤ r ∧ r ≤ a.r1 := by
  have key : ∀ (ars : List Ar) (l : Int → List Int), r ∈ (ars.foldl flatA l) c ↔ r ∈ l c ∨ ∃ a ∈ ars, a.c0 ≤ c ∧ c ≤ a.c1 ∧ a.r0 ≤ r ∧ r ≤ a.r1 := by
    intro ars
    induction ars with
    | nil => intro l; simp
    | cons a ars ih =>
      intro l
      rw [List.foldl_cons, ih]
      unfold flatA
      by_cases h : a.c0 ≤ c ∧ c ≤ a.c1
      · rw [if_pos h, List.mem_append, mem_rowsTo]
        constructor
        · rintro ((h1 | h1) | ⟨b, hb, h1⟩)
          · exact .inl h1
          · exact .inr ⟨a, List.mem_cons_self, h.1, h.2, h1.1, by omega⟩
          · exact .inr ⟨b, List.mem_cons_of_mem _ hb, h1⟩
        · rintro (h1 | ⟨b, hb, h1⟩)
          · exact .inl (.inl h1)
          · rcases List.mem_cons.1 hb with rfl | hb
            · exact .inl (.inr ⟨h1.2.2.1, by omega⟩)
            · exact .inr ⟨b, hb, h1⟩
      · rw [if_neg h]
        constructor
        · rintro (h1 | ⟨b, hb, h1⟩)
          · exact .inl h1
          · exact .inr ⟨b, List.mem_cons_of_mem _ hb, h1⟩
        · rintro (h1 | ⟨b, hb, h1⟩)
          · exact .inl h1
          · rcases List.mem_cons.1 hb with rfl | hb
            · exact absurd ⟨h1.1, h1.2.1⟩ h
            · exact .inr ⟨b, hb, h1⟩
  have h1 := key ars (fun _ => [])
  unfold flats
  simpa using h1
end Go.Proofs.YtmcppajgfhmpaaaGreatDoor.FtB
