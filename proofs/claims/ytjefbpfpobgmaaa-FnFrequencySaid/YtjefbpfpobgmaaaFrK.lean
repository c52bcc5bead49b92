/- FnFrequency, words: numbers of each type as cells, a column (rows of one number each), what a row of rows reads. No conditions. -/
import Derived.Test.YtjefbpfpobgmaaaFrB
namespace Go.Proofs.Ytjefbpfpobgmaaa.FrK
open Go.RowKit Go.Proofs.YtjefbpfpobgmaaaW.PrintWords Go.Proofs.YtjefbpfpobgmaaaW.PrintLast Go.Proofs.YtjefbpfpobgmaaaW.PrintMore Go.Proofs.Ytjefbpfpobgmaaa.FrA Go.Proofs.Ytjefbpfpobgmaaa.FrB
set_option linter.unusedVariables false
set_option linter.unusedSimpArgs false
/-- Elements whose cells are told by a function alone. -/
def kc {α : Type} (sz : Nat) (enc : α → List Value) (hl : ∀ x, (enc x).length = sz) (h1 : ∀ x, ∀ u ∈ enc x, u.oneCell' = true) : Kd α where
  sz := sz
  E := []
  K := fun _ x cs => cs = enc x
  M := fun _ _ _ x cs => cs = enc x
  K_len := fun h => by rw [h]; exact hl _
  K_one := fun h u hu => by rw [h] at hu; exact h1 _ u hu
  K_below := fun _ h => h
  K_of_M := fun h => h
  M_mono := fun _ h => h
  M_bound := fun h => h
  M_move := fun _ h => h
  M_lower := fun _ h => h
/-- Some known cells ahead of one of another kind. -/
def wrap {α : Type} (pre : List Value) (hp : ∀ u ∈ pre, u.oneCell' = true) (d : Kd α) : Kd α where
  sz := pre.length + d.sz
  E := d.E
  K := fun w x cs => ∃ c, cs = pre ++ c ∧ d.K w x c
  M := fun w base ok x cs => ∃ c, cs = pre ++ c ∧ d.M w base ok x c
  K_len := by rintro w x cs ⟨c, rfl, h⟩; rw [List.length_append, d.K_len h]
  K_one := by
    rintro w x cs ⟨c, rfl, h⟩ u hu
    rcases List.mem_append.1 hu with hu | hu
    · exact hp u hu
    · exact d.K_one h u hu
  K_below := by rintro w w1 x cs hb ⟨c, rfl, h⟩; exact ⟨c, rfl, d.K_below hb h⟩
  K_of_M := by rintro w base ok x cs ⟨c, rfl, h⟩; exact ⟨c, rfl, d.K_of_M h⟩
  M_mono := by rintro w base ok ok' x cs hok ⟨c, rfl, h⟩; exact ⟨c, rfl, d.M_mono hok h⟩
  M_bound := by rintro w base ok x cs ⟨c, rfl, h⟩; exact ⟨c, rfl, d.M_bound h⟩
  M_move := by rintro w w1 base ok x cs hm ⟨c, rfl, h⟩; exact ⟨c, rfl, d.M_move hm h⟩
  M_lower := by rintro w base base' ok x cs hb ⟨c, rfl, h⟩; exact ⟨c, rfl, d.M_lower hb h⟩
abbrev eS (n : Int) : List Value := [.int .i64 1, .int .i64 n, .int .i64 1, .string ⟨#[]⟩, .slice none 0 0]
abbrev eI (n : Int) : List Value := [.int .i64 1, .float .f64 (fl n), .string ⟨#[]⟩, .slice none 0 0]
abbrev eA (n : Int) : List Value := [.string ⟨#[]⟩, .float .f64 (fl n), .string ⟨#[]⟩, .slice none 0 0, .slice none 0 0, .bool false, .string ⟨#[]⟩, .int .u8 1, .pointer none, .pointer none]
abbrev eT (p : Int × Int) : List Value := [.int .i64 p.1, .float .f64 (fl p.2)]
def kS : Kd Int := kc 5 eS (fun _ => rfl) (fun x u hu => by simp at hu; rcases hu with h | h | h | h | h <;> rw [h] <;> rfl)
def kI : Kd Int := kc 4 eI (fun _ => rfl) (fun x u hu => by simp at hu; rcases hu with h | h | h | h <;> rw [h] <;> rfl)
def kA : Kd Int := kc 10 eA (fun _ => rfl) (fun x u hu => by simp only [eA, List.mem_cons, List.not_mem_nil, or_false] at hu; rcases hu with h | h | h | h | h | h | h | h | h | h <;> (rw [h]; rfl))
def kT : Kd (Int × Int) := kc 2 eT (fun _ => rfl) (fun x u hu => by simp at hu; rcases hu with h | h <;> rw [h] <;> rfl)
/-- A column: rows of one element each. -/
abbrev kCol (e : Nat) (d : Kd Int) : Kd (List Int) := Kd.slice e d
def rws (xs : List Int) : List (List Int) := xs.map fun x => [x]
theorem rws_len (xs : List Int) : (rws xs).length = xs.length := by simp [rws]
theorem rws_snoc (xs : List Int) (x : Int) : rws (xs ++ [x]) = rws xs ++ [[x]] := by simp [rws]
theorem rws_get (xs : List Int) (i : Int) (h0 : 0 ≤ i) (h1 : i < (xs.length : Int)) : (rws xs).getD i.toNat [] = [xs.getD i.toNat 0] := by
  have hl : i.toNat < xs.length := by omega
  simp [rws, List.getD_eq_getElem?_getD, hl]
/-- A whole column as an argument: cells ahead, then its rows. -/
abbrev pI : List Value := [.int .i64 5, .float .f64 0, .string ⟨#[]⟩]
def kVI (f e : Nat) : Kd (List Int) := wrap pI (fun u hu => by simp at hu; rcases hu with h | h | h <;> rw [h] <;> rfl) (Kd.iso (Kd.slice f (kCol e kI)) rws)
abbrev pS : List Value := [.int .i64 5, .int .i64 0, .int .i64 0, .string ⟨#[]⟩]
def kVS (f e : Nat) : Kd (List Int) := wrap pS (fun u hu => by simp at hu; rcases hu with h | h | h <;> rw [h] <;> rfl) (Kd.iso (Kd.slice f (kCol e kS)) rws)
section
variable {w : World} {A : Option Addr} {n : Nat}
theorem add0 (a : Addr) : a.add 0 = a := by simp [Addr.add]
/-- The row at a place of a column. -/
theorem row_at {d : Kd Int} {e : Nat} {xs : List Int} (h : (kCol e d).C w A n (rws xs)) (i : Int) (h0 : 0 ≤ i) (h1 : i < (n : Int)) :
    ∃ ad A1 c1, A = some ad ∧ w.cell? (ad.add i.toNat) = some (.slice A1 1 c1) ∧ 1 ≤ c1 ∧ d.C w A1 1 [xs.getD i.toNat 0] := by
  have hn : xs.length = n := by have := h.1; rwa [rws_len] at this
  obtain ⟨ad, c, e1, _, ⟨A1, c1, rfl, hl, hr⟩, hc⟩ := Kd.C_get h [] i h0 h1
  rw [rws_get xs i h0 (by omega)] at hl hr hc
  refine ⟨ad, A1, c1, e1, ?_, hl, hr⟩
  have := hc 0 _ rfl
  rwa [show i.toNat * (Kd.slice e d).sz + 0 = i.toNat by simp [Kd.slice]] at this
theorem one_at {α : Type} {sz : Nat} {enc : α → List Value} {hl h1} {x : α} (h : (kc sz enc hl h1).C w A 1 [x]) : ∃ ad, A = some ad ∧ ∀ i u, (enc x)[i]? = some u → w.cell? (ad.add i) = some u := by
  obtain ⟨ad, c, e1, _, hK, hc⟩ := Kd.C_get h x 0 (by omega) (by omega)
  refine ⟨ad, e1, fun i u hi => ?_⟩
  have hK' : c = enc x := hK
  subst hK'
  have := hc i u hi
  simpa using this
end
end Go.Proofs.Ytjefbpfpobgmaaa.FrK
