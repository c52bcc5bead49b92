/- FnTakeOut, words: a map of columns (each a list of cells [column, row]) that the call owns: each column's rows lie in blocks of its own. No conditions. -/
import Derived.Test.YtmcppajgfhmpaaaGreatDoorFull
import Derived.Test.YtmcppajgfhmpaaaGreatDoorWMore
import Derived.Test.YtmcppajgfhmpaaaGreatDoorProg
import Derived.Maps.OwnOps
import Derived.Maps.OwnSet
import Derived.Maps.RangeWalk
namespace Go.Proofs.YtmcppajgfhmpaaaGreatDoor.FtA
open Go.RowKit Go.Proofs.YtmcppajgfhmpaaaGreatDoorW.PrintWords Go.Proofs.YtmcppajgfhmpaaaGreatDoorW.PrintLast Go.Proofs.YtmcppajgfhmpaaaGreatDoorW.PrintMore
set_option linter.unusedVariables false
set_option linter.unusedSimpArgs false
/-- An element of the map reads as itself. -/
abbrev RV : Value → Option (DataW Value × List MemPlace) := fun v => some (.held v, [])
theorem law : Go.Maps.Keyed Tryz.prog 3 := Go.Maps.int_keyed Tryz.underlying3
theorem zeroE (w : World) : (zeroValue 64).run Tryz.prog w = .ok (.slice none 0 0) w := by kernel_rfl
theorem wfk (c : Int) (h : -1000 ≤ c ∧ c ≤ 1000) : (Lit.int .i64 c).wf = true := by
  have h1 : wrap64 c = c := by unfold wrap64; omega
  rw [← h1]
  exact wrap64_wf _
theorem hkey (c : Int) (h : -1000 ≤ c ∧ c ≤ 1000) : keyOf Tryz.prog 3 (.int .i64 c) = some (.int .i64 c) := Go.Maps.keyOf_int_mk Tryz.underlying3 (wfk c h)
abbrev dP : Kd (List Int) := Full.exact 3 (Kd.int .i64)
def prs (c : Int) (rows : List Int) : List (List Int) := rows.map fun r => [c, r]
theorem prs_snoc (c : Int) (rows : List Int) (r : Int) : prs c (rows ++ [r]) = prs c rows ++ [[c, r]] := by simp [prs]
theorem prs_len (c : Int) (rows : List Int) : (prs c rows).length = rows.length := by simp [prs]
def upd {α : Type} (f : Int → α) (c : Int) (x : α) : Int → α := fun k => if k = c then x else f k
theorem upd_self {α : Type} (f : Int → α) (c : Int) (x : α) : upd f c x c = x := by simp [upd]
theorem upd_ne {α : Type} (f : Int → α) {c k : Int} (x : α) (h : k ≠ c) : upd f c x k = f k := by simp [upd, h]
/-- What a map's datum says of each column. -/
def Says (D : DataW Value) (g : Int → Value) (h : Int → Bool) : Prop := (∀ c, D.atKey (.int .i64 c) (.held (.slice none 0 0)) = .held (g c)) ∧ ∀ c, Maps.has D (.int .i64 c) = h c
structure Cols (W : World) (B base n : Nat) (D : DataW Value) (g : Int → Value) (l : Int → List Int) (h : Int → Bool) (S : Int → Nat → Prop) : Prop where
  own : W.ownsMap Tryz.prog 3 RV B n D
  says : Says D g h
  new : base ≤ B
  sets : ∀ c b, S c b → base ≤ b ∧ b < W.heap.size ∧ b ≠ B
  disj : ∀ c c' b, c ≠ c' → S c b → ¬ S c' b
  rows : ∀ c, dP.R 36 W base (S c) (g c) (prs c (l c))
section
variable {W W' : World} {B base n : Nat} {D : DataW Value} {g : Int → Value} {l : Int → List Int} {h : Int → Bool} {S : Int → Nat → Prop}
theorem Cols.grown (k : Cols W B base n D g l h S) {row : Option Nat} (hg : W.grownBy W' row) (hB : some B ≠ row) (hS : ∀ c b, S c b → some b ≠ row) : Cols W' B base n D g l h S where
  own := k.own.kept hg hB
  says := k.says
  new := k.new
  sets := fun c b hb => ⟨(k.sets c b hb).1, Nat.lt_of_lt_of_le (k.sets c b hb).2.1 hg.size, (k.sets c b hb).2.2⟩
  disj := k.disj
  rows := fun c => Kd.R_grown (k.rows c) hg (fun b hb => hS c b hb)
theorem Cols.below (k : Cols W B base n D g l h S) (hb : Below W.heap.size W W') : Cols W' B base n D g l h S := k.grown (grown_of_below hb none) (by simp) (fun _ _ _ => by simp)
theorem Cols.lt (k : Cols W B base n D g l h S) : B < W.heap.size := k.own.lt
/-- The empty map, newly made. -/
theorem Cols.start (W : World) (hb : base ≤ W.heap.size) : Cols (W.alloc (.map #[] 0)) W.heap.size base 0 (.map []) (fun _ => .slice none 0 0) (fun _ => []) (fun _ => false) (fun _ _ => False) where
  own := World.ownsMap_made _ _ _ _
  says := ⟨fun c => rfl, fun c => rfl⟩
  new := hb
  sets := fun c b hb => hb.elim
  disj := fun c c' b _ hb => hb.elim
  rows := fun c => Kd.R_nil _ _ _ _ _
/-- A look-up at a column. -/
theorem Cols.look (k : Cols W B base n D g l h S) (c : Int) (hc : -1000 ≤ c ∧ c ≤ 1000) : (Instr.lookup 39 (.map (some B)) (.int .i64 c) false).run Tryz.prog W = .ok (g c) W := by
  obtain ⟨v, ps, hrun, hv⟩ := k.own.lookup law Tryz.underlying39 (zeroE W) (zd := .held (.slice none 0 0)) (zp := []) rfl (hkey c hc)
  rw [k.says.1 c] at hv
  have : v = g c := by have h2 := hv; simp [RV] at h2; exact h2.1
  rw [← this]
  exact hrun
theorem int_lit_ne {c c' : Int} (hne : c' ≠ c) : (Lit.int .i64 c') ≠ (Lit.int .i64 c) := fun e => hne (by injection e)
/-- A column's list has grown by a new row value, and the map's entry has been stored. -/
theorem Cols.stored (k : Cols W B base n D g l h S) (c : Int) (hc : -1000 ≤ c ∧ c ≤ 1000) {W1 W2 : World} {v1 : Value} {rows : List Int} (hR : dP.R 36 W1 base (fun b => (S c b ∨ W.heap.size ≤ b)) v1 (prs c rows))
    (hg1 : W.grownBy W1 (g c).ownBlock) (hown : W2.ownsMap Tryz.prog 3 RV B (n + 1) (D.put (.int .i64 c) (.held v1))) (hg2 : W1.grownBy W2 (some B)) :
    Cols W2 B base (n + 1) (D.put (.int .i64 c) (.held v1)) (upd g c v1) (upd l c rows) (upd h c true) (upd S c (fun b => (S c b ∨ W.heap.size ≤ b) ∧ b < W1.heap.size)) := by
  have hm : Maps.IsMap D := k.own.isMap
  have hkl : WideAt.IsKeyLit (.int .i64 c) := by simp [WideAt.IsKeyLit]
  have hBW : B < W.heap.size := k.lt
  refine ⟨hown, ⟨fun c' => ?_, fun c' => ?_⟩, k.new, fun c' b hb => ?_, fun c' c'' b hne hb => ?_, fun c' => ?_⟩
  · by_cases e : c' = c
    · subst e; rw [upd_self]; exact Maps.atKey_put_same hm hkl _ _
    · rw [upd_ne _ _ e, Maps.atKey_put_other (int_lit_ne e)]; exact k.says.1 c'
  · by_cases e : c' = c
    · subst e; rw [upd_self]; exact Maps.has_put_same hm hkl _
    · rw [upd_ne _ _ e, Maps.has_put_other (int_lit_ne e)]; exact k.says.2 c'
  · by_cases e : c' = c
    · subst e
      rw [upd_self] at hb
      rcases hb.1 with h1 | h1
      · exact ⟨(k.sets _ b h1).1, Nat.lt_of_lt_of_le hb.2 hg2.size, (k.sets _ b h1).2.2⟩
      · exact ⟨by have := k.new; omega, Nat.lt_of_lt_of_le hb.2 hg2.size, by omega⟩
    · rw [upd_ne _ _ e] at hb
      exact ⟨(k.sets _ b hb).1, Nat.lt_of_lt_of_le (k.sets _ b hb).2.1 (Nat.le_trans hg1.size hg2.size), (k.sets _ b hb).2.2⟩
  · by_cases e : c' = c
    · subst e
      rw [upd_self] at hb
      rw [upd_ne _ _ (Ne.symm hne)]
      rcases hb.1 with h1 | h1
      · exact k.disj _ _ b hne h1
      · exact fun h2 => by have := (k.sets _ b h2).2.1; omega
    · rw [upd_ne _ _ e] at hb
      by_cases e2 : c'' = c
      · subst e2
        rw [upd_self]
        rintro ⟨h1 | h1, _⟩
        · exact k.disj _ _ b hne hb h1
        · have := (k.sets _ b hb).2.1; omega
      · rw [upd_ne _ _ e2]; exact k.disj _ _ b hne hb
  · by_cases e : c' = c
    · subst e
      rw [upd_self, upd_self, upd_self]
      have h1 := Kd.R_mono (ok' := fun b => (S c' b ∨ W.heap.size ≤ b) ∧ b < W1.heap.size) (Kd.R_bound hR) (fun b hb => ⟨hb.1, hb.2.2.1⟩)
      exact Kd.R_grown h1 hg2 (fun b hb he => by
        have e3 : b = B := by injection he
        subst e3
        rcases hb.1 with h2 | h2
        · exact (k.sets _ _ h2).2.2 rfl
        · omega)
    · rw [upd_ne _ _ e, upd_ne _ _ e, upd_ne _ _ e]
      have h1 := Kd.R_grown (k.rows c') hg1 (fun b hb he => k.disj c' c b e hb ((k.rows c).1 b he.symm))
      exact Kd.R_grown h1 hg2 (fun b hb he => by
        have e3 : b = B := by injection he
        exact (k.sets _ _ hb).2.2 e3)
end
end Go.Proofs.YtmcppajgfhmpaaaGreatDoor.FtA
