/- FnTakeOut, words: what a row added to a map of columns leaves as it was. No conditions. -/
import Derived.Test.YtmcppajgfhmpaaaGreatDoorFtB
import Derived.Test.YtmcppajgfhmpaaaGreatDoorCellC
namespace Go.Proofs.YtmcppajgfhmpaaaGreatDoor.FtP
open Go.RowKit Go.Proofs.YtmcppajgfhmpaaaGreatDoorW.PrintWords Go.Proofs.YtmcppajgfhmpaaaGreatDoorW.PrintLast Go.Proofs.YtmcppajgfhmpaaaGreatDoorW.PrintMore Go.Proofs.YtmcppajgfhmpaaaGreatDoor.CellB Go.Proofs.YtmcppajgfhmpaaaGreatDoor.FtA
set_option linter.unusedVariables false
set_option linter.unusedSimpArgs false
theorem info36 : (Tryz.prog.info? 36).map (fun i => (i.zero, i.size, i.bytes)) = some (some (.slice none 0 0), 1, 24) := by kernel_rfl
theorem gtrans {W W1 W2 : World} {row : Option Nat} (h1 : W.grownBy W1 none) (h2 : W1.grownBy W2 row) : W.grownBy W2 row :=
  ⟨h2.os.trans h1.os, h2.tape.trans h1.tape, h2.output.trans h1.output, Nat.le_trans h1.size h2.size, fun k hk hne => (h2.block k (Nat.lt_of_lt_of_le hk h1.size) hne).trans (h1.block k hk (by simp))⟩
theorem galloc2 (W : World) (o o2 : Obj) : W.grownBy ((W.alloc o).alloc o2) none := gtrans (World.grownBy_alloc W o none) (World.grownBy_alloc _ o2 none)
theorem below_grow {base : Nat} {w0 W W' : World} {row : Option Nat} (HB : Below base w0 W) (hb : base ≤ W.heap.size) (hg : W.grownBy W' row) (hr : ∀ q, row = some q → base ≤ q) : Below base w0 W' :=
  HB.trans ⟨hg.os, hg.tape, hg.output, hg.size, fun k hk => hg.block k (Nat.lt_of_lt_of_le hk hb) (fun e => by have := hr k e.symm; omega)⟩
/-- A block that is no column's and not the map's own stays. -/
structure Held (W0 W : World) (B : Nat) (S : Int → Nat → Prop) (q : Nat) : Prop where
  lt : q < W0.heap.size
  size : W0.heap.size ≤ W.heap.size
  same : W.heap[q]? = W0.heap[q]?
  map : q ≠ B
  off : ∀ c, ¬ S c q
section
variable {W0 W W' : World} {B base n q : Nat} {D : DataW Value} {g : Int → Value} {l : Int → List Int} {h : Int → Bool} {S : Int → Nat → Prop}
theorem Held.cell (k : Held W0 W B S q) (j : Nat) : W.cell? ⟨q, j, none⟩ = W0.cell? ⟨q, j, none⟩ := World.cell?_of_block k.same
theorem Held.below (k : Held W0 W B S q) (hb : Below W.heap.size W W') : Held W0 W' B S q :=
  ⟨k.lt, Nat.le_trans k.size hb.size, (hb.block q (Nat.lt_of_lt_of_le k.lt k.size)).trans k.same, k.map, k.off⟩
theorem Held.grown (k : Held W0 W B S q) {row : Option Nat} (hg : W.grownBy W' row) (hr : some q ≠ row) : Held W0 W' B S q :=
  ⟨k.lt, Nat.le_trans k.size hg.size, (hg.block q (Nat.lt_of_lt_of_le k.lt k.size) hr).trans k.same, k.map, k.off⟩
/-- A block newer than the columns' ones. -/
theorem Held.start (k : Cols W B base n D g l h S) (hq : W.heap.size ≤ q) (hW : W.heap.size ≤ W'.heap.size) (hlt : q < W'.heap.size) : Held W' W' B S q :=
  ⟨hlt, Nat.le_refl _, rfl, fun e => by have := k.lt; omega, fun c hc => by have := (k.sets c q hc).2.1; omega⟩
/-- A block older than the columns'. -/
theorem Held.old (k : Cols W B base n D g l h S) (hq : q < base) (hlt : base ≤ W.heap.size) : Held W W B S q :=
  ⟨Nat.lt_of_lt_of_le hq hlt, Nat.le_refl _, rfl, fun e => by have := k.new; omega, fun c hc => by have := (k.sets c q hc).1; omega⟩
theorem map_ne (k : Cols W B base n D g l h S) (c : Int) : some B ≠ (g c).ownBlock := fun e => (k.sets c B ((k.rows c).1 B e.symm)).2.2 rfl
theorem Held.own_ne (hH : Held W0 W B S q) (k : Cols W B base n D g l h S) (c : Int) : some q ≠ (g c).ownBlock := fun e => hH.off c ((k.rows c).1 q e.symm)
theorem look_grown (k : Cols W B base n D g l h S) {row : Option Nat} (hg : W.grownBy W' row) (hB : some B ≠ row) (c : Int) (hc : -1000 ≤ c ∧ c ≤ 1000) : (Instr.lookup 39 (.map (some B)) (.int .i64 c) false).run Tryz.prog W' = .ok (g c) W' := by
  obtain ⟨v, ps, hrun, hv⟩ := (k.own.kept hg hB).lookup law Tryz.underlying39 (zeroE W') (zd := .held (.slice none 0 0)) (zp := []) rfl (hkey c hc)
  rw [k.says.1 c] at hv
  have : v = g c := by have h2 := hv; simp [RV] at h2; exact h2.1
  rw [← this]
  exact hrun
/-- The new element of a column's list. -/
theorem elem_new (W : World) (base : Nat) (hb : base ≤ W.heap.size) (c r : Int) : dP.M (W.alloc (.cells #[.int .i64 c, .int .i64 r] 3)) base (fun b => b = W.heap.size) [c, r] [.slice (some ⟨W.heap.size, 0, none⟩) 2 2] := by
  refine ⟨_, rfl, ?_⟩
  have h2 := World.ownsRow_lit (base := base) (e := 3) (size := 1) W #[.int .i64 c, .int .i64 r] 2 hb (by decide) rfl
  refine Kd.R_of_own (h1 := fun _ => rfl) (xs := [c, r]) (enc := Value.int .i64) (by simpa [encs] using h2) ?_
  intro k hk
  have : W.heap.size = k := by simpa [Value.ownBlock] using hk
  exact this.symm
/-- A row added to a column: the store, and what it leaves. -/
theorem cols_step (k : Cols W B base n D g l h S) (hn : n < 100000000) (c : Int) (hc : -1000 ≤ c ∧ c ≤ 1000) (r : Int) {W1 W3 : World} {v1 : Value} (hg1 : W.grownBy W1 none)
    (hR : dP.R 36 W3 base (fun b => S c b ∨ W.heap.size ≤ b) v1 (prs c (l c) ++ [[c, r]])) (hg3 : W1.grownBy W3 (g c).ownBlock) :
    ∃ W4 D', (Instr.mapUpdate 39 (.map (some B)) (.int .i64 c) v1).run Tryz.prog W3 = .ok () W4 ∧ Cols W4 B base (n + 1) D' (upd g c v1) (upd l c (l c ++ [r])) (upd h c true) (upd S c (fun b => (S c b ∨ W.heap.size ≤ b) ∧ b < W3.heap.size)) ∧
      (∀ w0, base ≤ W.heap.size → Below base w0 W → Below base w0 W4) ∧ W.heap.size ≤ W4.heap.size ∧ ∀ W0 q, Held W0 W B S q → Held W0 W4 B (upd S c (fun b => (S c b ∨ W.heap.size ≤ b) ∧ b < W3.heap.size)) q := by
  have hg : W.grownBy W3 (g c).ownBlock := gtrans hg1 hg3
  obtain ⟨W4, hrun, hown, hg4⟩ := (k.own.kept hg (map_ne k c)).update law Tryz.underlying39 (by simp only [maxLen]; omega) (hkey c hc) (val := v1) rfl
  rw [← prs_snoc] at hR
  refine ⟨W4, _, hrun, k.stored c hc hR hg hown hg4, fun w0 hb HB => ?_, Nat.le_trans hg.size hg4.size, fun W0 q H => ?_⟩
  · refine below_grow (below_grow HB hb hg (fun q e => (k.sets c q ((k.rows c).1 q e)).1)) (Nat.le_trans hb hg.size) hg4 (fun q e => ?_)
    cases e
    exact k.new
  · have H2 := (H.grown hg (H.own_ne k c)).grown hg4 (fun e => H.map (by injection e))
    refine ⟨H2.lt, H2.size, H2.same, H2.map, fun c' => ?_⟩
    by_cases e : c' = c
    · subst e
      rw [upd_self]
      rintro ⟨h1 | h1, _⟩
      · exact H.off _ h1
      · have := H.lt; have := H.size; omega
    · rw [upd_ne _ _ e]
      exact H.off c'
end
theorem str_at {w : World} {q n : Nat} {xs : List ByteArray} (h : Kd.string.C w (some ⟨q, 0, none⟩) n xs) (i : Int) (h0 : 0 ≤ i) (h1 : i < n) : w.cell? ⟨q, i.toNat, none⟩ = some (.string (xs.getD i.toNat ⟨#[]⟩)) := by
  obtain ⟨ad, c, e, _, hK, hc⟩ := Kd.C_get h ⟨#[]⟩ i h0 h1
  have hK' : c = [.string (xs.getD i.toNat ⟨#[]⟩)] := hK
  subst hK'
  cases e
  have hq := hc 0 _ rfl
  have hs : Kd.string.sz = 1 := rfl
  rw [hs, Nat.mul_one, Nat.add_zero] at hq
  rw [← hq]
  congr 1
  unfold Addr.add
  by_cases h : i.toNat = 0
  · simp [h]
  · simp [h]
theorem four_at {w : World} {q : Nat} {x y z u : Int} (h : (Kd.int .i64).C w (some ⟨q, 0, none⟩) 4 [x, y, z, u]) : w.cell? ⟨q, 0, none⟩ = some (.int .i64 x) ∧ w.cell? ⟨q, 1, none⟩ = some (.int .i64 y) ∧ w.cell? ⟨q, 2, none⟩ = some (.int .i64 z) ∧ w.cell? ⟨q, 3, none⟩ = some (.int .i64 u) := by
  have hr := Kd.reads_of_C (enc := Value.int .i64) (d := (0 : Int)) (h1 := fun _ => rfl) h
  obtain ⟨b, e, hc⟩ := hr.2.2 (by decide)
  cases e
  exact ⟨hc 0 (by decide), hc 1 (by decide), hc 2 (by decide), hc 3 (by decide)⟩
end Go.Proofs.YtmcppajgfhmpaaaGreatDoor.FtP
