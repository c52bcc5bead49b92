/- FnTakeOut, walks: a column's cells are sorted by their rows (sort.Slice, as flatSqref calls it). Conditions: the columns' numbers. -/
import Derived.Test.YtmcppajgfhmpaaaGreatDoorFtP
import Derived.Test.YtmcppajgfhmpaaaGreatDoorShSort
namespace Go.Proofs.YtmcppajgfhmpaaaGreatDoor.FtS
open Go.RowKit Go.Proofs.YtmcppajgfhmpaaaGreatDoorW.PrintWords Go.Proofs.YtmcppajgfhmpaaaGreatDoorW.PrintLast Go.Proofs.YtmcppajgfhmpaaaGreatDoorW.PrintMore Go.Proofs.YtmcppajgfhmpaaaGreatDoor.FtA Go.Proofs.YtmcppajgfhmpaaaGreatDoor.FtB Go.Proofs.YtmcppajgfhmpaaaGreatDoor.FtP
open Go.Shelf Go.Lib Go.Sort
set_option linter.unusedVariables false
set_option linter.unusedSimpArgs false
set_option maxHeartbeats 4000000 in
set_option maxRecDepth 100000 in
theorem less (B cb q g n cap : Nat) (c : Int) (W : World) (i j gi gj : Nat) (ri rj : Int) (hi : i < n) (hj : j < n) (hn : n < 1000000000)
    (h1 : W.drew.cell? ⟨cb, 0, none⟩ = some (.map (some B))) (h2 : W.drew.cell? ⟨q, 0, none⟩ = some (.int .i64 c)) (h3 : (Instr.lookup 39 (.map (some B)) (.int .i64 c) false).run Tryz.prog W.drew = .ok (.slice (some ⟨g, 0, none⟩) n cap) W.drew)
    (h4 : W.drew.cell? ⟨g, i, none⟩ = some (.slice (some ⟨gi, 0, none⟩) 2 2)) (h5 : W.drew.cell? ⟨g, j, none⟩ = some (.slice (some ⟨gj, 0, none⟩) 2 2)) (h6 : W.drew.cell? ⟨gi, 1, none⟩ = some (.int .i64 ri)) (h7 : W.drew.cell? ⟨gj, 1, none⟩ = some (.int .i64 rj)) :
    Calls Tryz.prog 36 #[.int .i64 i, .int .i64 j, .pointer (some ⟨cb, 0, none⟩), .pointer (some ⟨q, 0, none⟩)] W fun e w' => e = .returned (.bool (decide (ri < rj))) ∧ ∃ q, w' = W.drewN q := by
  have pi : (0 : Int) ≤ i := by omega
  have pj : (0 : Int) ≤ j := by omega
  have qi : (i : Int) < n := by omega
  have qj : (j : Int) < n := by omega
  have pi' := eq_true pi
  have pj' := eq_true pj
  have qi' := eq_true qi
  have qj' := eq_true qj
  have ei : ((i : Int)).toNat = i := by omega
  have ej : ((j : Int)).toNat = j := by omega
  go_enter Tryz.func36, Tryz.ntmps36
  go_upto_region 1 with fail
  refine start_ (n := 18) (S := fun w' => w'.cell? ⟨cb, 0, none⟩ = some (.map (some B)) ∧ w'.cell? ⟨q, 0, none⟩ = some (.int .i64 c) ∧ (Instr.lookup 39 (.map (some B)) (.int .i64 c) false).run Tryz.prog w' = .ok (.slice (some ⟨g, 0, none⟩) n cap) w' ∧ w'.cell? ⟨g, i, none⟩ = some (.slice (some ⟨gi, 0, none⟩) 2 2) ∧ w'.cell? ⟨g, j, none⟩ = some (.slice (some ⟨gj, 0, none⟩) 2 2) ∧ w'.cell? ⟨gi, 1, none⟩ = some (.int .i64 ri) ∧ w'.cell? ⟨gj, 1, none⟩ = some (.int .i64 rj)) (ds := []) #[false, false, false, false, false, false, false, false, false, false, false, false, false, false, false, false, false, false] (by kernel_rfl) rfl rfl ⟨h1, h2, h3, h4, h5, h6, h7⟩ (fun hHeld => ?_)
  refine pure_ (i := 3) (N := some 10) (v := ?_) (a' := ?_) #[false, false, false, true, false, false, false, false, false, false, false, false, false, false, false, false, false, false] rfl rfl (by kernel_rfl) (fun _ _ _ h => h) (Or.inl ⟨by rfl, ?_⟩) ?_ ?_
  rotate_left
  · intro w'
    go_simp
    with_reducible rfl
  rotate_left
  · simp only [Act.put, List.setIfInBounds_toArray, List.set_cons_zero, List.set_cons_succ, i64_w, i32_w]
    rfl
  refine pure_ (i := 11) (N := some 18) (v := ?_) (a' := ?_) #[false, false, false, true, false, false, false, false, false, false, false, true, false, false, false, false, false, false] rfl rfl (by kernel_rfl) (fun _ _ _ h => h) (Or.inl ⟨by rfl, ?_⟩) ?_ ?_
  rotate_left
  · intro w'
    go_simp
    with_reducible rfl
  rotate_left
  · simp only [Act.put, List.setIfInBounds_toArray, List.set_cons_zero, List.set_cons_succ, i64_w, i32_w]
    rfl
  refine take_ (i := 0) (N := some 7) (v := ?_) (a' := ?_) #[true, false, false, true, false, false, false, false, false, false, false, true, false, false, false, false, false, false] rfl rfl (by kernel_rfl) (fun _ _ _ h => h) (Or.inl ⟨by rfl, ?_⟩) hHeld ?_ ?_
  rotate_left
  · rintro w' ⟨s0, s1, s2, s3, s4, s5, s6⟩
    go_simp
    with_reducible rfl
  rotate_left
  · simp only [Act.put, List.setIfInBounds_toArray, List.set_cons_zero, List.set_cons_succ, i64_w, i32_w]
    rfl
  refine take_ (i := 1) (N := some 8) (v := ?_) (a' := ?_) #[true, true, false, true, false, false, false, false, false, false, false, true, false, false, false, false, false, false] rfl rfl (by kernel_rfl) (fun _ _ _ h => h) (Or.inl ⟨by rfl, ?_⟩) hHeld ?_ ?_
  rotate_left
  · rintro w' ⟨s0, s1, s2, s3, s4, s5, s6⟩
    go_simp
    with_reducible rfl
  rotate_left
  · simp only [Act.put, List.setIfInBounds_toArray, List.set_cons_zero, List.set_cons_succ, i64_w, i32_w]
    rfl
  refine take_ (i := 2) (N := some 9) (v := ?_) (a' := ?_) #[true, true, true, true, false, false, false, false, false, false, false, true, false, false, false, false, false, false] rfl rfl (by kernel_rfl) (fun _ _ _ h => h) (Or.inl ⟨by rfl, ?_⟩) hHeld ?_ ?_
  rotate_left
  · rintro w' ⟨s0, s1, s2, s3, s4, s5, s6⟩
    go_simp
    with_reducible rfl
  rotate_left
  · simp only [Act.put, List.setIfInBounds_toArray, List.set_cons_zero, List.set_cons_succ, i64_w, i32_w]
    rfl
  refine pure_ (i := 4) (N := some 11) (v := ?_) (a' := ?_) #[true, true, true, true, true, false, false, false, false, false, false, true, false, false, false, false, false, false] rfl rfl (by kernel_rfl) (fun _ _ _ h => h) (Or.inl ⟨by rfl, ?_⟩) ?_ ?_
  rotate_left
  · intro w'
    go_simp
    with_reducible rfl
  rotate_left
  · simp only [Act.put, List.setIfInBounds_toArray, List.set_cons_zero, List.set_cons_succ, i64_w, i32_w]
    rfl
  refine take_ (i := 5) (N := some 12) (v := ?_) (a' := ?_) #[true, true, true, true, true, true, false, false, false, false, false, true, false, false, false, false, false, false] rfl rfl (by kernel_rfl) (fun _ _ _ h => h) (Or.inl ⟨by rfl, ?_⟩) hHeld ?_ ?_
  rotate_left
  · rintro w' ⟨s0, s1, s2, s3, s4, s5, s6⟩
    go_simp
    with_reducible rfl
  rotate_left
  · simp only [Act.put, List.setIfInBounds_toArray, List.set_cons_zero, List.set_cons_succ, i64_w, i32_w]
    rfl
  refine pure_ (i := 6) (N := some 13) (v := ?_) (a' := ?_) #[true, true, true, true, true, true, true, false, false, false, false, true, false, false, false, false, false, false] rfl rfl (by kernel_rfl) (fun _ _ _ h => h) (Or.inl ⟨by rfl, ?_⟩) ?_ ?_
  rotate_left
  · intro w'
    go_simp
    with_reducible rfl
  rotate_left
  · simp only [Act.put, List.setIfInBounds_toArray, List.set_cons_zero, List.set_cons_succ, i64_w, i32_w]
    rfl
  refine take_ (i := 7) (N := some 14) (v := ?_) (a' := ?_) #[true, true, true, true, true, true, true, true, false, false, false, true, false, false, false, false, false, false] rfl rfl (by kernel_rfl) (fun _ _ _ h => h) (Or.inl ⟨by rfl, ?_⟩) hHeld ?_ ?_
  rotate_left
  · rintro w' ⟨s0, s1, s2, s3, s4, s5, s6⟩
    go_simp
    with_reducible rfl
  rotate_left
  · simp only [Act.put, List.setIfInBounds_toArray, List.set_cons_zero, List.set_cons_succ, i64_w, i32_w]
    rfl
  refine take_ (i := 8) (N := some 15) (v := ?_) (a' := ?_) #[true, true, true, true, true, true, true, true, true, false, false, true, false, false, false, false, false, false] rfl rfl (by kernel_rfl) (fun _ _ _ h => h) (Or.inl ⟨by rfl, ?_⟩) hHeld ?_ ?_
  rotate_left
  · rintro w' ⟨s0, s1, s2, s3, s4, s5, s6⟩
    go_simp
    with_reducible rfl
  rotate_left
  · simp only [Act.put, List.setIfInBounds_toArray, List.set_cons_zero, List.set_cons_succ, i64_w, i32_w]
    rfl
  refine take_ (i := 9) (N := some 16) (v := ?_) (a' := ?_) #[true, true, true, true, true, true, true, true, true, true, false, true, false, false, false, false, false, false] rfl rfl (by kernel_rfl) (fun _ _ _ h => h) (Or.inl ⟨by rfl, ?_⟩) hHeld ?_ ?_
  rotate_left
  · rintro w' ⟨s0, s1, s2, s3, s4, s5, s6⟩
    go_simp
    with_reducible rfl
  rotate_left
  · simp only [Act.put, List.setIfInBounds_toArray, List.set_cons_zero, List.set_cons_succ, i64_w, i32_w]
    rfl
  refine take_ (i := 10) (N := some 17) (v := ?_) (a' := ?_) #[true, true, true, true, true, true, true, true, true, true, true, true, false, false, false, false, false, false] rfl rfl (by kernel_rfl) (fun _ _ _ h => h) (Or.inl ⟨by rfl, ?_⟩) hHeld ?_ ?_
  rotate_left
  · rintro w' ⟨s0, s1, s2, s3, s4, s5, s6⟩
    go_simp
    with_reducible rfl
  rotate_left
  · simp only [Act.put, List.setIfInBounds_toArray, List.set_cons_zero, List.set_cons_succ, i64_w, i32_w]
    rfl
  refine pure_ (i := 12) (N := some 19) (v := ?_) (a' := ?_) #[true, true, true, true, true, true, true, true, true, true, true, true, true, false, false, false, false, false] rfl rfl (by kernel_rfl) (fun _ _ _ h => h) (Or.inl ⟨by rfl, ?_⟩) ?_ ?_
  rotate_left
  · intro w'
    go_simp
    with_reducible rfl
  rotate_left
  · simp only [Act.put, List.setIfInBounds_toArray, List.set_cons_zero, List.set_cons_succ, i64_w, i32_w]
    rfl
  refine take_ (i := 13) (N := some 20) (v := ?_) (a' := ?_) #[true, true, true, true, true, true, true, true, true, true, true, true, true, true, false, false, false, false] rfl rfl (by kernel_rfl) (fun _ _ _ h => h) (Or.inl ⟨by rfl, ?_⟩) hHeld ?_ ?_
  rotate_left
  · rintro w' ⟨s0, s1, s2, s3, s4, s5, s6⟩
    go_simp
    with_reducible rfl
  rotate_left
  · simp only [Act.put, List.setIfInBounds_toArray, List.set_cons_zero, List.set_cons_succ, i64_w, i32_w]
    rfl
  refine pure_ (i := 14) (N := some 21) (v := ?_) (a' := ?_) #[true, true, true, true, true, true, true, true, true, true, true, true, true, true, true, false, false, false] rfl rfl (by kernel_rfl) (fun _ _ _ h => h) (Or.inl ⟨by rfl, ?_⟩) ?_ ?_
  rotate_left
  · intro w'
    go_simp
    with_reducible rfl
  rotate_left
  · simp only [Act.put, List.setIfInBounds_toArray, List.set_cons_zero, List.set_cons_succ, i64_w, i32_w]
    rfl
  refine take_ (i := 15) (N := some 22) (v := ?_) (a' := ?_) #[true, true, true, true, true, true, true, true, true, true, true, true, true, true, true, true, false, false] rfl rfl (by kernel_rfl) (fun _ _ _ h => h) (Or.inl ⟨by rfl, ?_⟩) hHeld ?_ ?_
  rotate_left
  · rintro w' ⟨s0, s1, s2, s3, s4, s5, s6⟩
    go_simp
    with_reducible rfl
  rotate_left
  · simp only [Act.put, List.setIfInBounds_toArray, List.set_cons_zero, List.set_cons_succ, i64_w, i32_w]
    rfl
  refine pure_ (i := 16) (N := some 23) (v := ?_) (a' := ?_) #[true, true, true, true, true, true, true, true, true, true, true, true, true, true, true, true, true, false] rfl rfl (by kernel_rfl) (fun _ _ _ h => h) (Or.inl ⟨by rfl, ?_⟩) ?_ ?_
  rotate_left
  · intro w'
    go_simp
    with_reducible rfl
  rotate_left
  · simp only [Act.put, List.setIfInBounds_toArray, List.set_cons_zero, List.set_cons_succ, i64_w, i32_w]
    rfl
  refine pure_ (i := 17) (N := some 6) (v := ?_) (a' := ?_) #[true, true, true, true, true, true, true, true, true, true, true, true, true, true, true, true, true, true] rfl rfl (by kernel_rfl) (fun _ _ _ h => h) (Or.inl ⟨by rfl, ?_⟩) ?_ ?_
  rotate_left
  · intro w'
    go_simp
    with_reducible rfl
  rotate_left
  · simp only [Act.put, List.setIfInBounds_toArray, List.set_cons_zero, List.set_cons_succ, i64_w, i32_w]
    rfl
  refine done_ (by kernel_rfl) ?_

  go_wp2
  go_ret
  exact ⟨rfl, 1, rfl⟩
noncomputable def tiT : TypeInfo := (Tryz.prog.info? 64).get (by kernel_rfl)
noncomputable def tiE : TypeInfo := (Tryz.prog.info? 36).get (by kernel_rfl)
theorem tiK (n : Nat) (h2 : 2 ≤ n) : Lib.swapperK n tiE 23 = 9 := by
  have a : tiE.hasPointers = true := by kernel_rfl
  have b : tiE.bytes = 24 := by kernel_rfl
  have c : (n == 0) = false := by simp; omega
  have d : (n == 1) = false := by simp; omega
  simp [Lib.swapperK, a, b, c, d]
section
variable {α : Type} [Inhabited α]
theorem heap_sorted {w : World} {g m : Nat} {enc : α → Value} {d : Array α} {os : Array Obj} {cur : Array Value} {e : TypeId} (hb : w.heap[g]? = some (.cells cur e (0, 0))) :
    (grow (putRow enc (Sort.ahead w m) g 0 d) os).heap[g]? = some (.cells (putCells enc 0 d cur) e (0, 0)) := by
  have hlt : g < w.heap.size := (Array.getElem?_eq_some_iff.1 hb).1
  rw [heap_grow_old _ _ (by simpa [putRow, mapBlock, Sort.ahead] using hlt)]
  simp [putRow, mapBlock, Sort.ahead, Array.getElem?_modify, hb, onCells]
theorem keep_sort (w : World) (m g : Nat) (enc : α → Value) (d : Array α) (os : Array Obj) : w.grownBy (grow (putRow enc (Sort.ahead w m) g 0 d) os) (some g) := by
  refine ⟨rfl, rfl, rfl, by simp [grow, putRow, mapBlock, Sort.ahead], fun i hi hne => ?_⟩
  rw [heap_grow_old _ _ (by simpa [putRow, mapBlock, Sort.ahead] using hi)]
  have : g ≠ i := fun e => hne (by rw [e])
  simp [putRow, mapBlock, Sort.ahead, Array.getElem?_modify, this]
theorem take_put (cur : Array Value) (enc : α → Value) (ts : List α) (h : ts.length ≤ cur.size) : (putCells enc 0 ts.toArray cur).toList.take ts.length = ts.map enc := by
  apply List.ext_getElem?
  intro j
  by_cases hj : j < ts.length
  · rw [List.getElem?_take_of_lt hj, Array.getElem?_toList]
    simp [putCells, hj, show j < cur.size by omega]
  · rw [List.getElem?_take_eq_none (by omega), List.getElem?_eq_none (by simp; omega)]
end
theorem below_grow' (w : World) (os : Array Obj) : RowKit.Below w.heap.size w (grow w os) := ⟨rfl, rfl, rfl, by simp [grow], fun k hk => heap_grow_old w os hk⟩
theorem upd_id {α : Type} (f : Int → α) (c : Int) : upd f c (f c) = f := by
  funext k
  by_cases e : k = c
  · subst e; rw [upd_self]
  · rw [upd_ne _ _ e]
theorem two_at {w : World} {q : Nat} {x y : Int} (h : (Kd.int .i64).C w (some ⟨q, 0, none⟩) 2 [x, y]) : w.cell? ⟨q, 0, none⟩ = some (.int .i64 x) ∧ w.cell? ⟨q, 1, none⟩ = some (.int .i64 y) := by
  have hr := Kd.reads_of_C (enc := Value.int .i64) (d := (0 : Int)) (h1 := fun _ => rfl) h
  obtain ⟨b, e, hc⟩ := hr.2.2 (by decide)
  cases e
  exact ⟨hc 0 (by decide), hc 1 (by decide)⟩
theorem prs_get (c : Int) (rows : List Int) (i : Nat) (hi : i < rows.length) : (prs c rows).getD i [] = [c, rows.getD i 0] := by
  simp [prs, List.getD_eq_getElem?_getD, hi]
/-- The i-th element of a column: a row [c, r] of its own. -/
theorem elem_at {W : World} {base gb n cap : Nat} {ok : Nat → Prop} {c : Int} {rows : List Int} (hR : dP.R 36 W base ok (.slice (some ⟨gb, 0, none⟩) n cap) (prs c rows)) (i : Nat) (hi : i < rows.length) (hn : n = rows.length) :
    ∃ gi, dP.M W base (fun k => ok k ∧ k ≠ gb) [c, rows.getD i 0] [.slice (some ⟨gi, 0, none⟩) 2 2] ∧ gi ≠ gb ∧ ok gi ∧ gi < W.heap.size ∧ W.cell? ⟨gi, 0, none⟩ = some (.int .i64 c) ∧ W.cell? ⟨gi, 1, none⟩ = some (.int .i64 (rows.getD i 0)) ∧ W.cell? ⟨gb, i, none⟩ = some (.slice (some ⟨gi, 0, none⟩) 2 2) ∧ W.frozen? ⟨gb, i, none⟩ = false := by
  obtain ⟨cs, hl, hM, hcc, hf⟩ := Kd.R_elem hR [] (i : Int) (by omega) (by omega)
  have ei : ((i : Int)).toNat = i := by omega
  have hs : dP.sz = 1 := rfl
  rw [ei, hs, Nat.mul_one] at hcc hf
  rw [ei, prs_get c rows i hi] at hM
  obtain ⟨A, rfl, hRi⟩ := hM
  obtain ⟨gi, cap2, e2, hgib, hgil, hgic⟩ := Kd.R_form hRi (by simp)
  cases e2
  have hok := hRi.1 gi rfl
  have h2 := two_at (Kd.R_reads' hRi).2.2
  exact ⟨gi, ⟨_, rfl, hRi⟩, hok.2, hok.1, hgil, h2.1, h2.2, hcc 0 _ rfl, hf 0⟩
theorem gdrew {W W1 : World} {row : Option Nat} (h : W.grownBy W1 row) : W.grownBy W1.drew row := ⟨h.os, h.tape, h.output, h.size, h.block⟩
set_option maxHeartbeats 4000000 in
theorem sort_col {W : World} {B base n : Nat} {D : DataW Value} {g : Int → Value} {l : Int → List Int} {h : Int → Bool} {S : Int → Nat → Prop} (k : Cols W B base n D g l h S) (c : Int) (hc : -1000 ≤ c ∧ c ≤ 1000) (hl : (l c).length ≤ 100000000)
    (cb q : Nat) (hcb : W.cell? ⟨cb, 0, none⟩ = some (.map (some B))) (hcn : ¬ S c cb) (hq : W.cell? ⟨q, 0, none⟩ = some (.int .i64 c)) (hqn : ¬ S c q) :
    Calls Tryz.prog 30 #[.iface 64 (g c), .func (.func 36) #[] #[.pointer (some ⟨cb, 0, none⟩), .pointer (some ⟨q, 0, none⟩)]] W fun e w' => e = .returned (.tuple #[]) ∧ ∃ rows, rows.Perm (l c) ∧ rows.Pairwise (· ≤ ·) ∧ Cols w' B base n D g (upd l c rows) h S ∧ W.grownBy w' (g c).ownBlock := by
  rcases Nat.lt_or_ge (l c).length 2 with h1 | h2
  · obtain ⟨A, cap, eg⟩ := Kd.R_slice (k.rows c)
    rw [prs_len] at eg
    have hf : ∃ f, Array.findIdx? (fun x => x.name == "internal/reflectlite" ++ ".Swapper$" ++ toString (Go.Lib.swapperK (l c).length tiE 23)) Tryz.prog.funcs = some f := by
      rcases (by omega : (l c).length = 0 ∨ (l c).length = 1) with h | h
      · exact ⟨73, by rw [h]; kernel_rfl⟩
      · exact ⟨74, by rw [h]; kernel_rfl⟩
    obtain ⟨f, hf⟩ := hf
    have ht := Any.sort_Slice_tiny Tryz.laysGg6 64 36 tiT tiE (by kernel_rfl) (by kernel_rfl) (by kernel_rfl) (by kernel_rfl) 23 (fun _ => by kernel_rfl) A (l c).length cap (by omega) f hf (.func 36) #[] #[.pointer (some ⟨cb, 0, none⟩), .pointer (some ⟨q, 0, none⟩)] W
    rw [← eg] at ht
    refine ht.mono ?_
    rintro e w' ⟨rfl, os, rfl⟩
    refine ⟨rfl, l c, List.Perm.refl _, ?_, by rw [upd_id]; exact k.below (below_grow' W os), grown_of_below (below_grow' W os) _⟩
    match l c, h1 with
    | [], _ => exact List.Pairwise.nil
    | [x], _ => exact List.pairwise_singleton _ _
    | _ :: _ :: _, h => simp at h; omega
  · have hR := k.rows c
    obtain ⟨gb, cap, eg, hgb, hgl, _⟩ := Kd.R_form hR (by rw [prs_len]; omega)
    rw [prs_len] at eg
    have hSg : S c gb := hR.1 gb (by rw [eg]; rfl)
    have hBg : B ≠ gb := fun e => (k.sets c gb hSg).2.2 e.symm
    have hcg : cb ≠ gb := fun e => hcn (e ▸ hSg)
    have hqg : q ≠ gb := fun e => hqn (e ▸ hSg)
    rw [eg] at hR
    obtain ⟨m, hm⟩ : ∃ m, m = (l c).length := ⟨_, rfl⟩
    rw [← hm] at h2 eg hR hl
    have el : ∃ G : Nat → Nat, ∀ i, i < m → dP.M W base (fun k => S c k ∧ k ≠ gb) [c, (l c).getD i 0] [.slice (some ⟨G i, 0, none⟩) 2 2] ∧ G i ≠ gb ∧ S c (G i) ∧ G i < W.heap.size ∧ W.cell? ⟨G i, 0, none⟩ = some (.int .i64 c) ∧ W.cell? ⟨G i, 1, none⟩ = some (.int .i64 ((l c).getD i 0)) ∧ W.cell? ⟨gb, i, none⟩ = some (.slice (some ⟨G i, 0, none⟩) 2 2) ∧ W.frozen? ⟨gb, i, none⟩ = false := by
      refine ⟨fun i => if hi : i < m then Classical.choose (elem_at hR i (by omega) hm) else 0, fun i hi => ?_⟩
      simp only [dif_pos hi]
      exact Classical.choose_spec (elem_at hR i (by omega) hm)
    obtain ⟨G, el⟩ := el
    haveI : Inhabited (Fin m) := ⟨⟨0, by omega⟩⟩
    obtain ⟨enc, henc⟩ : ∃ enc : Fin m → Value, enc = fun i => .slice (some ⟨G i.1, 0, none⟩) 2 2 := ⟨_, rfl⟩
    obtain ⟨lt, hlt⟩ : ∃ lt : Fin m → Fin m → Bool, lt = fun i j => decide ((l c).getD i.1 0 < (l c).getD j.1 0) := ⟨_, rfl⟩
    have hO : SWO lt := by
      subst hlt
      exact ⟨fun x => by simp, fun x y z h1 h2 => by simp at *; omega, fun x y z h1 h2 => by simp at *; omega⟩
    obtain ⟨d, hd⟩ : ∃ d : Array (Fin m), d = (List.finRange m).toArray := ⟨_, rfl⟩
    have hds : d.size = m := by rw [hd]; simp
    have hH : Holds enc W gb 0 d := by
      intro j hj
      have hj2 : j < m := by omega
      have hdj : d[j]! = ⟨j, hj2⟩ := by
        rw [getElem!_pos d j hj]
        subst hd
        simp
      rw [hdj, Nat.zero_add, henc]
      exact ⟨(el j hj2).2.2.2.2.2.2.1, (el j hj2).2.2.2.2.2.2.2⟩
    have hless : LessReads Tryz.prog 36 #[.pointer (some ⟨cb, 0, none⟩), .pointer (some ⟨q, 0, none⟩)] enc lt gb 0 d.size W := by
      intro mm os dk hs i j hi hj
      have hkp := keep_sort W mm gb enc dk os
      have e : sortWorld enc W gb 0 mm dk os = putRow enc (grow (Sort.ahead W mm) os) gb 0 dk := by
        unfold sortWorld; rw [putRow_grow _ (Sort.ahead W mm) _ gb 0 _ hgl]
      have hHg : Holds enc (grow (Sort.ahead W mm) os) gb 0 d := holds_grow _ _ _ gb 0 d hgl (holds_ahead _ _ _ _ _ _ hH)
      have hrow : ∀ t, t < d.size → (sortWorld enc W gb 0 mm dk os).cell? ⟨gb, t, none⟩ = some (.slice (some ⟨G dk[t]!.1, 0, none⟩) 2 2) := by
        intro t ht
        have h3 := cell?_putRow enc (grow (Sort.ahead W mm) os) gb 0 d dk hHg hs t (by omega)
        rw [Nat.zero_add, ← e, henc] at h3
        rw [henc]
        exact h3
      have hv := fun t : Nat => el dk[t]!.1 dk[t]!.2
      have hg1 := gdrew hkp
      have hlk := look_grown k hg1 (fun e => hBg (by injection e)) c hc
      rw [eg] at hlk
      rw [hlt]
      exact less B cb q gb m cap c (sortWorld enc W gb 0 mm dk os) i j (G dk[i]!.1) (G dk[j]!.1) _ _ (by omega) (by omega) (by omega)
        (hg1.cell hcb (fun e => hcg (by injection e))) (hg1.cell hq (fun e => hqg (by injection e))) hlk (hrow i hi) (hrow j hj)
        (hg1.cell (hv i).2.2.2.2.2.1 (fun e => (hv i).2.1 (by injection e))) (hg1.cell (hv j).2.2.2.2.2.1 (fun e => (hv j).2.1 (by injection e)))
    have hS := Any.sort_Slice_sorted Tryz.laysGg6 64 36 tiT tiE (by kernel_rfl) (by kernel_rfl) (by kernel_rfl) (by kernel_rfl) 23 (fun _ => by kernel_rfl) (by kernel_rfl) (fun _ => by kernel_rfl) enc (fun x => by rw [henc]; rfl) lt hO 36 #[.pointer (some ⟨cb, 0, none⟩), .pointer (some ⟨q, 0, none⟩)]
      (enters_of Tryz.func36 (by kernel_rfl) rfl) gb 0 cap d (by omega) (by omega) 81 (by rw [tiK _ (by omega)]; kernel_rfl) false
      (fun args W => run_callFunc_extern Tryz.func81 (by kernel_rfl) (by kernel_rfl) (by kernel_rfl) (e := Extern.ReflectliteSwapper.swap false) (by kernel_rfl) args W) W hless hH hgl
    change Calls Tryz.prog 30 _ _ _ at hS
    rw [hds] at hS
    rw [eg]
    refine hS.mono ?_
    rintro e w' ⟨rfl, d', mm, os, hp, hso, rfl⟩
    have hkp := keep_sort W mm gb enc d' os
    have hsz' : d'.size = m := hp.1.trans hds
    have hperm : d'.toList.Perm (List.finRange m) := by
      have h3 := hp.2.2
      have e1 : d'.extract 0 m = d' := by have := @Array.extract_size _ d'; rw [hsz'] at this; exact this
      have e2 : d.extract 0 m = d := by have := @Array.extract_size _ d; rw [hds] at this; exact this
      rw [e1, e2, hd] at h3
      simpa using h3
    have hfin : (List.finRange m).map (fun i : Fin m => (l c).getD i.1 0) = l c := by
      apply List.ext_getElem
      · simp [hm]
      · intro j h1 h2
        simp [List.getD_eq_getElem?_getD, h2]
    refine ⟨rfl, d'.toList.map (fun i : Fin m => (l c).getD i.1 0), ?_, ?_, ?_, hkp⟩
    · have h3 := hperm.map (fun i : Fin m => (l c).getD i.1 0)
      rw [hfin] at h3
      exact h3
    · rw [List.pairwise_map, List.pairwise_iff_getElem]
      intro i j hi hj hij
      have h3 := hso i j (Nat.zero_le _) hij (by rw [← hsz']; simpa using hj)
      have hi' : i < d'.size := by simpa using hi
      have hj' : j < d'.size := by simpa using hj
      rw [getElem!_pos d' i hi', getElem!_pos d' j hj', hlt] at h3
      have h4 := of_decide_eq_false h3
      simpa using Int.not_lt.1 h4
    · have hgr := hkp
      refine ⟨k.own.kept hkp (fun e => hBg (by injection e)), k.says, k.new, fun c' b hb => ⟨(k.sets c' b hb).1, Nat.lt_of_lt_of_le (k.sets c' b hb).2.1 hkp.size, (k.sets c' b hb).2.2⟩, k.disj, fun c' => ?_⟩
      by_cases e : c' = c
      · subst e
        rw [upd_self, eg]
        obtain ⟨h0, inner, hown, hrep⟩ := hR
        rcases hown.2 with ⟨hv, _⟩ | ⟨g', cap', cur, hv, hb, hgg, hnc, hcm, hcs, htk⟩
        · cases hv
        injection hv with ha hb2 hc2
        injection ha with ha
        injection ha with hg'
        subst hg'; subst hc2
        have hdl : d'.toList.length = m := by simpa using hsz'
        have hd2 : d'.toList.toArray = d' := by simp
        have hpl : (prs c' (d'.toList.map fun i : Fin m => (l c').getD i.1 0)).length = m := by rw [prs_len, List.length_map, hdl]
        refine ⟨h0, d'.toList.map enc, ⟨by rw [List.length_map, hdl, hpl, show dP.sz = 1 from rfl, Nat.mul_one], .inr ⟨gb, cap, putCells enc 0 d' cur, by rw [hpl], hb, heap_sorted hgg, by rw [hpl]; rw [prs_len] at hnc; omega, hcm, by rw [show dP.sz = 1 from rfl] at hcs ⊢; simp [putCells, hcs], ?_⟩⟩, ⟨by rw [List.length_map, hdl, hpl, show dP.sz = 1 from rfl, Nat.mul_one], fun j p hj => ?_⟩⟩
        · rw [hpl, show dP.sz = 1 from rfl, Nat.mul_one]
          have h5 := take_put cur enc d'.toList (by rw [hdl]; rw [show dP.sz = 1 from rfl] at hcs; rw [prs_len] at hnc; omega)
          rw [hd2, hdl] at h5
          exact h5
        · have hjl : j < m := by have := (List.getElem?_eq_some_iff.1 hj).1; omega
          have hjd : j < d'.toList.length := by omega
          obtain ⟨t, ht⟩ : ∃ t, t = d'.toList[j] := ⟨_, rfl⟩
          have hp2 : p = [c', (l c').getD t.1 0] := by
            have := hj
            rw [prs, List.getElem?_map, List.getElem?_map, List.getElem?_eq_getElem hjd] at this
            rw [ht]
            exact (Option.some.inj this).symm
          have hen : ((d'.toList.map enc).drop (j * dP.sz)).take dP.sz = [enc t] := by
            rw [show dP.sz = 1 from rfl, Nat.mul_one, List.take_one, List.head?_drop, List.getElem?_map, List.getElem?_eq_getElem hjd, ← ht]
            rfl
          have het : [enc t] = [.slice (some ⟨G t.1, 0, none⟩) 2 2] := by rw [henc]
          rw [hp2, hen, het]
          refine dP.M_mono (fun b hb => ⟨hb.1, fun e => hb.2 (by simpa [Value.ownBlock] using e)⟩) (dP.M_move (fun b hb => hkp.block b (k.sets c' b hb.1).2.1 (fun e => hb.2 (by injection e))) (el t.1 t.2).1)
      · rw [upd_ne _ _ e]
        exact Kd.R_grown (k.rows c') hkp (fun b hb he => k.disj c' c b e hb (by have h7 : b = gb := (by injection he); rw [h7]; exact hSg))
end Go.Proofs.YtmcppajgfhmpaaaGreatDoor.FtS
