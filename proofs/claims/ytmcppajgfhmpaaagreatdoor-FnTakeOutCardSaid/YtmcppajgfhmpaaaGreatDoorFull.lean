/- Rows of rows whose inner rows are full (the capacity is the length): their kind, a literal's row, and an append to such an inner row, which always makes a new row. No conditions. -/
import Derived.Test.YtmcppajgfhmpaaaGreatDoorWMore
import Derived.ArgAppend
namespace Go.Proofs.YtmcppajgfhmpaaaGreatDoor.Full
open Go.RowKit Go.Proofs.YtmcppajgfhmpaaaGreatDoorW.PrintWords Go.Proofs.YtmcppajgfhmpaaaGreatDoorW.PrintLast Go.Proofs.YtmcppajgfhmpaaaGreatDoorW.PrintMore

/-- A slice whose capacity is its length. -/
def exact {α : Type} (e : Nat) (d : Kd α) : Kd (List α) where
  sz := 1
  E := e :: d.E
  K := fun w xs cs => ∃ A, cs = [.slice A xs.length xs.length] ∧ d.C w A xs.length xs
  M := fun w base ok xs cs => ∃ A, cs = [.slice A xs.length xs.length] ∧ d.R e w base ok (.slice A xs.length xs.length) xs
  K_len := by
    rintro w x cs ⟨A, rfl, _⟩
    rfl
  K_one := by
    rintro w x cs ⟨A, rfl, _⟩ u hu
    rw [List.mem_singleton.1 hu]
    rfl
  K_below := by
    rintro w w1 x cs hb ⟨A, rfl, hr⟩
    exact ⟨A, rfl, Kd.C_below hr hb⟩
  K_of_M := by
    rintro w base ok x cs ⟨A, rfl, h⟩
    obtain ⟨A', c, he, hl, hr⟩ := Kd.R_reads h
    injection he with h1 h2 h3
    subst h1
    exact ⟨A, rfl, hr⟩
  M_mono := by
    rintro w base ok ok' x cs hok ⟨A, rfl, h⟩
    exact ⟨A, rfl, Kd.R_mono h hok⟩
  M_bound := by
    rintro w base ok x cs ⟨A, rfl, h⟩
    exact ⟨A, rfl, Kd.R_bound h⟩
  M_move := by
    rintro w w1 base ok x cs hm ⟨A, rfl, h⟩
    exact ⟨A, rfl, Kd.R_move h hm⟩
  M_lower := by
    rintro w base base' ok x cs hb ⟨A, rfl, h⟩
    exact ⟨A, rfl, Kd.R_lower h hb⟩
section
variable {α : Type} {d : Kd α} {e base : Nat} {ok : Nat → Prop} {w : World} {v : Value} {xs : List α}
theorem M_exact (h : d.R e w base ok v xs) (hv : ∃ A, v = .slice A xs.length xs.length) : (exact e d).M w base ok xs [v] := by
  obtain ⟨A, rfl⟩ := hv
  exact ⟨A, rfl, h⟩
end
theorem at_exact {w : World} {A : Option Addr} {n : Nat} {xs : List (List Int)} {e : Nat} (h : Kd.C (exact e (Kd.int .i64)) w A n xs) (i : Int) (h0 : 0 ≤ i) (h1 : i < n) :
    ∃ ad A0 c0, A = some ad ∧ w.cell? (ad.add i.toNat) = some (.slice A0 (xs.getD i.toNat []).length c0) ∧ c0 = (xs.getD i.toNat []).length ∧ (Kd.int .i64).C w A0 (xs.getD i.toNat []).length (xs.getD i.toNat []) := by
  obtain ⟨ad, c, e1, _, hK, hc⟩ := Kd.C_get h [] i h0 h1
  obtain ⟨A0, rfl, hr⟩ := hK
  refine ⟨ad, A0, _, e1, ?_, rfl, hr⟩
  have hq := hc 0 _ rfl
  have hs : (exact e (Kd.int .i64)).sz = 1 := rfl
  rwa [hs, Nat.mul_one, Nat.add_zero] at hq
section
variable {P : Program} {ops : Array Oper} {rest : List Oper} {o : Oper} {a : Act} {Q : Exit → Act → World → Prop} {Kc : Act → World → Prop} {α : Type}
theorem R_lit_full (d : Kd α) {w0 W : World} (base e : Nat) (hgd : o.guard = none) {N : Tmp} (_hd : o.dst = some N) {xs : List α} {inner : List Value} {ok okp : Nat → Prop}
    (hrun : (execOp a.eval o).run P W = .ok (.value (.slice (some ⟨W.heap.size, 0, none⟩) xs.length xs.length)) (W.alloc (.cells inner.toArray e)))
    (hrep : Reps (d.M W base okp) d.sz xs inner) (hok : ∀ k, okp k → ok k) (hfresh : ok W.heap.size) (HB : Below base w0 W) (hbase : base ≤ W.heap.size) (hm : xs.length ≤ 9223372036854775807)
    (h : ∀ v1 w1, d.R e w1 base ok v1 xs → Below base w0 w1 → W.grownBy w1 none → (∃ b, v1.ownBlock = some b ∧ W.heap.size ≤ b) → (∃ A, v1 = .slice A xs.length xs.length) → wpList P ops Q rest (a.put o.dst v1) w1) : wpList P ops Q (o :: rest) a W := by
  refine Kd.event_run hgd hrun (h _ _ ⟨fun k hk => ?_, inner, ?_, ?_⟩ (HB.alloc hbase _) (World.grownBy_alloc W _ none) ⟨W.heap.size, by simp [Value.ownBlock], Nat.le_refl _⟩ ⟨_, rfl⟩)
  · have : W.heap.size = k := by simpa [Value.ownBlock] using hk
    subst this
    exact hfresh
  · have h2 := World.ownsRow_lit (base := base) (e := e) (size := d.sz) W inner.toArray xs.length hbase (by simpa [maxLen] using hm) (by simpa using hrep.1)
    simpa using h2
  · refine hrep.imp_ (fun p c hp => d.M_mono (fun k hk => ⟨hok k hk.1, fun he => ?_⟩) (Kd.M_below (d.M_bound hp) (below_alloc (Below.refl _ _) _)))
    have h3 : k = W.heap.size := by simpa [Value.ownBlock] using he
    have := hk.2.2.1
    omega
theorem encs_append' {β : Type} (enc : β → Value) (xs ys : List β) : encs enc (xs ++ ys) = encs enc xs ++ encs enc ys := by simp [encs]
theorem encs_of (xs : List Int) {w : World} {ad : Addr} {n : Nat} (hn : xs.length = n) (h : ∀ j, j < n → w.cell? (ad.add j) = some (.int .i64 (xs.getD j 0))) :
    ∀ j u, (encs (Value.int .i64) xs)[j]? = some u → w.cell? (ad.add j) = some u := by
  intro j u hu
  have hj : j < xs.length := by
    rcases Nat.lt_or_ge j xs.length with h' | h'
    · exact h'
    · rw [List.getElem?_eq_none (by rw [encs_length]; exact h')] at hu; cases hu
  rw [h j (by omega)]
  rw [← hu]
  simp [encs, List.getD_eq_getElem?_getD, hj]
/-- append(v, ys...) to a full row of ints that is only read: a new row. -/
theorem append_full_step {Rr : Int → List Value → Prop} {w0 W : World} (base : Nat) (hw : Region.wanted o (yielded ops a.tmps) = true) (s x : Operand) (t e : TypeId) (z : Value) (bytes : Nat)
    (ho : o.op = .call { callee := .builtin .append, args := #[s, x], argTypes := #[t, t] })
    (ht : P.underlying t = some (.slice e)) (hinfo : (P.info? e).map (fun i => (i.zero, i.size, i.bytes)) = some (some z, 1, bytes)) (hz : z.cells.size = 1) (_hs0 : 0 < 1) (hb0 : 0 < bytes)
    (v : Value) (xs ys : List Int) (A : Option Addr) (m c : Nat) (ok okp : Nat → Prop) (hs : a.eval s = v) (hx : a.eval x = .slice A m c)
    (HO : ∃ A1, v = .slice A1 xs.length xs.length ∧ (Kd.int .i64).C W A1 xs.length xs ∧ 0 < xs.length ∧ 0 < m) (HR : ReadsRow Rr (Kd.int .i64).sz W A m ys) (hKM : ∀ x cs, Rr x cs → (Kd.int .i64).M W base okp x cs) (_hokp : ∀ k, okp k → ok k ∧ some k ≠ (none : Option Nat)) (hfresh : ∀ k, W.heap.size ≤ k → ok k)
    (HB : Below base w0 W) (hbase : base ≤ W.heap.size) (hl : (xs.length + m) * bytes ≤ 140737488355328)
    (h : ∀ v1 w1, (Kd.int .i64).R e w1 base ok v1 (xs ++ ys) → Below base w0 w1 → W.grownBy w1 none → (v1.ownBlock = none ∨ ∃ b, v1.ownBlock = some b ∧ W.heap.size ≤ b) → Kc (a.put o.dst v1) w1) :
    if Region.wanted o (yielded ops a.tmps) = true then Oper.wp P o a W Kc Q else Kc (a.put o.dst undef) W := by
  obtain ⟨i0, hi, hzz⟩ := Option.map_eq_some_iff.1 hinfo
  simp only [Prod.mk.injEq] at hzz
  obtain ⟨hz0, hz1, hz2⟩ := hzz
  obtain ⟨A1, rfl, hC, hn, hm⟩ := HO
  have hm' : ys.length = m := HR.1
  have hr1 := Kd.reads_of_C (enc := Value.int .i64) (d := (0 : Int)) (h1 := fun _ => rfl) hC
  obtain ⟨b1, rfl, hc1⟩ := hr1.2.2 hn
  have hC2 : (Kd.int .i64).C W A m ys := HR.imp_ (Below.refl _ _) (fun _ _ hp => (Kd.int .i64).K_of_M (hKM _ _ hp))
  have hr2 := Kd.reads_of_C (enc := Value.int .i64) (d := (0 : Int)) (h1 := fun _ => rfl) hC2
  obtain ⟨b2, rfl, hc2⟩ := hr2.2.2 hm
  have hlen : xs.length + m ≤ 140737488355328 := Nat.le_trans (Nat.le_mul_of_pos_right _ hb0) hl
  obtain ⟨v1, w1, hrun, hown, hg⟩ := run_append_arg_grows (P := P) (w := W) t o.type e i0 z 1 bytes ht hi hz0 hz1 hz2 hz (by decide) b1 xs.length xs.length (encs (Value.int .i64) xs) (by rw [encs_length, Nat.mul_one])
    (encs_of xs rfl hc1) b2 m c (encs (Value.int .i64) ys) (by rw [encs_length, hm', Nat.mul_one]) (encs_of ys hm' hc2) (by omega) (by simp only [maxLen]; omega) hl
  rw [← encs_append', ← hm', ← List.length_append] at hown
  have hblk : ∀ k, v1.ownBlock = some k → W.heap.size ≤ k := own_base hown
  have hR : (Kd.int .i64).R e w1 base ok v1 (xs ++ ys) := Kd.R_lower (Kd.R_of_own (h1 := fun _ => rfl) hown (fun k hk => hfresh k (hblk k hk))) hbase
  have hat : v1.ownBlock = none ∨ ∃ b, v1.ownBlock = some b ∧ W.heap.size ≤ b := by
    rcases hv : v1.ownBlock with _ | k
    · exact .inl rfl
    · exact .inr ⟨k, rfl, hblk k hv⟩
  have hB : Below base w0 w1 := HB.trans ⟨hg.os, hg.tape, hg.output, hg.size, fun k hk => hg.block k (by omega) (by simp)⟩
  rw [if_pos hw]
  unfold Oper.wp execOp
  simp only [ho, resolve, invoke, builtin, Sem.run_bind, Sem.run_pure, Result.andThen_ok, List.map_toArray, List.map_cons, List.map_nil, hs, hx, hrun]
  exact h v1 w1 hR hB hg hat
end
end Go.Proofs.YtmcppajgfhmpaaaGreatDoor.Full
