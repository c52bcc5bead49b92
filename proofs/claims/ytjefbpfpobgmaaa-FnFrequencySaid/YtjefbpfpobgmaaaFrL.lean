/- FnFrequency, walks: a column of numbers of the reference is made. Conditions: the numbers' sizes. -/
import Derived.Test.YtjefbpfpobgmaaaFrK
namespace Go.Proofs.Ytjefbpfpobgmaaa.FrL
open Go.RowKit Go.Proofs.YtjefbpfpobgmaaaW.PrintWords Go.Proofs.YtjefbpfpobgmaaaW.PrintLast Go.Proofs.YtjefbpfpobgmaaaW.PrintMore Go.Proofs.Ytjefbpfpobgmaaa.FrA Go.Proofs.Ytjefbpfpobgmaaa.FrB Go.Proofs.Ytjefbpfpobgmaaa.FrK
set_option linter.unusedVariables false
set_option linter.unusedSimpArgs false
attribute [local go_sem] Flt.run_store_float
theorem info50 : (Try.prog.info? 50).map (fun i => (i.zero, i.size, i.bytes)) = some (some (.slice none 0 0), 1, 24) := by kernel_rfl
theorem info44 : (Try.prog.info? 44).map (fun i => (i.zero, i.size, i.bytes)) = some (some (.slice none 0 0), 1, 24) := by kernel_rfl
theorem info64 : (Try.prog.info? 64).map (fun i => (i.zero, i.size, i.bytes)) = some (some (.slice none 0 0), 1, 24) := by kernel_rfl
theorem info91 : (Try.prog.info? 91).map (fun i => (i.zero, i.size, i.bytes)) = some (some (.slice none 0 0), 1, 24) := by kernel_rfl
theorem info48 : (Try.prog.info? 48).map (fun i => (i.zero, i.size, i.bytes)) = some (some (.agg #[.int .i64 0, .int .i64 0, .int .i64 0, .string ⟨#[]⟩, .slice none 0 0]), 5, 64) := by kernel_rfl
theorem info42 : (Try.prog.info? 42).map (fun i => (i.zero, i.size, i.bytes)) = some (some (.agg #[.int .i64 0, .float .f64 0, .string ⟨#[]⟩, .slice none 0 0]), 4, 56) := by kernel_rfl
theorem info62 : (Try.prog.info? 62).map (fun i => (i.zero, i.size, i.bytes)) = some (some (.agg #[.int .i64 0, .float .f64 0, .string ⟨#[]⟩, .slice none 0 0]), 4, 56) := by kernel_rfl
theorem info96 : (Try.prog.info? 96).map (fun i => (i.zero, i.size, i.bytes)) = some (some (.agg #[.string ⟨#[]⟩, .float .f64 0, .string ⟨#[]⟩, .slice none 0 0, .slice none 0 0, .bool false, .string ⟨#[]⟩, .int .u8 0, .pointer none, .pointer none]), 10, 136) := by kernel_rfl
theorem info123 : (Try.prog.info? 123).map (fun i => (i.zero, i.size, i.bytes)) = some (some (.agg #[.int .i64 0, .float .f64 0]), 2, 16) := by kernel_rfl
/-- A row of one element, newly made. -/
theorem lit_one {α : Type} (d : Kd α) (e base : Nat) (W : World) {x : α} {cs : List Value} {ok : Nat → Prop} (h : d.M (W.alloc (.cells cs.toArray e)) base (fun k => ok k ∧ k ≠ W.heap.size) x cs) (hb : base ≤ W.heap.size) (hok : ok W.heap.size) :
    d.R e (W.alloc (.cells cs.toArray e)) base ok (.slice (some ⟨W.heap.size, 0, none⟩) 1 1) [x] := by
  refine ⟨fun k hk => ?_, ?_⟩
  · have : W.heap.size = k := by simpa [Value.ownBlock] using hk
    subst this
    exact hok
  · refine OwnRow.lit (ps := [x]) W base ?_ hb (by simp)
    have hl := d.K_len (d.K_of_M h)
    refine ⟨by simp [hl], fun j p hj => ?_⟩
    cases j with
    | zero =>
      have : x = p := by simpa using hj
      subst this
      rw [Nat.zero_mul, List.drop_zero, ← hl, List.take_length]
      exact d.M_mono (fun k hk => ⟨hk.1, by simpa [Value.ownBlock] using hk.2⟩) h
    | succ j => simp at hj
/-- A row of one known element, newly made, as an element of a row of rows that is not of its blocks. -/
theorem one_M {α : Type} {sz : Nat} {enc : α → List Value} {hl h1} (e base : Nat) (W W1 : World) (x : α) (hW : W1 = W.alloc (.cells (enc x).toArray e)) (hb : base ≤ W.heap.size) :
    (Kd.slice e (kc sz enc hl h1)).M W1 base (fun k => k = W.heap.size) [x] [.slice (some ⟨W.heap.size, 0, none⟩) 1 1] := by
  subst hW
  refine ⟨_, rfl, lit_one (kc sz enc hl h1) e base W (show (kc sz enc hl h1).M _ base _ x (enc x) from rfl) hb rfl⟩
set_option maxHeartbeats 4000000 in
set_option maxRecDepth 100000 in
theorem column (xs : List Int) (hx : ∀ x ∈ xs, -500 ≤ x ∧ x ≤ 500) (hn : xs.length ≤ 100) (A : Option Addr) (c : Nat) (w : World) (hr0 : Kd.C (Kd.int .i64) w A xs.length xs) :
    Calls Try.prog 19 #[.slice A xs.length c] w fun e w' => ∃ v, e = .returned (tabV v) ∧ (kCol 48 kS).R 50 w' w.heap.size (fun _ => True) v (rws xs) ∧ Below w.heap.size w w' := by
  have HR0 := Aside0.mk hr0
  have HX := Aside0.mk hx
  have HN := Aside0.mk hn
  clear hr0 hx hn
  have HB := Aside0.mk (Below.refl w.heap.size w)
  go_enter Try.func19, Try.ntmps19
  go_wp2
  go_loopg [3, 4] (xs.length) (fun kq v3 v4 w' => ∃ (i : Nat) (xi : Int), v4 = .int .i64 xi ∧ Aside0 (xi = i ∧ i ≤ xs.length ∧ kq = xs.length - i) ∧ Aside0 ((kCol 48 kS).R 50 w' w.heap.size (fun k => k ≠ w.heap.size) v3 (rws (xs.take i))) ∧ Aside0 (w'.heap[w.heap.size]? = some (.cells #[.int .i64 0, .int .i64 0, .int .i64 0, .string ⟨#[]⟩, .slice none 0 0] 48 (0, 0))) ∧ Aside0 (Below w.heap.size w w'))
  case atStart => exact ⟨0, 0, rfl, ⟨⟨rfl, Nat.zero_le _, rfl⟩⟩, ⟨Kd.R_nil _ _ _ _ _⟩, ⟨blk_new _ _⟩, ⟨by repeat (first | (with_reducible first | exact HB.out | apply below_alloc | apply pw_below_drewN | apply below_drew1) | exact HB.out)⟩⟩
  case round =>
    obtain ⟨i, xi, rfl, HI, HO, BZ, HB⟩ := hrel
    by_cases hi : i < xs.length
    · have q1 : xi < (xs.length : Int) := by have := HI.out; omega
      have p1 : 0 ≤ xi := by have := HI.out; omega
      have c1 : decide (xi < (xs.length : Int)) = true := decide_eq_true q1
      obtain ⟨ad1, rfl, hx1⟩ := Kd.at_int HR0.out xi p1 q1
      replace hx1 := (HB.out.cell (World.block_lt_of_cell? w _ hx1)).trans hx1
      obtain ⟨x, hxe⟩ : ∃ x, x = rd xs xi := ⟨_, rfl⟩
      rw [← hxe] at hx1
      have hgx : xs[i]? = some x := by
        have h1 := HI.out.1
        subst h1
        rw [hxe, List.getElem?_eq_getElem hi]
        simp [rd, List.getD_eq_getElem?_getD, hi]
      have HX1 := Aside0.mk (HX.out x (List.mem_of_getElem? hgx))
      have HW := Aside0.mk (show xs.take (i + 1) = xs.take i ++ [x] by rw [List.take_add_one, hgx]; rfl)
      have p1' := eq_true p1
      have q1' := eq_true q1
      have hw1 : wrap64 (xi + 1) = xi + 1 := by have := HN.out; unfold wrap64; omega
      have hlen := Aside0.mk hi
      clear hi hxe hgx p1 q1
      go_wp2_with (first
        | (go_at_call 31; refine (int x (by have := HX1.out; omega) _).mono ?_; rintro e w2 ⟨rfl, hb⟩; have n0_ := Aside0.mk (below_step (by repeat (first | (with_reducible first | exact HB.out | apply below_alloc | apply pw_below_drewN | apply below_drew1) | exact HB.out)) hb); have n1_ := Aside0.mk (Kd.R_below (by (with_reducible repeat (first | apply Kd.R_alloc | apply Kd.R_drewN | apply Kd.R_drew)); exact HO.out) hb); have n2_ := Aside0.mk (blk_below (by (with_reducible repeat (first | refine blk_drewN ?_ _ | refine blk_drew ?_ | refine blk_alloc ?_ _)); exact BZ.out) hb); clear HB HO BZ; have HB := n0_; have HO := n1_; have BZ := n2_; clear n0_ n1_ n2_; clear hb)
        | ((with_reducible refine gate_builtin (b := .append) (xs := #[.tmp 11, .tmp 18]) rfl ?_); at_builtin; refine Kd.R_append (kCol 48 kS) (w0 := w) (w.heap.size) rfl (.tmp 11) (.tmp 18) 46 50 (.slice none 0 0) 24 rfl Try.underlying46 info50 rfl (by decide) (by omega) u3 (rws (xs.take i)) [x] [.slice (some ⟨w2.heap.size, 0, none⟩) 1 1] (fun k => k ≠ w.heap.size) (fun k => k = w2.heap.size) rfl (by first | (go_simp; done) | (go_simp; rfl)) (one_M 48 w.heap.size w2 _ x rfl (below_size HB.out)) (fun k hk => ⟨by have := blk_lt BZ.out; omega, by rw [hk]; exact Kd.R_ne_new HO.out 0⟩) (fun k hk => by have := blk_lt BZ.out; rw [World.size_alloc] at hk; omega) (Kd.R_alloc HO.out _) (below_alloc HB.out _) (below_size (below_alloc HB.out _)) ?aL ?_; (case aL => have := HN.out; have := HI.out; simp [rws]; omega); intro v1 w3 ho hb hg hat; rw [← rws_snoc, ← HW.out] at ho; have n0_ := Aside0.mk (hb); have n1_ := Aside0.mk (ho); have n2_ := Aside0.mk (blk_grown (blk_alloc BZ.out _) hg (Kd.R_ne HO.out BZ.out (by decide))); clear HB HO BZ; have HB := n0_; have HO := n1_; have BZ := n2_; clear n0_ n1_ n2_; clear hb ho hg hat))
      go_roundg (xs.length - (i + 1))
      case measure => have := hlen.out; have := HI.out; omega
      case rel => exact ⟨i + 1, xi + 1, by rw [hw1], ⟨⟨by have := HI.out; omega, by have := hlen.out; omega, rfl⟩⟩, ⟨by (with_reducible repeat (first | apply Kd.R_alloc | apply Kd.R_drewN | apply Kd.R_drew)); exact HO.out⟩, ⟨by (with_reducible repeat (first | refine blk_drewN ?_ _ | refine blk_drew ?_ | refine blk_alloc ?_ _)); exact BZ.out⟩, ⟨by repeat (first | (with_reducible first | exact HB.out | apply below_alloc | apply pw_below_drewN | apply below_drew1) | exact HB.out)⟩⟩
    · have c1 : decide (xi < (xs.length : Int)) = false := decide_eq_false (by have := HI.out; omega)
      have HW := Aside0.mk (show xs.take i = xs from List.take_of_length_le (by omega))
      rw [HW.out] at HO
      obtain ⟨A3, c3, e3⟩ := Kd.R_slice HO.out
      cases e3
      clear hi HW
      go_wp2_with (go_at_call 32; refine (table A3 (rws xs).length c3 _).mono ?_; rintro e w2 ⟨rfl, hb⟩; have n0_ := Aside0.mk (below_step (by repeat (first | (with_reducible first | exact HB.out | apply below_alloc | apply pw_below_drewN | apply below_drew1) | exact HB.out)) hb); have n1_ := Aside0.mk (Kd.R_below (by (with_reducible repeat (first | apply Kd.R_alloc | apply Kd.R_drewN | apply Kd.R_drew)); exact HO.out) hb); have n2_ := Aside0.mk (blk_below (by (with_reducible repeat (first | refine blk_drewN ?_ _ | refine blk_drew ?_ | refine blk_alloc ?_ _)); exact BZ.out) hb); clear HB HO BZ; have HB := n0_; have HO := n1_; have BZ := n2_; clear n0_ n1_ n2_; clear hb; have hcz0 : w2.cell? ⟨w.heap.size, 0, none⟩ = some (.int .i64 0) := blk_cell BZ.out 0; have hfz0 : w2.frozen? ⟨w.heap.size, 0, none⟩ = false := blk_frozen BZ.out 0; have hcz1 : w2.cell? ⟨w.heap.size, 1, none⟩ = some (.int .i64 0) := blk_cell BZ.out 1; have hfz1 : w2.frozen? ⟨w.heap.size, 1, none⟩ = false := blk_frozen BZ.out 1; have hcz2 : w2.cell? ⟨w.heap.size, 2, none⟩ = some (.int .i64 0) := blk_cell BZ.out 2; have hfz2 : w2.frozen? ⟨w.heap.size, 2, none⟩ = false := blk_frozen BZ.out 2; have hcz3 : w2.cell? ⟨w.heap.size, 3, none⟩ = some (.string ⟨#[]⟩) := blk_cell BZ.out 3; have hfz3 : w2.frozen? ⟨w.heap.size, 3, none⟩ = false := blk_frozen BZ.out 3; have hcz4 : w2.cell? ⟨w.heap.size, 4, none⟩ = some (.slice none 0 0) := blk_cell BZ.out 4; have hfz4 : w2.frozen? ⟨w.heap.size, 4, none⟩ = false := blk_frozen BZ.out 4)
      refine bodyPost_ret (results_cell_row rfl _ _ w.heap.size 48 #[.int .i64 5, .int .i64 0, .int .i64 0, .string ⟨#[]⟩, .slice A3 (rws xs).length c3] (0, 0) _ rfl (show (Flt.sets w2 w.heap.size 0 [.int .i64 5, .int .i64 0, .int .i64 0, .string ⟨#[]⟩, .slice A3 (rws xs).length c3]).heap[w.heap.size]? = some (.cells #[.int .i64 5, .int .i64 0, .int .i64 0, .string ⟨#[]⟩, .slice A3 (rws xs).length c3] 48 (0, 0)) from Flt.sets_all [.int .i64 5, .int .i64 0, .int .i64 0, .string ⟨#[]⟩, .slice A3 (rws xs).length c3] BZ.out rfl) Try.underlying48 rfl (by kernel_rfl)) rfl ?_
      refine ⟨_, by rfl, ?_, (show Below w.heap.size w (Flt.sets w2 w.heap.size 0 [.int .i64 5, .int .i64 0, .int .i64 0, .string ⟨#[]⟩, .slice A3 (rws xs).length c3]) from Flt.sets_below (Nat.le_refl _) _ _ _ HB.out)⟩
      exact (show (kCol 48 kS).R 50 (Flt.sets w2 w.heap.size 0 [.int .i64 5, .int .i64 0, .int .i64 0, .string ⟨#[]⟩, .slice A3 (rws xs).length c3]) _ _ _ _ from Kd.R_mono (Kd.R_step HO.out (fun k hk _ => Flt.sets_far hk _ _ _)) (fun _ _ => trivial))
end Go.Proofs.Ytjefbpfpobgmaaa.FrL
