/- FnFrequency, walks: FREQUENCY through the package's door and through the thin package. Conditions: the numbers' sizes, bins in increasing order. -/
import Derived.Test.YtjefbpfpobgmaaaFrX
import Derived.Test.YtjefbpfpobgmaaaFrY
import Derived.Test.YtjefbpfpobgmaaaFrZ
import Derived.Test.YtjefbpfpobgmaaaFsB
namespace Go.Proofs.Ytjefbpfpobgmaaa.FsD
open Go.RowKit Go.Proofs.YtjefbpfpobgmaaaW.PrintWords Go.Proofs.YtjefbpfpobgmaaaW.PrintLast Go.Proofs.YtjefbpfpobgmaaaW.PrintMore Go.Proofs.Ytjefbpfpobgmaaa.FrA Go.Proofs.Ytjefbpfpobgmaaa.FrB Go.Proofs.Ytjefbpfpobgmaaa.FrK Go.Proofs.Ytjefbpfpobgmaaa.FrL Go.Proofs.Ytjefbpfpobgmaaa.FrM Go.Proofs.Ytjefbpfpobgmaaa.FrN Go.Proofs.Ytjefbpfpobgmaaa.FrO Go.Proofs.Ytjefbpfpobgmaaa.FrP Go.Proofs.Ytjefbpfpobgmaaa.FrR Go.Proofs.Ytjefbpfpobgmaaa.FrS Go.Proofs.Ytjefbpfpobgmaaa.FrW Go.Proofs.Ytjefbpfpobgmaaa.FrX Go.Proofs.Ytjefbpfpobgmaaa.FrY Go.Proofs.Ytjefbpfpobgmaaa.FrZ Go.Proofs.Ytjefbpfpobgmaaa.FsB
set_option linter.unusedVariables false
set_option linter.unusedSimpArgs false
attribute [local go_sem] Flt.run_store_float
theorem counts_len (xs ys : List Int) : (counts xs ys).length = ys.length + 1 := by simp [counts]
theorem counts_ok {xs ys : List Int} (hn : xs.length ≤ 100) (hs : ys.Pairwise (· < ·)) : ∀ z ∈ counts xs ys, -500 ≤ z ∧ z ≤ 500 := by
  intro z hz
  rw [← counts_made hs] at hz
  obtain ⟨j, _, rfl⟩ := List.mem_map.1 hz
  have : cb ys xs j ≤ xs.length := List.countP_le_length
  omega
set_option maxHeartbeats 4000000 in
set_option maxRecDepth 100000 in
theorem door_funcs (w : World) : Calls Try.prog 40 #[] w fun e w' => ∃ b : Nat, e = .returned (.pointer (some ⟨b, 0, none⟩)) ∧ Below w.heap.size w w' := by
  have HB := Aside0.mk (Below.refl w.heap.size w)
  go_enter Try.func40, Try.ntmps40
  go_wp2
  go_ret
  exact ⟨_, by rfl, below_alloc HB.out _⟩
set_option maxHeartbeats 4000000 in
set_option maxRecDepth 100000 in
theorem door_frequency (xs ys : List Int) (hx : ∀ x ∈ xs, -500 ≤ x ∧ x ≤ 500) (hn : xs.length ≤ 100) (hp : xs ≠ []) (hy : ∀ x ∈ ys, -500 ≤ x ∧ x ≤ 500) (hm : ys.length ≤ 100) (hq : ys ≠ []) (hs : ys.Pairwise (· < ·)) (g c : Nat) (w : World) (hr0 : (kVI 64 62).C w (some ⟨g, 0, none⟩) 2 [xs, ys]) :
    Calls Try.prog 29 #[.slice (some ⟨g, 0, none⟩) 2 c] w fun e w' => ∃ A' c', e = .returned (.agg #[.int .i64 5, .float .f64 0, .string ⟨#[]⟩, .slice A' (counts xs ys).length c']) ∧ (kCol 62 kI).R 64 w' w.heap.size (fun _ => True) (.slice A' (counts xs ys).length c') (rws (counts xs ys)) ∧ Below w.heap.size w w' := by
  have HX := Aside0.mk (And.intro hx (And.intro hn hp))
  have HY := Aside0.mk (And.intro hy (And.intro hm (And.intro hq hs)))
  have HR := Aside0.mk (Kd.C_alloc hr0 (.cells #[.int .i64 0, .float .f64 0, .string ⟨#[]⟩, .slice none 0 0] 62))
  have HB := Aside0.mk (below_alloc (Below.refl w.heap.size w) (.cells #[.int .i64 0, .float .f64 0, .string ⟨#[]⟩, .slice none 0 0] 62))
  have BR := Aside0.mk (blk_new w (.cells #[.int .i64 0, .float .f64 0, .string ⟨#[]⟩, .slice none 0 0] 62))
  clear hx hn hp hy hm hq hs hr0
  go_enter Try.func29, Try.ntmps29
  go_wp2_with (first
    | (go_at_call 40; (with_reducible refine (door_funcs _).mono ?_); rintro e w1 ⟨b, rfl, hb⟩; have n0_ := Aside0.mk (below_step HB.out hb); have n1_ := Aside0.mk (blk_below BR.out hb); clear HB BR; have HB := n0_; have BR := n1_; clear n0_ n1_; have n0_ := Aside0.mk (Kd.C_below HR.out hb); clear HR hb; have HR := n0_; clear n0_)
    | (go_at_call 42; (with_reducible refine (list_two xs ys HX.out.1 HX.out.2.1 HX.out.2.2 HY.out.1 HY.out.2.1 HY.out.2.2.1 g c _ HR.out).mono ?_); rintro e w2 ⟨l, f, h, A1, A2, c1, c2, p1, q1, p2, q2, rfl, hl, hf, hh, hC1, hC2, hb⟩; have n0_ := Aside0.mk (below_step HB.out hb); have n1_ := Aside0.mk (blk_below BR.out hb); clear HB BR; have HB := n0_; have BR := n1_; clear n0_ n1_; have HL := Aside0.mk hl; have HF := Aside0.mk hf; have HH := Aside0.mk hh; have HC1 := Aside0.mk hC1; have HC2 := Aside0.mk hC2; clear hl hf hh hC1 hC2 hb)
    | (go_at_call 41; (with_reducible refine (frequency xs ys HX.out.1 HX.out.2.1 HX.out.2.2 HY.out.1 HY.out.2.1 HY.out.2.2.1 HY.out.2.2.2 b l f h A1 A2 c1 c2 p1 q1 p2 q2 _ HL.out HF.out HH.out HC1.out HC2.out).mono ?_); rintro e w3 ⟨v, rfl, ho, hb⟩; obtain ⟨A3, c3, e3⟩ := Kd.R_slice ho; rw [rws_len] at e3; subst e3; have HCF := Aside0.mk (show (kCol 96 kA).C w3 A3 (counts xs ys).length (rws (counts xs ys)) by have h_ := (Kd.R_reads' ho).2.2; rwa [rws_len] at h_); have n0_ := Aside0.mk (below_step HB.out hb); have n1_ := Aside0.mk (blk_below BR.out hb); clear HB BR; have HB := n0_; have BR := n1_; clear n0_ n1_; clear ho hb)
    | (go_at_call 39; (with_reducible refine (door_mat (counts xs ys) (counts_ok HX.out.2.1 HY.out.2.2.2) (by rw [counts_len]; have := HY.out.2.1; omega) A3 c3 _ HCF.out).mono ?_); rintro e w4 ⟨v, rfl, ho, hb⟩; obtain ⟨A4, c4, e4⟩ := Kd.R_slice ho; rw [rws_len] at e4; subst e4; have HO := Aside0.mk (Kd.R_mono (ok' := fun k => w.heap.size < k) (Kd.R_lower (Kd.R_bound ho) (below_size HB.out)) (fun k hk => Nat.lt_of_lt_of_le (blk_lt BR.out) hk.2.1)); have n0_ := Aside0.mk (below_step HB.out hb); have n1_ := Aside0.mk (blk_below BR.out hb); clear HB BR; have HB := n0_; have BR := n1_; clear n0_ n1_; clear ho hb; have hcr0 : w4.cell? ⟨w.heap.size, 0, none⟩ = some (.int .i64 0) := (blk_cell BR.out 0).trans rfl; have hfr0 : w4.frozen? ⟨w.heap.size, 0, none⟩ = false := blk_frozen BR.out 0; have hcr1 : w4.cell? ⟨w.heap.size, 1, none⟩ = some (.float .f64 0) := (blk_cell BR.out 1).trans rfl; have hfr1 : w4.frozen? ⟨w.heap.size, 1, none⟩ = false := blk_frozen BR.out 1; have hcr2 : w4.cell? ⟨w.heap.size, 2, none⟩ = some (.string ⟨#[]⟩) := (blk_cell BR.out 2).trans rfl; have hfr2 : w4.frozen? ⟨w.heap.size, 2, none⟩ = false := blk_frozen BR.out 2; have hcr3 : w4.cell? ⟨w.heap.size, 3, none⟩ = some (.slice none 0 0) := (blk_cell BR.out 3).trans rfl; have hfr3 : w4.frozen? ⟨w.heap.size, 3, none⟩ = false := blk_frozen BR.out 3))
  refine bodyPost_ret (results_cell_row rfl _ _ w.heap.size 62 #[.int .i64 5, .float .f64 0, .string ⟨#[]⟩, .slice A4 (counts xs ys).length c4] (0, 0) _ rfl (show (Flt.sets w4 w.heap.size 0 [.int .i64 5, .float .f64 0, .string ⟨#[]⟩, .slice A4 (counts xs ys).length c4]).heap[w.heap.size]? = some (.cells #[.int .i64 5, .float .f64 0, .string ⟨#[]⟩, .slice A4 (counts xs ys).length c4] 62 (0, 0)) from Flt.sets_all [.int .i64 5, .float .f64 0, .string ⟨#[]⟩, .slice A4 (counts xs ys).length c4] BR.out rfl) Try.underlying62 rfl (by kernel_rfl)) rfl ?_
  refine ⟨_, _, by rfl, ?_, (show Below w.heap.size w (Flt.sets w4 w.heap.size 0 [.int .i64 5, .float .f64 0, .string ⟨#[]⟩, .slice A4 (counts xs ys).length c4]) from Flt.sets_below (Nat.le_refl _) _ _ _ HB.out)⟩
  exact (show (kCol 62 kI).R 64 (Flt.sets w4 w.heap.size 0 [.int .i64 5, .float .f64 0, .string ⟨#[]⟩, .slice A4 (counts xs ys).length c4]) _ _ _ _ from Kd.R_mono (Kd.R_step HO.out (fun k hk _ => Flt.sets_far (by have h_ : w.heap.size < k := hk; omega) _ _ _)) (fun _ _ => trivial))
theorem in_two (xs ys : List Int) (hx : ∀ x ∈ [xs, ys], x.length ≤ 100 ∧ ∀ y ∈ x, -500 ≤ y ∧ y ≤ 500) (A : Option Addr) (c : Nat) (w : World) (hr0 : (kVI 44 42).C w A 2 [xs, ys]) :
    Calls Try.prog 30 #[.slice A 2 c] w fun e w' => ∃ g cap, e = .returned (.slice (some ⟨g, 0, none⟩) 2 cap) ∧ (kVI 64 62).C w' (some ⟨g, 0, none⟩) 2 [xs, ys] ∧ Below w.heap.size w w' :=
  (in_cols [xs, ys] hx (by simp) A c w hr0).mono fun e w' ⟨v, he, ho, hb⟩ => by
    obtain ⟨g, cap, e1, _, _, _⟩ := Kd.R_form ho (by simp)
    subst e1
    exact ⟨g, cap, he, (Kd.R_reads' ho).2.2, hb⟩
theorem all_two (xs ys : List Int) (hx : ∀ x ∈ [xs, ys], x.length ≤ 100 ∧ ∀ y ∈ x, -500 ≤ y ∧ y ≤ 500) (A : Option Addr) (c : Nat) (w : World) (hr0 : (kVS 50 48).C w A 2 [xs, ys]) :
    Calls Try.prog 18 #[.slice A 2 c] w fun e w' => ∃ g cap, e = .returned (.slice (some ⟨g, 0, none⟩) 2 cap) ∧ (kVI 44 42).C w' (some ⟨g, 0, none⟩) 2 [xs, ys] ∧ Below w.heap.size w w' :=
  (all_cols [xs, ys] hx (by simp) A c w hr0).mono fun e w' ⟨v, he, ho, hb⟩ => by
    obtain ⟨g, cap, e1, _, _, _⟩ := Kd.R_form ho (by simp)
    subst e1
    exact ⟨g, cap, he, (Kd.R_reads' ho).2.2, hb⟩
set_option maxHeartbeats 4000000 in
set_option maxRecDepth 100000 in
theorem impl_frequency (xs ys : List Int) (hx : ∀ x ∈ xs, -500 ≤ x ∧ x ≤ 500) (hn : xs.length ≤ 100) (hp : xs ≠ []) (hy : ∀ x ∈ ys, -500 ≤ x ∧ x ≤ 500) (hm : ys.length ≤ 100) (hq : ys ≠ []) (hs : ys.Pairwise (· < ·)) (A : Option Addr) (c : Nat) (w : World) (hr0 : (kVI 44 42).C w A 2 [xs, ys]) :
    Calls Try.prog 17 #[.slice A 2 c] w fun e w' => ∃ A' c', e = .returned (.agg #[.int .i64 5, .float .f64 0, .string ⟨#[]⟩, .slice A' (counts xs ys).length c']) ∧ (kCol 42 kI).R 44 w' w.heap.size (fun _ => True) (.slice A' (counts xs ys).length c') (rws (counts xs ys)) ∧ Below w.heap.size w w' := by
  have HX := Aside0.mk (And.intro hx (And.intro hn hp))
  have HY := Aside0.mk (And.intro hy (And.intro hm (And.intro hq hs)))
  have HBD := Aside0.mk (show ∀ x ∈ [xs, ys], x.length ≤ 100 ∧ ∀ y ∈ x, -500 ≤ y ∧ y ≤ 500 by
    intro x hx0
    rcases List.mem_cons.1 hx0 with rfl | h1
    · exact ⟨hn, hx⟩
    · rw [List.mem_singleton.1 h1]; exact ⟨hm, hy⟩)
  have HR := Aside0.mk (Kd.C_alloc hr0 (.cells #[.int .i64 0, .float .f64 0, .string ⟨#[]⟩, .slice none 0 0] 42))
  have HB := Aside0.mk (below_alloc (Below.refl w.heap.size w) (.cells #[.int .i64 0, .float .f64 0, .string ⟨#[]⟩, .slice none 0 0] 42))
  have BR := Aside0.mk (blk_new w (.cells #[.int .i64 0, .float .f64 0, .string ⟨#[]⟩, .slice none 0 0] 42))
  clear hx hn hp hy hm hq hs hr0
  go_enter Try.func17, Try.ntmps17
  go_wp2_with (first
    | (go_at_call 30; (with_reducible refine (in_two xs ys HBD.out A c _ HR.out).mono ?_); rintro e w1 ⟨g, cap, rfl, ho, hb⟩; have HC := Aside0.mk ho; have n0_ := Aside0.mk (below_step HB.out hb); have n1_ := Aside0.mk (blk_below BR.out hb); clear HB BR; have HB := n0_; have BR := n1_; clear n0_ n1_; clear ho hb)
    | (go_at_call 29; (with_reducible refine (door_frequency xs ys HX.out.1 HX.out.2.1 HX.out.2.2 HY.out.1 HY.out.2.1 HY.out.2.2.1 HY.out.2.2.2 g cap _ HC.out).mono ?_); rintro e w2 ⟨A2, c2, rfl, ho, hb⟩; have HC2 := Aside0.mk (show (kCol 62 kI).C w2 A2 (counts xs ys).length (rws (counts xs ys)) by have h_ := (Kd.R_reads' ho).2.2; rwa [rws_len] at h_); have n0_ := Aside0.mk (below_step HB.out hb); have n1_ := Aside0.mk (blk_below BR.out hb); clear HB BR; have HB := n0_; have BR := n1_; clear n0_ n1_; clear ho hb)
    | (go_at_call 28; (with_reducible refine (out_col (counts xs ys) (counts_ok HX.out.2.1 HY.out.2.2.2) (by rw [counts_len]; have := HY.out.2.1; omega) A2 c2 _ HC2.out).mono ?_); rintro e w4 ⟨A4, c4, rfl, ho, hb⟩; have HO := Aside0.mk (Kd.R_mono (ok' := fun k => w.heap.size < k) (Kd.R_lower (Kd.R_bound ho) (below_size HB.out)) (fun k hk => Nat.lt_of_lt_of_le (blk_lt BR.out) hk.2.1)); have n0_ := Aside0.mk (below_step HB.out hb); have n1_ := Aside0.mk (blk_below BR.out hb); clear HB BR; have HB := n0_; have BR := n1_; clear n0_ n1_; clear ho hb; have hcr0 : w4.cell? ⟨w.heap.size, 0, none⟩ = some (.int .i64 0) := (blk_cell BR.out 0).trans rfl; have hfr0 : w4.frozen? ⟨w.heap.size, 0, none⟩ = false := blk_frozen BR.out 0; have hcr1 : w4.cell? ⟨w.heap.size, 1, none⟩ = some (.float .f64 0) := (blk_cell BR.out 1).trans rfl; have hfr1 : w4.frozen? ⟨w.heap.size, 1, none⟩ = false := blk_frozen BR.out 1; have hcr2 : w4.cell? ⟨w.heap.size, 2, none⟩ = some (.string ⟨#[]⟩) := (blk_cell BR.out 2).trans rfl; have hfr2 : w4.frozen? ⟨w.heap.size, 2, none⟩ = false := blk_frozen BR.out 2; have hcr3 : w4.cell? ⟨w.heap.size, 3, none⟩ = some (.slice none 0 0) := (blk_cell BR.out 3).trans rfl; have hfr3 : w4.frozen? ⟨w.heap.size, 3, none⟩ = false := blk_frozen BR.out 3))
  refine bodyPost_ret (results_cell_row rfl _ _ w.heap.size 42 #[.int .i64 5, .float .f64 0, .string ⟨#[]⟩, .slice A4 (counts xs ys).length c4] (0, 0) _ rfl (show (Flt.sets w4 w.heap.size 0 [.int .i64 5, .float .f64 0, .string ⟨#[]⟩, .slice A4 (counts xs ys).length c4]).heap[w.heap.size]? = some (.cells #[.int .i64 5, .float .f64 0, .string ⟨#[]⟩, .slice A4 (counts xs ys).length c4] 42 (0, 0)) from Flt.sets_all [.int .i64 5, .float .f64 0, .string ⟨#[]⟩, .slice A4 (counts xs ys).length c4] BR.out rfl) Try.underlying42 rfl (by kernel_rfl)) rfl ?_
  refine ⟨_, _, by rfl, ?_, (show Below w.heap.size w (Flt.sets w4 w.heap.size 0 [.int .i64 5, .float .f64 0, .string ⟨#[]⟩, .slice A4 (counts xs ys).length c4]) from Flt.sets_below (Nat.le_refl _) _ _ _ HB.out)⟩
  exact (show (kCol 42 kI).R 44 (Flt.sets w4 w.heap.size 0 [.int .i64 5, .float .f64 0, .string ⟨#[]⟩, .slice A4 (counts xs ys).length c4]) _ _ _ _ from Kd.R_mono (Kd.R_step HO.out (fun k hk _ => Flt.sets_far (by have h_ : w.heap.size < k := hk; omega) _ _ _)) (fun _ _ => trivial))
end Go.Proofs.Ytjefbpfpobgmaaa.FsD
