/- FnFrequency, walks: lists of numbers from one type into another. Conditions: the numbers' sizes. -/
import Derived.Test.YtjefbpfpobgmaaaFrL
import Derived.Test.YtjefbpfpobgmaaaFrC
import Derived.Test.YtjefbpfpobgmaaaFrD
namespace Go.Proofs.Ytjefbpfpobgmaaa.FrM
open Go.RowKit Go.Proofs.YtjefbpfpobgmaaaW.PrintWords Go.Proofs.YtjefbpfpobgmaaaW.PrintLast Go.Proofs.YtjefbpfpobgmaaaW.PrintMore Go.Proofs.Ytjefbpfpobgmaaa.FrA Go.Proofs.Ytjefbpfpobgmaaa.FrB Go.Proofs.Ytjefbpfpobgmaaa.FrK Go.Proofs.Ytjefbpfpobgmaaa.FrL Go.Proofs.Ytjefbpfpobgmaaa.FrC Go.Proofs.Ytjefbpfpobgmaaa.FrD
set_option linter.unusedVariables false
set_option linter.unusedSimpArgs false
attribute [local go_sem] Flt.run_store_float
theorem at_S {w : World} {A : Option Addr} {n : Nat} {xs : List Int} (h : kS.C w A n xs) (i : Int) (h0 : 0 ≤ i) (h1 : i < (n : Int)) : ∃ ad, A = some ad ∧ (∀ u, (eS (rd xs i))[0]? = some u → w.cell? (ad.add (i.toNat * 5)) = some u) ∧ ∀ j u, 0 < j → (eS (rd xs i))[j]? = some u → w.cell? ⟨(ad.add (i.toNat * 5)).block, (ad.add (i.toNat * 5)).off + j, none⟩ = some u := by
  obtain ⟨ad, c, e, _, hK, hc0⟩ := Kd.C_get h 0 i h0 h1
  have hK' : c = eS (rd xs i) := hK
  subst hK'
  exact ⟨ad, e, fun u hu => hc0 0 u hu, fun j u hp hj => by rw [← add_field _ _ j hp]; exact hc0 j u hj⟩
theorem at_I {w : World} {A : Option Addr} {n : Nat} {xs : List Int} (h : kI.C w A n xs) (i : Int) (h0 : 0 ≤ i) (h1 : i < (n : Int)) : ∃ ad, A = some ad ∧ (∀ u, (eI (rd xs i))[0]? = some u → w.cell? (ad.add (i.toNat * 4)) = some u) ∧ ∀ j u, 0 < j → (eI (rd xs i))[j]? = some u → w.cell? ⟨(ad.add (i.toNat * 4)).block, (ad.add (i.toNat * 4)).off + j, none⟩ = some u := by
  obtain ⟨ad, c, e, _, hK, hc0⟩ := Kd.C_get h 0 i h0 h1
  have hK' : c = eI (rd xs i) := hK
  subst hK'
  exact ⟨ad, e, fun u hu => hc0 0 u hu, fun j u hp hj => by rw [← add_field _ _ j hp]; exact hc0 j u hj⟩
theorem at_A {w : World} {A : Option Addr} {n : Nat} {xs : List Int} (h : kA.C w A n xs) (i : Int) (h0 : 0 ≤ i) (h1 : i < (n : Int)) : ∃ ad, A = some ad ∧ (∀ u, (eA (rd xs i))[0]? = some u → w.cell? (ad.add (i.toNat * 10)) = some u) ∧ ∀ j u, 0 < j → (eA (rd xs i))[j]? = some u → w.cell? ⟨(ad.add (i.toNat * 10)).block, (ad.add (i.toNat * 10)).off + j, none⟩ = some u := by
  obtain ⟨ad, c, e, _, hK, hc0⟩ := Kd.C_get h 0 i h0 h1
  have hK' : c = eA (rd xs i) := hK
  subst hK'
  exact ⟨ad, e, fun u hu => hc0 0 u hu, fun j u hp hj => by rw [← add_field _ _ j hp]; exact hc0 j u hj⟩
set_option maxHeartbeats 4000000 in
set_option maxRecDepth 100000 in
theorem all_nums (xs : List Int) (hx : ∀ x ∈ xs, -500 ≤ x ∧ x ≤ 500) (hn : xs.length ≤ 100) (A : Option Addr) (c : Nat) (w : World) (hr0 : kS.C w A xs.length xs) :
    Calls Try.prog 18 #[.slice A xs.length c] w fun e w' => ∃ v, e = .returned v ∧ kI.R 42 w' w.heap.size (fun _ => True) v xs ∧ Below w.heap.size w w' := by
  have HR0 := Aside0.mk hr0
  have HX := Aside0.mk hx
  have HN := Aside0.mk hn
  clear hr0 hx hn
  have HB := Aside0.mk (Below.refl w.heap.size w)
  go_enter Try.func18, Try.ntmps18
  go_wp2
  go_loopg [3, 4] (xs.length) (fun kq v3 v4 w' => ∃ (i : Nat) (xi : Int), v4 = .int .i64 xi ∧ Aside0 (xi = i ∧ i ≤ xs.length ∧ kq = xs.length - i) ∧ Aside0 (kI.R 42 w' w.heap.size (fun _ => True) v3 (xs.take i)) ∧ Aside0 (Below w.heap.size w w'))
  case atStart => exact ⟨0, 0, rfl, ⟨⟨rfl, Nat.zero_le _, rfl⟩⟩, ⟨Kd.R_nil _ _ _ _ _⟩, ⟨by repeat (first | (with_reducible first | exact HB.out | apply below_alloc | apply pw_below_drewN | apply below_drew1) | exact HB.out)⟩⟩
  case round =>
    obtain ⟨i, xi, rfl, HI, HO, HB⟩ := hrel
    by_cases hi : i < xs.length
    · have q1 : xi < (xs.length : Int) := by have := HI.out; omega
      have p1 : 0 ≤ xi := by have := HI.out; omega
      have c1 : decide (xi < (xs.length : Int)) = true := decide_eq_true q1
      obtain ⟨ad1, rfl, hx⟩ := at_S HR0.out xi p1 q1
      obtain ⟨x, hxe⟩ : ∃ x, x = rd xs xi := ⟨_, rfl⟩
      rw [← hxe] at hx
      have hgx : xs[i]? = some x := by
        have h1 := HI.out.1
        subst h1
        rw [hxe, List.getElem?_eq_getElem hi]
        simp [rd, List.getD_eq_getElem?_getD, hi]
      have HX1 := Aside0.mk (HX.out x (List.mem_of_getElem? hgx))
      have HW := Aside0.mk (show xs.take (i + 1) = xs.take i ++ [x] by rw [List.take_add_one, hgx]; rfl)
      have hce0 := hx.1 _ rfl
      replace hce0 := (HB.out.cell (World.block_lt_of_cell? w _ hce0)).trans hce0
      have hce1 := hx.2 1 _ (by decide) rfl
      replace hce1 := (HB.out.cell (World.block_lt_of_cell? w _ hce1)).trans hce1
      have hce2 := hx.2 2 _ (by decide) rfl
      replace hce2 := (HB.out.cell (World.block_lt_of_cell? w _ hce2)).trans hce2
      have hce3 := hx.2 3 _ (by decide) rfl
      replace hce3 := (HB.out.cell (World.block_lt_of_cell? w _ hce3)).trans hce3
      have hce4 := hx.2 4 _ (by decide) rfl
      replace hce4 := (HB.out.cell (World.block_lt_of_cell? w _ hce4)).trans hce4
      have p1' := eq_true p1
      have q1' := eq_true q1
      have hw1 : wrap64 (xi + 1) = xi + 1 := by have := HN.out; unfold wrap64; omega
      have hlen := Aside0.mk hi
      clear hi hxe hgx p1 q1 hx
      go_wp2_with (first
        | (go_at_call 27; refine (of_num x (by have := HX1.out; omega) _).mono ?_; rintro e w2 ⟨rfl, hb⟩; have n0_ := Aside0.mk (below_step (by repeat (first | (with_reducible first | exact HB.out | apply below_alloc | apply pw_below_drewN | apply below_drew1) | exact HB.out)) hb); have n1_ := Aside0.mk (Kd.R_below (by (with_reducible repeat (first | apply Kd.R_alloc | apply Kd.R_drewN | apply Kd.R_drew)); exact HO.out) hb); clear HB HO; have HB := n0_; have HO := n1_; clear n0_ n1_; clear hb)
        | ((with_reducible refine gate_builtin (b := .append) (xs := #[.tmp 11, .tmp 17]) rfl ?_); at_builtin; refine Kd.R_append (kI) (w0 := w) (w.heap.size) rfl (.tmp 11) (.tmp 17) 44 42 (.agg #[.int .i64 0, .float .f64 0, .string ⟨#[]⟩, .slice none 0 0]) 56 rfl Try.underlying44 info42 rfl (by decide) (by omega) u3 (xs.take i) x (eI x) (fun _ => True) (fun _ => False) rfl (by first | (go_simp; done) | (go_simp; rfl)) (show kI.M _ _ _ x (eI x) from rfl) (fun k hk => hk.elim) (fun _ _ => trivial) (HO.out) (HB.out) (below_size (HB.out)) ?aL ?_; (case aL => have := HN.out; have := HI.out; have := List.length_take_le i xs; omega); intro v1 w3 ho hb hg hat; rw [← HW.out] at ho; have n0_ := Aside0.mk (hb); have n1_ := Aside0.mk (ho); clear HB HO; have HB := n0_; have HO := n1_; clear n0_ n1_; clear hb ho hg hat))
      go_roundg (xs.length - (i + 1))
      case measure => have := hlen.out; have := HI.out; omega
      case rel => exact ⟨i + 1, xi + 1, by rw [hw1], ⟨⟨by have := HI.out; omega, by have := hlen.out; omega, rfl⟩⟩, ⟨by (with_reducible repeat (first | apply Kd.R_alloc | apply Kd.R_drewN | apply Kd.R_drew)); exact HO.out⟩, ⟨by repeat (first | (with_reducible first | exact HB.out | apply below_alloc | apply pw_below_drewN | apply below_drew1) | exact HB.out)⟩⟩
    · have c1 : decide (xi < (xs.length : Int)) = false := decide_eq_false (by have := HI.out; omega)
      have HW := Aside0.mk (show xs.take i = xs from List.take_of_length_le (by omega))
      rw [HW.out] at HO
      clear hi HW
      go_wp2
      go_ret
      exact ⟨_, by rfl, HO.out, HB.out⟩
set_option maxHeartbeats 4000000 in
set_option maxRecDepth 100000 in
theorem in_nums (xs : List Int) (hx : ∀ x ∈ xs, -500 ≤ x ∧ x ≤ 500) (hn : xs.length ≤ 100) (A : Option Addr) (c : Nat) (w : World) (hr0 : kI.C w A xs.length xs) :
    Calls Try.prog 30 #[.slice A xs.length c] w fun e w' => ∃ v, e = .returned v ∧ kI.R 62 w' w.heap.size (fun _ => True) v xs ∧ Below w.heap.size w w' := by
  have HR0 := Aside0.mk hr0
  have HX := Aside0.mk hx
  have HN := Aside0.mk hn
  clear hr0 hx hn
  have HB := Aside0.mk (Below.refl w.heap.size w)
  go_enter Try.func30, Try.ntmps30
  go_wp2
  go_loopg [3, 11] (xs.length) (fun kq v3 v11 w' => ∃ (i : Nat) (xi : Int), v11 = .int .i64 xi ∧ Aside0 (xi = i ∧ i ≤ xs.length ∧ kq = xs.length - i) ∧ Aside0 (kI.R 62 w' w.heap.size (fun _ => True) v3 (xs.take i)) ∧ Aside0 (Below w.heap.size w w'))
  case atStart => exact ⟨0, 0, rfl, ⟨⟨rfl, Nat.zero_le _, rfl⟩⟩, ⟨Kd.R_nil _ _ _ _ _⟩, ⟨by repeat (first | (with_reducible first | exact HB.out | apply below_alloc | apply pw_below_drewN | apply below_drew1) | exact HB.out)⟩⟩
  case round =>
    obtain ⟨i, xi, rfl, HI, HO, HB⟩ := hrel
    by_cases hi : i < xs.length
    · have q1 : xi < (xs.length : Int) := by have := HI.out; omega
      have p1 : 0 ≤ xi := by have := HI.out; omega
      have c1 : decide (xi < (xs.length : Int)) = true := decide_eq_true q1
      obtain ⟨ad1, rfl, hx⟩ := at_I HR0.out xi p1 q1
      obtain ⟨x, hxe⟩ : ∃ x, x = rd xs xi := ⟨_, rfl⟩
      rw [← hxe] at hx
      have hgx : xs[i]? = some x := by
        have h1 := HI.out.1
        subst h1
        rw [hxe, List.getElem?_eq_getElem hi]
        simp [rd, List.getD_eq_getElem?_getD, hi]
      have HX1 := Aside0.mk (HX.out x (List.mem_of_getElem? hgx))
      have HW := Aside0.mk (show xs.take (i + 1) = xs.take i ++ [x] by rw [List.take_add_one, hgx]; rfl)
      have hce0 := hx.1 _ rfl
      replace hce0 := (HB.out.cell (World.block_lt_of_cell? w _ hce0)).trans hce0
      have hce1 := hx.2 1 _ (by decide) rfl
      replace hce1 := (HB.out.cell (World.block_lt_of_cell? w _ hce1)).trans hce1
      have hce2 := hx.2 2 _ (by decide) rfl
      replace hce2 := (HB.out.cell (World.block_lt_of_cell? w _ hce2)).trans hce2
      have hce3 := hx.2 3 _ (by decide) rfl
      replace hce3 := (HB.out.cell (World.block_lt_of_cell? w _ hce3)).trans hce3
      have p1' := eq_true p1
      have q1' := eq_true q1
      have hw1 : wrap64 (xi + 1) = xi + 1 := by have := HN.out; unfold wrap64; omega
      have hlen := Aside0.mk hi
      clear hi hxe hgx p1 q1 hx
      go_wp2
      refine wp_loop_rounds 1 ?_
      rw [rounds_succ]
      go_wp2_with ((with_reducible refine gate_builtin (b := .append) (xs := #[.tmp 37, .tmp 39]) rfl ?_); at_builtin; refine Kd.R_append (kI) (w0 := w) (w.heap.size) rfl (.tmp 37) (.tmp 39) 64 62 (.agg #[.int .i64 0, .float .f64 0, .string ⟨#[]⟩, .slice none 0 0]) 56 rfl Try.underlying64 info62 rfl (by decide) (by omega) u3 (xs.take i) x (eI x) (fun _ => True) (fun _ => False) rfl (by first | (go_simp; done) | (go_simp; rfl)) (show kI.M _ _ _ x (eI x) from rfl) (fun k hk => hk.elim) (fun _ _ => trivial) (Kd.R_alloc (Kd.R_alloc (HO.out) _) _) (below_alloc (below_alloc (HB.out) _) _) (below_size (below_alloc (below_alloc (HB.out) _) _)) ?aL ?_; (case aL => have := HN.out; have := HI.out; have := List.length_take_le i xs; omega); intro v1 w3 ho hb hg hat; rw [← HW.out] at ho; have n0_ := Aside0.mk (hb); have n1_ := Aside0.mk (ho); clear HB HO; have HB := n0_; have HO := n1_; clear n0_ n1_; clear hb ho hg hat)
      go_roundg (xs.length - (i + 1))
      case measure => have := hlen.out; have := HI.out; omega
      case rel => exact ⟨i + 1, xi + 1, by rw [hw1], ⟨⟨by have := HI.out; omega, by have := hlen.out; omega, rfl⟩⟩, ⟨by (with_reducible repeat (first | apply Kd.R_alloc | apply Kd.R_drewN | apply Kd.R_drew)); exact HO.out⟩, ⟨by repeat (first | (with_reducible first | exact HB.out | apply below_alloc | apply pw_below_drewN | apply below_drew1) | exact HB.out)⟩⟩
    · have c1 : decide (xi < (xs.length : Int)) = false := decide_eq_false (by have := HI.out; omega)
      have HW := Aside0.mk (show xs.take i = xs from List.take_of_length_le (by omega))
      rw [HW.out] at HO
      clear hi HW
      go_wp2
      go_ret
      exact ⟨_, by rfl, HO.out, HB.out⟩
end Go.Proofs.Ytjefbpfpobgmaaa.FrM
