/- FnFrequency, walks: lists of columns from one type into another. Conditions: the numbers' sizes. -/
import Derived.Test.YtjefbpfpobgmaaaFrN
namespace Go.Proofs.Ytjefbpfpobgmaaa.FrO
open Go.RowKit Go.Proofs.YtjefbpfpobgmaaaW.PrintWords Go.Proofs.YtjefbpfpobgmaaaW.PrintLast Go.Proofs.YtjefbpfpobgmaaaW.PrintMore Go.Proofs.Ytjefbpfpobgmaaa.FrA Go.Proofs.Ytjefbpfpobgmaaa.FrB Go.Proofs.Ytjefbpfpobgmaaa.FrK Go.Proofs.Ytjefbpfpobgmaaa.FrL Go.Proofs.Ytjefbpfpobgmaaa.FrM Go.Proofs.Ytjefbpfpobgmaaa.FrN
set_option linter.unusedVariables false
set_option linter.unusedSimpArgs false
attribute [local go_sem] Flt.run_store_float
def rdc (cs : List (List Int)) (i : Int) : List Int := cs.getD i.toNat []
theorem at_VS {w : World} {A : Option Addr} {n : Nat} {cs : List (List Int)} (h : (kVS 50 48).C w A n cs) (i : Int) (h0 : 0 ≤ i) (h1 : i < (n : Int)) : ∃ ad A1 c1, A = some ad ∧ w.cell? (ad.add (i.toNat * 5)) = some (.int .i64 5) ∧ w.cell? ⟨(ad.add (i.toNat * 5)).block, (ad.add (i.toNat * 5)).off + 1, none⟩ = some (.int .i64 0) ∧ w.cell? ⟨(ad.add (i.toNat * 5)).block, (ad.add (i.toNat * 5)).off + 2, none⟩ = some (.int .i64 0) ∧ w.cell? ⟨(ad.add (i.toNat * 5)).block, (ad.add (i.toNat * 5)).off + 3, none⟩ = some (.string ⟨#[]⟩) ∧ w.cell? ⟨(ad.add (i.toNat * 5)).block, (ad.add (i.toNat * 5)).off + 4, none⟩ = some (.slice A1 (rdc cs i).length c1) ∧ (rdc cs i).length ≤ c1 ∧ (kCol 48 kS).C w A1 (rdc cs i).length (rws (rdc cs i)) := by
  obtain ⟨ad, c, e, _, ⟨c', rfl, A1, c1, rfl, hl, hr⟩, hc0⟩ := Kd.C_get h [] i h0 h1
  rw [rws_len] at hl hr hc0
  refine ⟨ad, A1, c1, e, ?_, ?_, ?_, ?_, ?_, hl, hr⟩
  · exact hc0 0 _ rfl
  · rw [← add_field _ _ 1 (by decide)]; exact hc0 1 _ rfl
  · rw [← add_field _ _ 2 (by decide)]; exact hc0 2 _ rfl
  · rw [← add_field _ _ 3 (by decide)]; exact hc0 3 _ rfl
  · rw [← add_field _ _ 4 (by decide)]; exact hc0 4 _ rfl
theorem at_VI {w : World} {A : Option Addr} {n : Nat} {cs : List (List Int)} (h : (kVI 44 42).C w A n cs) (i : Int) (h0 : 0 ≤ i) (h1 : i < (n : Int)) : ∃ ad A1 c1, A = some ad ∧ w.cell? (ad.add (i.toNat * 4)) = some (.int .i64 5) ∧ w.cell? ⟨(ad.add (i.toNat * 4)).block, (ad.add (i.toNat * 4)).off + 1, none⟩ = some (.float .f64 0) ∧ w.cell? ⟨(ad.add (i.toNat * 4)).block, (ad.add (i.toNat * 4)).off + 2, none⟩ = some (.string ⟨#[]⟩) ∧ w.cell? ⟨(ad.add (i.toNat * 4)).block, (ad.add (i.toNat * 4)).off + 3, none⟩ = some (.slice A1 (rdc cs i).length c1) ∧ (rdc cs i).length ≤ c1 ∧ (kCol 42 kI).C w A1 (rdc cs i).length (rws (rdc cs i)) := by
  obtain ⟨ad, c, e, _, ⟨c', rfl, A1, c1, rfl, hl, hr⟩, hc0⟩ := Kd.C_get h [] i h0 h1
  rw [rws_len] at hl hr hc0
  refine ⟨ad, A1, c1, e, ?_, ?_, ?_, ?_, hl, hr⟩
  · exact hc0 0 _ rfl
  · rw [← add_field _ _ 1 (by decide)]; exact hc0 1 _ rfl
  · rw [← add_field _ _ 2 (by decide)]; exact hc0 2 _ rfl
  · rw [← add_field _ _ 3 (by decide)]; exact hc0 3 _ rfl
set_option maxHeartbeats 4000000 in
set_option maxRecDepth 100000 in
theorem all_cols (cs : List (List Int)) (hx : (∀ x ∈ cs, x.length ≤ 100 ∧ ∀ y ∈ x, -500 ≤ y ∧ y ≤ 500)) (hn : cs.length ≤ 100) (A : Option Addr) (c : Nat) (w : World) (hr0 : (kVS 50 48).C w A cs.length cs) :
    Calls Try.prog 18 #[.slice A cs.length c] w fun e w' => ∃ v, e = .returned v ∧ (kVI 44 42).R 42 w' w.heap.size (fun _ => True) v cs ∧ Below w.heap.size w w' := by
  have HR0 := Aside0.mk hr0
  have HX := Aside0.mk hx
  have HN := Aside0.mk hn
  clear hr0 hx hn
  have HB := Aside0.mk (Below.refl w.heap.size w)
  go_enter Try.func18, Try.ntmps18
  go_wp2
  go_loopg [3, 4] (cs.length) (fun kq v3 v4 w' => ∃ (i : Nat) (xi : Int), v4 = .int .i64 xi ∧ Aside0 (xi = i ∧ i ≤ cs.length ∧ kq = cs.length - i) ∧ Aside0 ((kVI 44 42).R 42 w' w.heap.size (fun _ => True) v3 (cs.take i)) ∧ Aside0 (Below w.heap.size w w'))
  case atStart => exact ⟨0, 0, rfl, ⟨⟨rfl, Nat.zero_le _, rfl⟩⟩, ⟨Kd.R_nil _ _ _ _ _⟩, ⟨by repeat (first | (with_reducible first | exact HB.out | apply below_alloc | apply pw_below_drewN | apply below_drew1) | exact HB.out)⟩⟩
  case round =>
    obtain ⟨i, xi, rfl, HI, HO, HB⟩ := hrel
    by_cases hi : i < cs.length
    · have q1 : xi < (cs.length : Int) := by have := HI.out; omega
      have p1 : 0 ≤ xi := by have := HI.out; omega
      have c1 : decide (xi < (cs.length : Int)) = true := decide_eq_true q1
      obtain ⟨ad1, A1, c1, rfl, hce0, hce1, hce2, hce3, hce4, hc1, hC1⟩ := at_VS HR0.out xi p1 q1
      obtain ⟨x, hxe⟩ : ∃ x, x = rdc cs xi := ⟨_, rfl⟩
      rw [← hxe] at hce4 hC1
      have hgx : cs[i]? = some x := by
        have h1 := HI.out.1
        subst h1
        rw [hxe, List.getElem?_eq_getElem hi]
        simp [rdc, List.getD_eq_getElem?_getD, hi]
      have HX1 := Aside0.mk (HX.out x (List.mem_of_getElem? hgx))
      have HW := Aside0.mk (show cs.take (i + 1) = cs.take i ++ [x] by rw [List.take_add_one, hgx]; rfl)
      have HC1 := Aside0.mk (Kd.C_below hC1 HB.out)
      replace hce0 := (HB.out.cell (World.block_lt_of_cell? w _ hce0)).trans hce0
      replace hce1 := (HB.out.cell (World.block_lt_of_cell? w _ hce1)).trans hce1
      replace hce2 := (HB.out.cell (World.block_lt_of_cell? w _ hce2)).trans hce2
      replace hce3 := (HB.out.cell (World.block_lt_of_cell? w _ hce3)).trans hce3
      replace hce4 := (HB.out.cell (World.block_lt_of_cell? w _ hce4)).trans hce4
      have p1' := eq_true p1
      have q1' := eq_true q1
      have hw1 : wrap64 (xi + 1) = xi + 1 := by have := HN.out; unfold wrap64; omega
      have hlen := Aside0.mk hi
      clear hi hxe hgx p1 q1 hC1
      go_wp2_with (first
        | (go_at_call 27; refine (of_col x HX1.out.2 HX1.out.1 A1 c1 _ HC1.out).mono ?_; rintro e w6 ⟨v6, rfl, ho6, hb⟩; obtain ⟨A6, c6, e6⟩ := Kd.R_slice ho6; replace e6 : v6 = .slice A6 (rws x).length c6 := e6; subst e6; have LT := Aside0.mk (Kd.R_lt HO.out); have G6 := Aside0.mk hb.size; have HM := Aside0.mk (show (kVI 44 42).M w6 w.heap.size (fun k => wr.heap.size ≤ k) x [.int .i64 5, .float .f64 0, .string ⟨#[]⟩, .slice A6 (rws x).length c6] from ⟨[.slice A6 (rws x).length c6], rfl, _, rfl, Kd.R_lower (Kd.R_mono (Kd.R_bound ho6) (fun k hk => hk.2.1)) (below_size HB.out)⟩); clear ho6; have n0_ := Aside0.mk (below_step (by repeat (first | (with_reducible first | exact HB.out | apply below_alloc | apply pw_below_drewN | apply below_drew1) | exact HB.out)) hb); have n1_ := Aside0.mk (Kd.R_below (by (with_reducible repeat (first | apply Kd.R_alloc | apply Kd.R_drewN | apply Kd.R_drew)); exact HO.out) hb); clear HB HO; have HB := n0_; have HO := n1_; clear n0_ n1_; clear hb)
        | ((with_reducible refine gate_builtin (b := .append) (xs := #[.tmp 11, .tmp 17]) rfl ?_); at_builtin; refine Kd.R_append (kVI 44 42) (w0 := w) (w.heap.size) rfl (.tmp 11) (.tmp 17) 44 42 (.agg #[.int .i64 0, .float .f64 0, .string ⟨#[]⟩, .slice none 0 0]) 56 rfl Try.underlying44 info42 rfl (by decide) (by omega) u3 (cs.take i) x [.int .i64 5, .float .f64 0, .string ⟨#[]⟩, .slice A6 (rws x).length c6] (fun _ => True) (fun k => wr.heap.size ≤ k) rfl (by first | (go_simp; done) | (go_simp; rfl)) (HM.out) (fun k hk => ⟨trivial, fun he => Nat.lt_irrefl k (Nat.lt_of_lt_of_le (LT.out k he.symm) hk)⟩) (fun _ _ => trivial) (HO.out) (HB.out) (below_size (HB.out)) ?aL ?_; (case aL => have := HN.out; have := HI.out; have := List.length_take_le i cs; omega); intro v1 w3 ho hb hg hat; rw [← HW.out] at ho; have n0_ := Aside0.mk (hb); have n1_ := Aside0.mk (ho); clear HB HO; have HB := n0_; have HO := n1_; clear n0_ n1_; clear hb ho hg hat))
      go_roundg (cs.length - (i + 1))
      case measure => have := hlen.out; have := HI.out; omega
      case rel => exact ⟨i + 1, xi + 1, by rw [hw1], ⟨⟨by have := HI.out; omega, by have := hlen.out; omega, rfl⟩⟩, HO, HB⟩
    · have c1 : decide (xi < (cs.length : Int)) = false := decide_eq_false (by have := HI.out; omega)
      have HW := Aside0.mk (show cs.take i = cs from List.take_of_length_le (by omega))
      rw [HW.out] at HO
      clear hi HW
      go_wp2
      go_ret
      exact ⟨_, by rfl, HO.out, HB.out⟩
end Go.Proofs.Ytjefbpfpobgmaaa.FrO
