/- FnFrequency, walks: a column as its items, sorted by the number. Conditions: the numbers' sizes, a column that is not empty. -/
import Derived.Test.YtjefbpfpobgmaaaFrS
import Derived.Test.YtjefbpfpobgmaaaFrT
namespace Go.Proofs.Ytjefbpfpobgmaaa.FrU
open Go.RowKit Go.Proofs.YtjefbpfpobgmaaaW.PrintWords Go.Proofs.YtjefbpfpobgmaaaW.PrintLast Go.Proofs.YtjefbpfpobgmaaaW.PrintMore Go.Proofs.Ytjefbpfpobgmaaa.FrA Go.Proofs.Ytjefbpfpobgmaaa.FrB Go.Proofs.Ytjefbpfpobgmaaa.FrK Go.Proofs.Ytjefbpfpobgmaaa.FrL Go.Proofs.Ytjefbpfpobgmaaa.FrM Go.Proofs.Ytjefbpfpobgmaaa.FrR Go.Proofs.Ytjefbpfpobgmaaa.FrS Go.Proofs.Ytjefbpfpobgmaaa.FrT
set_option linter.unusedVariables false
set_option linter.unusedSimpArgs false
attribute [local go_sem] Flt.run_store_float
def toSm (x : Int) : Sm := if h : -500 ≤ x ∧ x ≤ 500 then ⟨x, h⟩ else default
theorem toSm_val {x : Int} (h : -500 ≤ x ∧ x ≤ 500) : (toSm x).1 = x := by unfold toSm; rw [dif_pos h]
/-- A column's numbers with their places. -/
def items (xs : List Int) : List El := xs.mapIdx fun i x => ((i : Int), toSm x)
theorem items_len (xs : List Int) : (items xs).length = xs.length := by simp [items]
theorem items_snoc (xs : List Int) (x : Int) : items (xs ++ [x]) = items xs ++ [((xs.length : Int), toSm x)] := by simp [items, List.mapIdx_concat]
set_option maxHeartbeats 4000000 in
set_option maxRecDepth 100000 in
theorem sorted_col (xs : List Int) (hx : ∀ x ∈ xs, -500 ≤ x ∧ x ≤ 500) (hn : xs.length ≤ 100) (hp : xs ≠ []) (A : Option Addr) (c : Nat) (p q : Option Addr) (w : World) (hr0 : (kCol 96 kA).C w A xs.length (rws xs)) :
    Calls Try.prog 52 #[.agg (argC (.slice A xs.length c) p q)] w fun e w' => ∃ (g c' : Nat) (ds : List El), e = .returned (.tuple #[.slice (some ⟨g, 0, none⟩) xs.length c', .pointer none]) ∧ kT2.C w' (some ⟨g, 0, none⟩) xs.length ds ∧ ds.Perm (items xs) ∧ ds.Pairwise (fun p q => p.2.1 ≤ q.2.1) ∧ Below w.heap.size w w' := by
  have HR0 := Aside0.mk hr0
  have HX := Aside0.mk hx
  have HN := Aside0.mk hn
  have HP := Aside0.mk hp
  have hl0 : 0 < xs.length := List.length_pos_iff.2 hp
  obtain ⟨ad0, A0, c0, e0, hr0', _, _⟩ := row_at hr0 0 (by omega) (by omega)
  subst e0
  have HR1 := Aside0.mk (show w.cell? ad0 = some (.slice A0 1 c0) by rw [show ((0 : Int).toNat) = 0 from rfl, add0] at hr0'; exact hr0')
  have hr1 := HR1.out
  have pl : (0 < xs.length) = True := eq_true hl0
  have pl2 : decide (0 < (xs.length : Int)) = true := decide_eq_true (by omega)
  have pl3 : ((0 : Int) < (xs.length : Int)) = True := eq_true (by omega)
  clear hr0 hr0' hx hn hp hl0
  have HB := Aside0.mk (Below.refl w.heap.size w)
  go_enter Try.func52, Try.ntmps52
  clear hr1
  go_upto_region 2 with fail
  have hr1 := (Below.cell (below_alloc (below_alloc (Below.refl w.heap.size w) (.cells (argC (.slice (some ad0) xs.length c) p q) 96)) (.cells #[.slice none 0 0] 118)) (World.block_lt_of_cell? w _ HR1.out)).trans HR1.out
  go_wp2
  clear hr1
  go_loopg [18] (xs.length) (fun kq v18 w' => ∃ (i : Nat) (xi : Int) (A3 : Option Addr) (c3 : Nat), v18 = .int .i64 xi ∧ Aside0 (xi = i ∧ i ≤ xs.length ∧ kq = xs.length - i) ∧ Aside0 (kT2.R 123 w' w.heap.size (fun k => w.heap.size + 1 < k) (.slice A3 i c3) (items (xs.take i))) ∧ Aside0 (w'.heap[w.heap.size]? = some (.cells (argC (.slice (some ad0) xs.length c) p q) 96 (0, 0))) ∧ Aside0 (w'.heap[w.heap.size + 1]? = some (.cells #[.slice A3 i c3] 118 (0, 0))) ∧ Aside0 (Below w.heap.size w w'))
  case atStart =>
    refine ⟨0, 0, none, 0, rfl, ⟨⟨rfl, Nat.zero_le _, rfl⟩⟩, ⟨Kd.R_nil _ _ _ _ _⟩, ⟨blk_alloc (blk_new _ _) _⟩, ⟨?_⟩, ⟨by repeat (first | (with_reducible first | exact HB.out | apply below_alloc | apply pw_below_drewN | apply below_drew1) | exact HB.out)⟩⟩
    have h_ := blk_new (w.alloc (.cells (argC (.slice (some ad0) xs.length c) p q) 96)) (.cells #[.slice none 0 0] 118)
    rw [World.size_alloc] at h_
    exact h_
  case round =>
    obtain ⟨i, xi, A3, c3, rfl, HI, HO, BA, BS, HB⟩ := hrel
    have hS1 : wr.cell? ⟨w.heap.size, 4, none⟩ = some (.slice (some ad0) xs.length c) := (blk_cell BA.out 4).trans rfl
    by_cases hi : i < xs.length
    · have q1 : xi < (xs.length : Int) := by have := HI.out; omega
      have p1 : 0 ≤ xi := by have := HI.out; omega
      have c1 : decide (xi < (xs.length : Int)) = true := decide_eq_true q1
      obtain ⟨ad1, A1, c1, e1, hr2, hc1, hC1⟩ := row_at HR0.out xi p1 q1
      cases e1
      replace hr2 := (HB.out.cell (World.block_lt_of_cell? w _ hr2)).trans hr2
      obtain ⟨x, hxe⟩ : ∃ x, x = xs.getD xi.toNat 0 := ⟨_, rfl⟩
      rw [← hxe] at hC1
      have hgx : xs[i]? = some x := by
        have h1 := HI.out.1
        subst h1
        rw [hxe, List.getElem?_eq_getElem hi]
        simp [List.getD_eq_getElem?_getD, hi]
      have HX1 := Aside0.mk (HX.out x (List.mem_of_getElem? hgx))
      have HW := Aside0.mk (show xs.take (i + 1) = xs.take i ++ [x] by rw [List.take_add_one, hgx]; rfl)
      have HTL := Aside0.mk (show (xs.take i).length = i by rw [List.length_take]; omega)
      have HC1 := Aside0.mk (Kd.C_below hC1 HB.out)
      obtain ⟨ad2, e2, hx2⟩ := cell_one HC1.out
      subst e2
      have hce0 : wr.cell? ad2 = some (.string ⟨#[]⟩) := hx2.1 _ rfl
      have hce1 : wr.cell? ⟨ad2.block, ad2.off + 1, none⟩ = some (.float .f64 (fl x)) := hx2.2 1 _ (by decide) rfl
      have hce2 : wr.cell? ⟨ad2.block, ad2.off + 2, none⟩ = some (.string ⟨#[]⟩) := hx2.2 2 _ (by decide) rfl
      have hce3 : wr.cell? ⟨ad2.block, ad2.off + 3, none⟩ = some (.slice none 0 0) := hx2.2 3 _ (by decide) rfl
      have hce4 : wr.cell? ⟨ad2.block, ad2.off + 4, none⟩ = some (.slice none 0 0) := hx2.2 4 _ (by decide) rfl
      have hce5 : wr.cell? ⟨ad2.block, ad2.off + 5, none⟩ = some (.bool false) := hx2.2 5 _ (by decide) rfl
      have hce6 : wr.cell? ⟨ad2.block, ad2.off + 6, none⟩ = some (.string ⟨#[]⟩) := hx2.2 6 _ (by decide) rfl
      have hce7 : wr.cell? ⟨ad2.block, ad2.off + 7, none⟩ = some (.int .u8 1) := hx2.2 7 _ (by decide) rfl
      have hce8 : wr.cell? ⟨ad2.block, ad2.off + 8, none⟩ = some (.pointer none) := hx2.2 8 _ (by decide) rfl
      have hce9 : wr.cell? ⟨ad2.block, ad2.off + 9, none⟩ = some (.pointer none) := hx2.2 9 _ (by decide) rfl
      have p1' := eq_true p1
      have q1' := eq_true q1
      have hw1 : wrap64 (xi + 1) = xi + 1 := by have := HN.out; unfold wrap64; omega
      have hlen := Aside0.mk hi
      have GW := Aside0.mk (show w.heap.size + 1 < wr.heap.size from blk_lt BS.out)
      have hb0 : wr.cell? ⟨w.heap.size + 1, 0, none⟩ = some (.slice A3 i c3) := (blk_cell BS.out 0).trans rfl
      clear hi hxe hgx p1 q1 hC1 hx2
      go_wp2
      refine wp_loop_rounds 2 ?_
      rw [rounds_succ]
      go_upto_region 13 with fail
      have hb1 := (Below.cell (below_alloc (Below.refl wr.heap.size wr) (.cells #[.string ⟨#[]⟩, .float .f64 (fl x), .string ⟨#[]⟩, .slice none 0 0, .slice none 0 0, .bool false, .string ⟨#[]⟩, .int .u8 1, .pointer none, .pointer none] 96)) (World.block_lt_of_cell? wr _ hb0)).trans hb0
      go_wp2_with ((with_reducible refine gate_builtin (b := .append) (xs := #[.tmp 37, .tmp 43]) rfl ?_); at_builtin; refine Kd.R_append (kT2) (w0 := w) (w.heap.size) rfl (.tmp 37) (.tmp 43) 118 123 (.agg #[.int .i64 0, .float .f64 0]) 16 rfl Try.underlying118 info123 rfl (by decide) (by omega) (.slice A3 i c3) (items (xs.take i)) ((i : Int), toSm x) [.int .i64 (i : Int), .float .f64 (fl x)] (fun k => w.heap.size + 1 < k) (fun _ => False) rfl (by first | (go_simp; done) | (go_simp; rfl)) (show [Value.int .i64 (i : Int), .float .f64 (fl x)] = encT ((i : Int), toSm x) by unfold encT; rw [toSm_val HX1.out]) (fun k hk => hk.elim) (fun k hk => by have h1 := GW.out; rw [World.size_alloc] at hk; omega) (Kd.R_alloc (HO.out) _) (below_alloc (HB.out) _) (below_size (below_alloc (HB.out) _)) ?aL ?_; (case aL => have := HN.out; have := hlen.out; rw [items_len, HTL.out]; omega); intro v1 w4 ho hb hg hat; rw [show items (xs.take i) ++ [((i : Int), toSm x)] = items (xs.take (i + 1)) by rw [HW.out, items_snoc, HTL.out]] at ho; obtain ⟨A4, c4, e4⟩ := Kd.R_slice ho; rw [items_len, List.length_take, Nat.min_eq_left (show i + 1 ≤ xs.length from hlen.out)] at e4; subst e4; have n0_ := Aside0.mk (hb); have n1_ := Aside0.mk (ho); have n2_ := Aside0.mk (blk_grown (blk_alloc (BA.out) _) hg (fun he => absurd (HO.out.1 _ he.symm) (by omega))); have n3_ := Aside0.mk (blk_grown (blk_alloc (BS.out) _) hg (fun he => absurd (HO.out.1 _ he.symm) (by omega))); clear HB HO BA BS; have HB := n0_; have HO := n1_; have BA := n2_; have BS := n3_; clear n0_ n1_ n2_ n3_; clear hb ho hg hat; have hb4 : w4.cell? ⟨w.heap.size + 1, 0, none⟩ = some (.slice A3 i c3) := (blk_cell BS.out 0).trans rfl; have hf4 : w4.frozen? ⟨w.heap.size + 1, 0, none⟩ = false := blk_frozen BS.out 0)
      rw [rounds_succ]
      have n0_ := Aside0.mk (below_set (g := w.heap.size + 1) (j := 0) (v := .slice A4 (i + 1) c4) HB.out (Nat.le_succ _))
      have n1_ := Aside0.mk (Kd.R_far HO.out (p := ⟨w.heap.size + 1, 0, none⟩) (fun k hk => Nat.ne_of_gt hk) (.slice A4 (i + 1) c4))
      have n2_ := Aside0.mk ((Below.heap_setCell w4 ⟨w.heap.size + 1, 0, none⟩ (.slice A4 (i + 1) c4) w.heap.size (by simp)).trans BA.out)
      have n3_ := Aside0.mk (blk_put BS.out 0 (.slice A4 (i + 1) c4) rfl)
      clear HB HO BA BS hb4 hf4
      have HB := n0_
      have HO := n1_
      have BA := n2_
      have BS := n3_
      clear n0_ n1_ n2_ n3_
      go_wp2
      go_roundg (xs.length - (i + 1))
      case measure => have := hlen.out; have := HI.out; omega
      case rel => exact ⟨i + 1, xi + 1, A4, c4, by first | rfl | rw [hw1], ⟨⟨by have := HI.out; omega, by have := hlen.out; omega, rfl⟩⟩, HO, BA, BS, HB⟩
    · have c1 : decide (xi < (xs.length : Int)) = false := decide_eq_false (by have := HI.out; omega)
      have hi2 : i = xs.length := by have := HI.out; omega
      subst hi2
      have HW := Aside0.mk (show xs.take xs.length = xs from List.take_length)
      rw [HW.out] at HO
      have HL0 := Aside0.mk (List.length_pos_iff.2 HP.out)
      obtain ⟨g, cap, eg, gb, gl, _⟩ := Kd.R_form HO.out (by rw [items_len]; exact HL0.out)
      rw [items_len] at eg
      cases eg
      have GL := Aside0.mk gl
      have GG := Aside0.mk (show w.heap.size + 1 < g from HO.out.1 g rfl)
      have hb0 : wr.cell? ⟨w.heap.size + 1, 0, none⟩ = some (.slice (some ⟨g, 0, none⟩) xs.length c3) := (blk_cell BS.out 0).trans rfl
      clear hi HW gb gl
      have HIL := Aside0.mk (items_len xs)
      go_wp2_with (go_at_call 60; have hs_ := sort_ (items xs) g c3 (w.heap.size + 1) w.heap.size _ wr (by rw [HIL.out]; exact HO.out) GL.out (by rw [HIL.out]; exact HN.out) (by rw [HIL.out]; exact hb0) (Nat.ne_of_lt GG.out); rw [HIL.out] at hs_; refine hs_.mono ?_; rintro e w5 ⟨rfl, ds, hpm, hpw, hC, hk, hB⟩; have HD := Aside0.mk hpm; have HPW := Aside0.mk hpw; have HC := Aside0.mk hC; have n0_ := Aside0.mk (hB w HB.out (by have := GG.out; omega)); have n1_ := Aside0.mk (hk.blk BS.out (Nat.ne_of_lt GG.out) (by simp)); clear HB BS hb0 hpm hpw hC hk hB hs_; have HB := n0_; have BS := n1_; clear n0_ n1_; have hb5 : w5.cell? ⟨w.heap.size + 1, 0, none⟩ = some (.slice (some ⟨g, 0, none⟩) xs.length c3) := (blk_cell BS.out 0).trans rfl)
      go_ret2
      exact ⟨g, c3, ds, by rfl, HC.out, HD.out, HPW.out, HB.out⟩
end Go.Proofs.Ytjefbpfpobgmaaa.FrU
