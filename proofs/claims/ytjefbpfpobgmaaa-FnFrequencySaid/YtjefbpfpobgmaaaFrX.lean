/- FnFrequency, walks: FREQUENCY of a column and bins in increasing order. Conditions: the numbers' sizes. -/
import Derived.Test.YtjefbpfpobgmaaaFrV
import Derived.Test.YtjefbpfpobgmaaaFrW
namespace Go.Proofs.Ytjefbpfpobgmaaa.FrX
open Go.RowKit Go.Proofs.YtjefbpfpobgmaaaW.PrintWords Go.Proofs.YtjefbpfpobgmaaaW.PrintLast Go.Proofs.YtjefbpfpobgmaaaW.PrintMore Go.Proofs.Ytjefbpfpobgmaaa.FrA Go.Proofs.Ytjefbpfpobgmaaa.FrB Go.Proofs.Ytjefbpfpobgmaaa.FrK Go.Proofs.Ytjefbpfpobgmaaa.FrL Go.Proofs.Ytjefbpfpobgmaaa.FrM Go.Proofs.Ytjefbpfpobgmaaa.FrQ Go.Proofs.Ytjefbpfpobgmaaa.FrR Go.Proofs.Ytjefbpfpobgmaaa.FrS Go.Proofs.Ytjefbpfpobgmaaa.FrT Go.Proofs.Ytjefbpfpobgmaaa.FrU Go.Proofs.Ytjefbpfpobgmaaa.FrE Go.Proofs.Ytjefbpfpobgmaaa.FrV Go.Proofs.Ytjefbpfpobgmaaa.FrW
set_option linter.unusedVariables false
set_option linter.unusedSimpArgs false
attribute [local go_sem] Flt.run_store_float
theorem put_row {W : World} {base : Nat} {ok okp : Nat → Prop} {g n cap : Nat} {rows : List (List Int)} (h : (kCol 96 kA).R 91 W base ok (.slice (some ⟨g, 0, none⟩) n cap) rows) (j : Nat) (hj : j < n) {v : Value} {x : List Int} (hM : kA.R 96 W base okp v x) (hokp : ∀ k, okp k → ok k ∧ k ≠ g) : (kCol 96 kA).R 91 (W.setCell ⟨g, j, none⟩ v) base ok (.slice (some ⟨g, 0, none⟩) n cap) (rows.set j x) := by
  obtain ⟨c, hl, _, hc, _⟩ := Kd.R_elem h [] (j : Int) (by omega) (by omega)
  have h2 := (Kd.R_seg h (j : Int) (by omega) (by omega) (c := c) (seg := [v]) (j := 0) hl hc (Nat.le_refl 1) (x' := x) (okp := okp) (by
    have hl1 : c.length = 1 := hl
    have e : c.take 0 ++ [v] ++ c.drop (0 + [v].length) = [v] := by
      rw [List.drop_of_length_le (by simp [hl1])]; rfl
    rw [e]
    exact ⟨v, rfl, hM⟩) hokp).1
  have e2 : ((j : Int).toNat * (kCol 96 kA).sz + 0) = j := by simp [kCol, Kd.slice]
  rw [e2] at h2
  exact h2
theorem old_row {W : World} {base : Nat} {ok : Nat → Prop} {g n cap : Nat} {rows : List (List Int)} (h : (kCol 96 kA).R 91 W base ok (.slice (some ⟨g, 0, none⟩) n cap) rows) (j : Nat) (hj : j < n) : (∃ u : Value, W.cell? ⟨g, j, none⟩ = some u) ∧ W.frozen? ⟨g, j, none⟩ = false := by
  obtain ⟨c, hl, _, hc, hf⟩ := Kd.R_elem h [] (j : Int) (by omega) (by omega)
  have hl1 : c.length = 1 := hl
  have e2 : ((j : Int).toNat * (kCol 96 kA).sz + 0) = j := by simp [kCol, Kd.slice]
  have h1 := hc 0 c[0] (List.getElem?_eq_getElem (by omega))
  have h2 := hf 0
  rw [e2] at h1 h2
  exact ⟨⟨_, h1⟩, h2⟩
theorem at_T2 {w : World} {A : Option Addr} {n : Nat} {xs : List El} (h : kT2.C w A n xs) (i : Int) (h0 : 0 ≤ i) (h1 : i < (n : Int)) : ∃ ad, A = some ad ∧ w.cell? (ad.add (i.toNat * 2)) = some (.int .i64 (xs.getD i.toNat default).1) ∧ w.cell? ⟨(ad.add (i.toNat * 2)).block, (ad.add (i.toNat * 2)).off + 1, none⟩ = some (.float .f64 (fl (xs.getD i.toNat default).2.1)) := by
  obtain ⟨ad, c, e, _, hK, hc0⟩ := Kd.C_get h default i h0 h1
  have hK' : c = encT (xs.getD i.toNat default) := hK
  subst hK'
  exact ⟨ad, e, hc0 0 _ rfl, by rw [← add_field _ _ 1 (by decide)]; exact hc0 1 _ rfl⟩
theorem get_le {ys : List Int} (h : ys.Pairwise (· < ·)) {j m : Nat} (hjm : j < m) (hm : m < ys.length) : ys.getD j 0 ≤ ys.getD m 0 := by
  have h2 := List.pairwise_iff_getElem.1 h j m (by omega) hm hjm
  rw [List.getD_eq_getElem?_getD, List.getD_eq_getElem?_getD, List.getElem?_eq_getElem (show j < ys.length by omega), List.getElem?_eq_getElem hm]
  exact Int.le_of_lt h2
theorem sorted_colA (xs : List Int) (hx : ∀ x ∈ xs, -500 ≤ x ∧ x ≤ 500) (hn : xs.length ≤ 100) (hp : xs ≠ []) (A : Option Addr) (c : Nat) (p q : Option Addr) (w : World) (hr0 : (kCol 96 kA).C w A xs.length (rws xs)) :
    Calls Try.prog 52 #[.agg (argC (.slice A xs.length c) p q)] w fun e w' => ∃ (ad : Addr) (c' : Nat) (ds : List El), e = .returned (.tuple #[.slice (some ad) xs.length c', .pointer none]) ∧ kT2.C w' (some ad) xs.length ds ∧ ds.Perm (items xs) ∧ ds.Pairwise (fun p q => p.2.1 ≤ q.2.1) ∧ Below w.heap.size w w' :=
  (sorted_col xs hx hn hp A c p q w hr0).mono fun e w' ⟨g, c', ds, h⟩ => ⟨⟨g, 0, none⟩, c', ds, h⟩
set_option maxHeartbeats 4000000 in
set_option maxRecDepth 100000 in
theorem frequency (xs ys : List Int) (hx : ∀ x ∈ xs, -500 ≤ x ∧ x ≤ 500) (hn : xs.length ≤ 100) (hp : xs ≠ []) (hy : ∀ x ∈ ys, -500 ≤ x ∧ x ≤ 500) (hm : ys.length ≤ 100) (hq : ys ≠ []) (hs : ys.Pairwise (· < ·))
    (fn l f h : Nat) (A1 A2 : Option Addr) (c1 c2 : Nat) (p1 q1 p2 q2 : Option Addr) (w : World) (hl : w.heap[l]? = some (.cells #[.pointer (some ⟨f, 0, none⟩), .pointer (some ⟨h, 0, none⟩), .pointer none, .nilIface, .int .i64 2] 132 (0, 0)))
    (hf : w.heap[f]? = some (.cells #[.pointer (some ⟨h, 0, none⟩), .pointer (some ⟨l, 0, none⟩), .pointer (some ⟨l, 0, none⟩), .iface 96 (.agg (argC (.slice A1 xs.length c1) p1 q1))] 116 (0, 0)))
    (hh : w.heap[h]? = some (.cells #[.pointer (some ⟨l, 0, none⟩), .pointer (some ⟨f, 0, none⟩), .pointer (some ⟨l, 0, none⟩), .iface 96 (.agg (argC (.slice A2 ys.length c2) p2 q2))] 116 (0, 0)))
    (hC1 : (kCol 96 kA).C w A1 xs.length (rws xs)) (hC2 : (kCol 96 kA).C w A2 ys.length (rws ys)) :
    Calls Try.prog 41 #[.pointer (some ⟨fn, 0, none⟩), .pointer (some ⟨l, 0, none⟩)] w fun e w' => ∃ v, e = .returned (.agg (argM v)) ∧ (kCol 96 kA).R 91 w' w.heap.size (fun _ => True) v (rws (counts xs ys)) ∧ Below w.heap.size w w' := by
  have HX := Aside0.mk (And.intro hx (And.intro hn hp))
  have HY := Aside0.mk (And.intro hy (And.intro hm (And.intro hq hs)))
  have HL := Aside0.mk (blk_alloc hl (.cells #[.string ⟨#[]⟩, .float .f64 0, .string ⟨#[]⟩, .slice none 0 0, .slice none 0 0, .bool false, .string ⟨#[]⟩, .int .u8 0, .pointer none, .pointer none] 96))
  have HF := Aside0.mk (blk_alloc hf (.cells #[.string ⟨#[]⟩, .float .f64 0, .string ⟨#[]⟩, .slice none 0 0, .slice none 0 0, .bool false, .string ⟨#[]⟩, .int .u8 0, .pointer none, .pointer none] 96))
  have HH := Aside0.mk (blk_alloc hh (.cells #[.string ⟨#[]⟩, .float .f64 0, .string ⟨#[]⟩, .slice none 0 0, .slice none 0 0, .bool false, .string ⟨#[]⟩, .int .u8 0, .pointer none, .pointer none] 96))
  have HC1 := Aside0.mk (Kd.C_alloc hC1 (.cells #[.string ⟨#[]⟩, .float .f64 0, .string ⟨#[]⟩, .slice none 0 0, .slice none 0 0, .bool false, .string ⟨#[]⟩, .int .u8 0, .pointer none, .pointer none] 96))
  have HC2 := Aside0.mk (Kd.C_alloc hC2 (.cells #[.string ⟨#[]⟩, .float .f64 0, .string ⟨#[]⟩, .slice none 0 0, .slice none 0 0, .bool false, .string ⟨#[]⟩, .int .u8 0, .pointer none, .pointer none] 96))
  have BR := Aside0.mk (blk_new w (.cells #[.string ⟨#[]⟩, .float .f64 0, .string ⟨#[]⟩, .slice none 0 0, .slice none 0 0, .bool false, .string ⟨#[]⟩, .int .u8 0, .pointer none, .pointer none] 96))
  have HB := Aside0.mk (below_alloc (Below.refl w.heap.size w) (.cells #[.string ⟨#[]⟩, .float .f64 0, .string ⟨#[]⟩, .slice none 0 0, .slice none 0 0, .bool false, .string ⟨#[]⟩, .int .u8 0, .pointer none, .pointer none] 96))
  have nx1 : (xs.length = 0) = False := eq_false (by have := List.length_pos_iff.2 hp; omega)
  have nx2 : ((xs.length : Int) = 0) = False := eq_false (by have := List.length_pos_iff.2 hp; omega)
  have nx3 : ((xs.length : Int) == 0) = false := by have := List.length_pos_iff.2 hp; simp; omega
  have nx4 : (xs.length == 0) = false := by have := List.length_pos_iff.2 hp; simp; omega
  have ny1 : (ys.length = 0) = False := eq_false (by have := List.length_pos_iff.2 hq; omega)
  have ny2 : ((ys.length : Int) = 0) = False := eq_false (by have := List.length_pos_iff.2 hq; omega)
  have ny3 : ((ys.length : Int) == 0) = false := by have := List.length_pos_iff.2 hq; simp; omega
  have ny4 : (ys.length == 0) = false := by have := List.length_pos_iff.2 hq; simp; omega
  clear hx hn hp hy hm hq hs hf hh hC1 hC2
  have BL := Aside0.mk hl
  clear hl
  go_enter Try.func41, Try.ntmps41
  go_upto_region 3 with (go_at_call 48; refine (len_ l f h _ (blk_alloc BL.out _)).mono ?_; rintro e w1 ⟨rfl, rfl⟩)
  refine region3 fn l f h w.heap.size A1 A2 xs.length c1 ys.length c2 p1 q1 p2 q2 _ HL.out HF.out HH.out _ ?_
  intro gx gy v18 v19 v20 v21 v22 v23 v24 v25 v26 v27 v28 v29 w1 hgx hgy gxl gyl gne hb1
  rw [World.size_alloc] at gxl gyl
  have BX := Aside0.mk hgx
  have BY := Aside0.mk hgy
  have n0_ := Aside0.mk (below_step HB.out hb1)
  have n1_ := Aside0.mk (blk_below BR.out hb1)
  have n2_ := Aside0.mk (Kd.C_below HC1.out hb1)
  have n3_ := Aside0.mk (Kd.C_below HC2.out hb1)
  clear HB BR HC1 HC2 HL HF HH BL hgx hgy hb1
  have HB := n0_
  have BR := n1_
  have HC1 := n2_
  have HC2 := n3_
  clear n0_ n1_ n2_ n3_
  have hcx0 : w1.cell? ⟨gx, 0, none⟩ = some (.string ⟨#[]⟩) := (blk_cell BX.out 0).trans rfl
  have hcx1 : w1.cell? ⟨gx, 1, none⟩ = some (.float .f64 0) := (blk_cell BX.out 1).trans rfl
  have hcx2 : w1.cell? ⟨gx, 2, none⟩ = some (.string ⟨#[]⟩) := (blk_cell BX.out 2).trans rfl
  have hcx3 : w1.cell? ⟨gx, 3, none⟩ = some (.slice none 0 0) := (blk_cell BX.out 3).trans rfl
  have hcx4 : w1.cell? ⟨gx, 4, none⟩ = some (.slice A1 xs.length c1) := (blk_cell BX.out 4).trans rfl
  have hcx5 : w1.cell? ⟨gx, 5, none⟩ = some (.bool false) := (blk_cell BX.out 5).trans rfl
  have hcx6 : w1.cell? ⟨gx, 6, none⟩ = some (.string ⟨#[]⟩) := (blk_cell BX.out 6).trans rfl
  have hcx7 : w1.cell? ⟨gx, 7, none⟩ = some (.int .u8 4) := (blk_cell BX.out 7).trans rfl
  have hcx8 : w1.cell? ⟨gx, 8, none⟩ = some (.pointer p1) := (blk_cell BX.out 8).trans rfl
  have hcx9 : w1.cell? ⟨gx, 9, none⟩ = some (.pointer q1) := (blk_cell BX.out 9).trans rfl
  have hcy0 : w1.cell? ⟨gy, 0, none⟩ = some (.string ⟨#[]⟩) := (blk_cell BY.out 0).trans rfl
  have hcy1 : w1.cell? ⟨gy, 1, none⟩ = some (.float .f64 0) := (blk_cell BY.out 1).trans rfl
  have hcy2 : w1.cell? ⟨gy, 2, none⟩ = some (.string ⟨#[]⟩) := (blk_cell BY.out 2).trans rfl
  have hcy3 : w1.cell? ⟨gy, 3, none⟩ = some (.slice none 0 0) := (blk_cell BY.out 3).trans rfl
  have hcy4 : w1.cell? ⟨gy, 4, none⟩ = some (.slice A2 ys.length c2) := (blk_cell BY.out 4).trans rfl
  have hcy5 : w1.cell? ⟨gy, 5, none⟩ = some (.bool false) := (blk_cell BY.out 5).trans rfl
  have hcy6 : w1.cell? ⟨gy, 6, none⟩ = some (.string ⟨#[]⟩) := (blk_cell BY.out 6).trans rfl
  have hcy7 : w1.cell? ⟨gy, 7, none⟩ = some (.int .u8 4) := (blk_cell BY.out 7).trans rfl
  have hcy8 : w1.cell? ⟨gy, 8, none⟩ = some (.pointer p2) := (blk_cell BY.out 8).trans rfl
  have hcy9 : w1.cell? ⟨gy, 9, none⟩ = some (.pointer q2) := (blk_cell BY.out 9).trans rfl
  have hwm : wrap64 ((ys.length : Int) + 1) = (ys.length : Int) + 1 := by have := HY.out.2.1; unfold wrap64; omega
  go_upto_region 8 with fail
  go_upto_region 9 with (go_at_call 52; with_reducible refine (sorted_colA xs HX.out.1 HX.out.2.1 HX.out.2.2 A1 c1 p1 q1 _ HC1.out).mono ?_; rintro e w2 ⟨ad1, k1, ds, rfl, hC, hpm, hpw, hb⟩; have n0_ := Aside0.mk (below_step (HB.out) hb); have n1_ := Aside0.mk (blk_below (BR.out) hb); have n2_ := Aside0.mk (blk_below (BY.out) hb); have n3_ := Aside0.mk (Kd.C_below (HC2.out) hb); clear HB BR BY HC2; have HB := n0_; have BR := n1_; have BY := n2_; have HC2 := n3_; clear n0_ n1_ n2_ n3_; clear hb; have HD := Aside0.mk hC; have HDP := Aside0.mk hpm; have HDS := Aside0.mk hpw; clear hC hpm hpw; have hcy0 : w2.cell? ⟨gy, 0, none⟩ = some (.string ⟨#[]⟩) := (blk_cell BY.out 0).trans rfl; have hcy1 : w2.cell? ⟨gy, 1, none⟩ = some (.float .f64 0) := (blk_cell BY.out 1).trans rfl; have hcy2 : w2.cell? ⟨gy, 2, none⟩ = some (.string ⟨#[]⟩) := (blk_cell BY.out 2).trans rfl; have hcy3 : w2.cell? ⟨gy, 3, none⟩ = some (.slice none 0 0) := (blk_cell BY.out 3).trans rfl; have hcy4 : w2.cell? ⟨gy, 4, none⟩ = some (.slice A2 ys.length c2) := (blk_cell BY.out 4).trans rfl; have hcy5 : w2.cell? ⟨gy, 5, none⟩ = some (.bool false) := (blk_cell BY.out 5).trans rfl; have hcy6 : w2.cell? ⟨gy, 6, none⟩ = some (.string ⟨#[]⟩) := (blk_cell BY.out 6).trans rfl; have hcy7 : w2.cell? ⟨gy, 7, none⟩ = some (.int .u8 4) := (blk_cell BY.out 7).trans rfl; have hcy8 : w2.cell? ⟨gy, 8, none⟩ = some (.pointer p2) := (blk_cell BY.out 8).trans rfl; have hcy9 : w2.cell? ⟨gy, 9, none⟩ = some (.pointer q2) := (blk_cell BY.out 9).trans rfl)
  go_upto_region 12 with (go_at_call 52; with_reducible refine (sorted_colA ys HY.out.1 HY.out.2.1 HY.out.2.2.1 A2 c2 p2 q2 _ HC2.out).mono ?_; rintro e w3 ⟨ad2, k2, es, rfl, hC, hpm, hpw, hb⟩; obtain rfl := bins_are HY.out.1 HY.out.2.2.2 hpm hpw; have n0_ := Aside0.mk (below_step (HB.out) hb); have n1_ := Aside0.mk (blk_below (BR.out) hb); have n2_ := Aside0.mk (Kd.C_below (HD.out) hb); clear HB BR HD; have HB := n0_; have BR := n1_; have HD := n2_; clear n0_ n1_ n2_; clear hb; have HE := Aside0.mk hC; clear hC hpm hpw)
  go_upto_region 14 with fail
  go_upto_region 15 with ((with_reducible refine gate_dst (N := 69) rfl ?_); refine Kd.R_make (kCol 96 kA) _ 91 rfl (N := 69) rfl 92 _ _ rfl (wrap64 ((ys.length : Int) + 1)) rfl rfl Try.underlying92 (.slice none 0 0) 24 info91 rfl (by decide) (by omega) ([] : List Int) (ok := fun _ => True) (okp := fun _ => True) ⟨_, rfl, Kd.R_nil _ _ _ _ _⟩ (fun _ hk => hk) trivial (by rw [hwm]; omega) (by rw [hwm]; have := HY.out.2.1; omega) (Below.refl _ _) (Nat.le_refl _) ?_; intro v4 w4 ho hb hg_ hnew_; clear hg_ hnew_; rw [hwm, show ((ys.length : Int) + 1).toNat = ys.length + 1 by omega, ← filled_zero (fr xs ys)] at ho; obtain ⟨go, cap, eo, gob, gol, _⟩ := Kd.R_form ho (by rw [filled_len _ _ _ (Nat.zero_le _)]; omega); rw [filled_len _ _ _ (Nat.zero_le _)] at eo; subst eo; have HO := Aside0.mk ho; have HB3 := Aside0.mk hb; have GO := Aside0.mk gob; clear ho hb gob gol)
  have HSD := Aside0.mk (And.intro HDP.out HDS.out)
  clear HC1 HC2 BX BY HDP HDS nx1 nx2 nx3 nx4 ny1 ny2 ny3 ny4
  have HLD := Aside0.mk (show ds.length = xs.length by rw [HSD.out.1.length_eq, items_len])
  go_wp2
  go_loopg [11, 72] (ys.length) (fun kq v11 v72 w' => ∃ (j : Nat) (xj xi : Int), v72 = .int .i64 xj ∧ v11 = .int .i64 xi ∧ Aside0 (xj = j ∧ j ≤ ys.length ∧ kq = ys.length - j ∧ xi = (cAt xs ys j : Nat) ∧ ∀ k, k < cAt xs ys j → ∀ m, j ≤ m → m < ys.length → (nos ds).getD k 0 ≤ ys.getD m 0) ∧ Aside0 ((kCol 96 kA).R 91 w' w3.heap.size (fun _ => True) (.slice (some ⟨go, 0, none⟩) (ys.length + 1) cap) (filled (fr xs ys) j (ys.length + 1))) ∧ Aside0 (Below w3.heap.size w3 w'))
  case atStart => exact ⟨0, 0, 0, rfl, rfl, ⟨⟨rfl, Nat.zero_le _, rfl, rfl, fun k hk => absurd hk (Nat.not_lt_zero k)⟩⟩, HO, HB3⟩
  case round =>
    clear HO HB3
    obtain ⟨j, xj, xi, rfl, rfl, HJ, HO, HB3⟩ := hrel
    by_cases hj : j < ys.length
    · have q1 : xj < (ys.length : Int) := by have := HJ.out.1; omega
      have p1 : 0 ≤ xj := by have := HJ.out.1; omega
      have c1 : decide (xj < (ys.length : Int)) = true := decide_eq_true q1
      obtain ⟨ad, e2, he0, he1⟩ := at_T2 HE.out xj p1 q1
      cases e2
      obtain ⟨y, hye⟩ : ∃ y, y = ys.getD j 0 := ⟨_, rfl⟩
      have HY1 := Aside0.mk (show -500 ≤ y ∧ y ≤ 500 by rw [hye, List.getD_eq_getElem?_getD, List.getElem?_eq_getElem hj]; exact HY.out.1 _ (List.getElem_mem hj))
      have hit : (items ys).getD xj.toNat default = ((j : Int), toSm y) := by
        have h1 : xj.toNat = j := by have := HJ.out.1; omega
        rw [h1, List.getD_eq_getElem?_getD, items_get ys j hj, hye, List.getD_eq_getElem?_getD, List.getElem?_eq_getElem hj]
        rfl
      rw [hit] at he0 he1
      have hjx : ((j : Int)) = xj := HJ.out.1.symm
      have he0' : w3.cell? (ad2.add (xj.toNat * 2)) = some (.int .i64 xj) := by rw [he0, hjx]
      have he1' : w3.cell? ⟨(ad2.add (xj.toNat * 2)).block, (ad2.add (xj.toNat * 2)).off + 1, none⟩ = some (.float .f64 (fl y)) := by rw [he1]; show some (Value.float .f64 (fl (toSm y).1)) = _; rw [toSm_val HY1.out]
      have HE0 := Aside0.mk he0'
      have HE1 := Aside0.mk he1'
      have HYE := Aside0.mk hye
      have HJL := Aside0.mk hj
      have hw1 : wrap64 (xj + 1) = xj + 1 := by have := HY.out.2.1; unfold wrap64; omega
      have q1' := eq_true q1
      have p1' := eq_true p1
      have q2' : (xj < (ys.length : Int) + 1) = True := eq_true (by omega)
      have q3' : (xj < ((ys.length + 1 : Nat) : Int)) = True := eq_true (by omega)
      obtain ⟨ko, hko⟩ : ∃ ko, ko = gk := ⟨_, rfl⟩
      subst hko
      clear hj he0 he1 he0' he1' hit hye hjx q1 p1
      go_wp2
      go_loopg [11, 13] (xs.length - cAt xs ys j) (fun kq v11 v13 w' => ∃ (i : Nat) (xi nv : Int), v11 = .int .i64 xi ∧ v13 = .float .f64 (fl nv) ∧ Aside0 (xi = i ∧ i ≤ xs.length ∧ kq = xs.length - i ∧ cAt xs ys j ≤ i ∧ nv = (i : Int) - cAt xs ys j ∧ ∀ k, k < i → (nos ds).getD k 0 ≤ y) ∧ Aside0 ((kCol 96 kA).R 91 w' w3.heap.size (fun _ => True) (.slice (some ⟨go, 0, none⟩) (ys.length + 1) cap) (filled (fr xs ys) j (ys.length + 1))) ∧ Aside0 (Below w3.heap.size w3 w'))
      case atStart => exact ⟨cAt xs ys j, xi, 0, rfl, by rw [fl_zero], ⟨⟨HJ.out.2.2.2.1, cAt_le _ _ _, rfl, Nat.le_refl _, by omega, fun k hk => by rw [HYE.out]; exact HJ.out.2.2.2.2 k hk j (Nat.le_refl _) HJL.out⟩⟩, HO, HB3⟩
      case round =>
        clear HO HB3
        obtain ⟨i, xi, nv, rfl, rfl, HI, HO, HB3⟩ := hrel
        have hb1 := (HB3.out.cell (World.block_lt_of_cell? w3 _ HE1.out)).trans HE1.out
        by_cases hi : i < xs.length
        · have q4 : xi < (xs.length : Int) := by have := HI.out.1; omega
          have p4 : 0 ≤ xi := by have := HI.out.1; omega
          have c4 : decide (xi < (xs.length : Int)) = true := decide_eq_true q4
          obtain ⟨adx, e4, _, hd1⟩ := at_T2 HD.out xi p4 q4
          cases e4
          replace hd1 := (HB3.out.cell (World.block_lt_of_cell? w3 _ hd1)).trans hd1
          obtain ⟨x, hxe⟩ : ∃ x, x = (nos ds).getD i 0 := ⟨_, rfl⟩
          have hx0 : (ds.getD xi.toNat default).2.1 = x := by
            have h1 : xi.toNat = i := by have := HI.out.1; omega
            have h2 : i < ds.length := by rw [HLD.out]; exact hi
            rw [h1, hxe]
            unfold nos
            rw [List.getD_eq_getElem?_getD, List.getD_eq_getElem?_getD, List.getElem?_map, List.getElem?_eq_getElem h2]
            rfl
          have HX1 := Aside0.mk (show -500 ≤ x ∧ x ≤ 500 by rw [← hx0]; exact (ds.getD xi.toNat default).2.2)
          rw [hx0] at hd1
          have q4' := eq_true q4
          have p4' := eq_true p4
          have o := order_le x y HX1.out HY1.out
          have HXE := Aside0.mk hxe
          have hilt := Aside0.mk hi
          have hw2 : wrap64 (xi + 1) = xi + 1 := by have := HX.out.2.1; unfold wrap64; omega
          clear hi hxe hx0 q4 p4
          by_cases hxy : x ≤ y
          · rw [decide_eq_true hxy] at o
            have HXY := Aside0.mk hxy
            clear hxy
            have hq : ∀ W : World, (binOp .add 32 (.float .f64 (fl nv)) (.float .f64 4607182418800017408)).run Try.prog W = .ok (.float .f64 (fl (nv + 1))) W := by
              intro W
              have hu := up_one nv.toNat (by have := HI.out; have := HX.out.2.1; omega)
              rw [show ((nv.toNat : Nat) : Int) = nv by have := HI.out; omega] at hu
              exact run_float_arith W .add 32 .f64 (fl nv) (fl 1) (fl (nv + 1)) hu
            go_upto_region 20 with fail
            have n0_ := Aside0.mk (below_drew1 HB3.out)
            have n1_ := Aside0.mk (Kd.R_drew HO.out)
            clear HB3 HO
            have HB3 := n0_
            have HO := n1_
            clear n0_ n1_
            refine start_ (n := 17) (S := fun w' => w'.cell? ⟨(ad1.add (xi.toNat * 2)).block, (ad1.add (xi.toNat * 2)).off + 1, none⟩ = some (.float .f64 (fl x)) ∧ w'.cell? ⟨(ad2.add (xj.toNat * 2)).block, (ad2.add (xj.toNat * 2)).off + 1, none⟩ = some (.float .f64 (fl y))) (ds := []) #[false, false, false, false, false, false, false, false, false, false, false, false, false, false, false, false, false] (by kernel_rfl) rfl rfl ⟨hd1, hb1⟩ (fun hHeld => ?_)
            refine pure_ (i := 0) (N := some 75) (v := ?_) (a' := ?_) #[true, false, false, false, false, false, false, false, false, false, false, false, false, false, false, false, false] rfl rfl (by kernel_rfl) (fun _ _ _ h => h) (Or.inl ⟨by rfl, ?_⟩) ?_ ?_
            rotate_left
            · intro w'
              go_simp
              with_reducible rfl
            rotate_left
            · simp only [Act.put, List.setIfInBounds_toArray, List.set_cons_zero, List.set_cons_succ, i64_w, i32_w]
              rfl
            refine pure_ (i := 1) (N := some 76) (v := ?_) (a' := ?_) #[true, true, false, false, false, false, false, false, false, false, false, false, false, false, false, false, false] rfl rfl (by kernel_rfl) (fun _ _ _ h => h) (Or.inl ⟨by rfl, ?_⟩) ?_ ?_
            rotate_left
            · intro w'
              go_simp
              with_reducible rfl
            rotate_left
            · simp only [Act.put, List.setIfInBounds_toArray, List.set_cons_zero, List.set_cons_succ, i64_w, i32_w]
              rfl
            refine pure_ (i := 2) (N := some 77) (v := ?_) (a' := ?_) #[true, true, true, false, false, false, false, false, false, false, false, false, false, false, false, false, false] rfl rfl (by kernel_rfl) (fun _ _ _ h => h) (Or.inl ⟨by rfl, ?_⟩) ?_ ?_
            rotate_left
            · intro w'
              go_simp
              with_reducible rfl
            rotate_left
            · simp only [Act.put, List.setIfInBounds_toArray, List.set_cons_zero, List.set_cons_succ, i64_w, i32_w]
              rfl
            refine pure_ (i := 3) (N := some 78) (v := ?_) (a' := ?_) #[true, true, true, true, false, false, false, false, false, false, false, false, false, false, false, false, false] rfl rfl (by kernel_rfl) (fun _ _ _ h => h) (Or.inl ⟨by rfl, ?_⟩) ?_ ?_
            rotate_left
            · intro w'
              go_simp
              with_reducible rfl
            rotate_left
            · simp only [Act.put, List.setIfInBounds_toArray, List.set_cons_zero, List.set_cons_succ, i64_w, i32_w]
              rfl
            refine pure_ (i := 4) (N := some 79) (v := ?_) (a' := ?_) #[true, true, true, true, true, false, false, false, false, false, false, false, false, false, false, false, false] rfl rfl (by kernel_rfl) (fun _ _ _ h => h) (Or.inl ⟨by rfl, ?_⟩) ?_ ?_
            rotate_left
            · intro w'
              go_simp
              with_reducible rfl
            rotate_left
            · simp only [Act.put, List.setIfInBounds_toArray, List.set_cons_zero, List.set_cons_succ, i64_w, i32_w]
              rfl
            refine pure_ (i := 5) (N := some 80) (v := ?_) (a' := ?_) #[true, true, true, true, true, true, false, false, false, false, false, false, false, false, false, false, false] rfl rfl (by kernel_rfl) (fun _ _ _ h => h) (Or.inl ⟨by rfl, ?_⟩) ?_ ?_
            rotate_left
            · intro w'
              go_simp
              with_reducible rfl
            rotate_left
            · simp only [Act.put, List.setIfInBounds_toArray, List.set_cons_zero, List.set_cons_succ, i64_w, i32_w]
              rfl
            refine pure_ (i := 6) (N := some 81) (v := ?_) (a' := ?_) #[true, true, true, true, true, true, true, false, false, false, false, false, false, false, false, false, false] rfl rfl (by kernel_rfl) (fun _ _ _ h => h) (Or.inl ⟨by rfl, ?_⟩) ?_ ?_
            rotate_left
            · intro w'
              go_simp
              with_reducible rfl
            rotate_left
            · simp only [Act.put, List.setIfInBounds_toArray, List.set_cons_zero, List.set_cons_succ, i64_w, i32_w]
              rfl
            refine pure_ (i := 7) (N := some 82) (v := ?_) (a' := ?_) #[true, true, true, true, true, true, true, true, false, false, false, false, false, false, false, false, false] rfl rfl (by kernel_rfl) (fun _ _ _ h => h) (Or.inl ⟨by rfl, ?_⟩) ?_ ?_
            rotate_left
            · intro w'
              go_simp
              with_reducible rfl
            rotate_left
            · simp only [Act.put, List.setIfInBounds_toArray, List.set_cons_zero, List.set_cons_succ, i64_w, i32_w]
              rfl
            refine pure_ (i := 8) (N := some 83) (v := ?_) (a' := ?_) #[true, true, true, true, true, true, true, true, true, false, false, false, false, false, false, false, false] rfl rfl (by kernel_rfl) (fun _ _ _ h => h) (Or.inl ⟨by rfl, ?_⟩) ?_ ?_
            rotate_left
            · intro w'
              go_simp
              with_reducible rfl
            rotate_left
            · simp only [Act.put, List.setIfInBounds_toArray, List.set_cons_zero, List.set_cons_succ, i64_w, i32_w]
              rfl
            refine pure_ (i := 10) (N := some 85) (v := ?_) (a' := ?_) #[true, true, true, true, true, true, true, true, true, false, true, false, false, false, false, false, false] rfl rfl (by kernel_rfl) (fun _ _ _ h => h) (Or.inl ⟨by rfl, ?_⟩) ?_ ?_
            rotate_left
            · intro w'
              go_simp
              with_reducible rfl
            rotate_left
            · simp only [Act.put, List.setIfInBounds_toArray, List.set_cons_zero, List.set_cons_succ, i64_w, i32_w]
              rfl
            refine pure_ (i := 11) (N := some 86) (v := ?_) (a' := ?_) #[true, true, true, true, true, true, true, true, true, false, true, true, false, false, false, false, false] rfl rfl (by kernel_rfl) (fun _ _ _ h => h) (Or.inl ⟨by rfl, ?_⟩) ?_ ?_
            rotate_left
            · intro w'
              go_simp
              with_reducible rfl
            rotate_left
            · simp only [Act.put, List.setIfInBounds_toArray, List.set_cons_zero, List.set_cons_succ, i64_w, i32_w]
              rfl
            refine pure_ (i := 12) (N := some 87) (v := ?_) (a' := ?_) #[true, true, true, true, true, true, true, true, true, false, true, true, true, false, false, false, false] rfl rfl (by kernel_rfl) (fun _ _ _ h => h) (Or.inl ⟨by rfl, ?_⟩) ?_ ?_
            rotate_left
            · intro w'
              go_simp
              with_reducible rfl
            rotate_left
            · simp only [Act.put, List.setIfInBounds_toArray, List.set_cons_zero, List.set_cons_succ, i64_w, i32_w]
              rfl
            refine pure_ (i := 13) (N := some 88) (v := ?_) (a' := ?_) #[true, true, true, true, true, true, true, true, true, false, true, true, true, true, false, false, false] rfl rfl (by kernel_rfl) (fun _ _ _ h => h) (Or.inl ⟨by rfl, ?_⟩) ?_ ?_
            rotate_left
            · intro w'
              go_simp
              with_reducible rfl
            rotate_left
            · simp only [Act.put, List.setIfInBounds_toArray, List.set_cons_zero, List.set_cons_succ, i64_w, i32_w]
              rfl
            refine take_ (i := 9) (N := some 84) (v := ?_) (a' := ?_) #[true, true, true, true, true, true, true, true, true, true, true, true, true, true, false, false, false] rfl rfl (by kernel_rfl) (fun _ _ _ h => h) (Or.inl ⟨by rfl, ?_⟩) hHeld ?_ ?_
            rotate_left
            · rintro w' ⟨s0, s1⟩
              go_simp
              with_reducible rfl
            rotate_left
            · simp only [Act.put, List.setIfInBounds_toArray, List.set_cons_zero, List.set_cons_succ, i64_w, i32_w]
              rfl
            refine take_ (i := 14) (N := some 89) (v := ?_) (a' := ?_) #[true, true, true, true, true, true, true, true, true, true, true, true, true, true, true, false, false] rfl rfl (by kernel_rfl) (fun _ _ _ h => h) (Or.inl ⟨by rfl, ?_⟩) hHeld ?_ ?_
            rotate_left
            · rintro w' ⟨s0, s1⟩
              go_simp
              with_reducible rfl
            rotate_left
            · simp only [Act.put, List.setIfInBounds_toArray, List.set_cons_zero, List.set_cons_succ, i64_w, i32_w]
              rfl
            refine pure_ (i := 15) (N := some 90) (v := ?_) (a' := ?_) #[true, true, true, true, true, true, true, true, true, true, true, true, true, true, true, true, false] rfl rfl (by kernel_rfl) (fun _ _ _ h => h) (Or.inl ⟨by rfl, ?_⟩) ?_ ?_
            rotate_left
            · intro w'
              go_simp
              with_reducible rfl
            rotate_left
            · simp only [Act.put, List.setIfInBounds_toArray, List.set_cons_zero, List.set_cons_succ, i64_w, i32_w]
              rfl
            refine pure_ (i := 16) (N := some 91) (v := ?_) (a' := ?_) #[true, true, true, true, true, true, true, true, true, true, true, true, true, true, true, true, true] rfl rfl (by kernel_rfl) (fun _ _ _ h => h) (Or.inl ⟨by rfl, ?_⟩) ?_ ?_
            rotate_left
            · intro w'
              go_simp
              with_reducible rfl
            rotate_left
            · simp only [Act.put, List.setIfInBounds_toArray, List.set_cons_zero, List.set_cons_succ, i64_w, i32_w]
              rfl
            refine done_ (by kernel_rfl) ?_
            
            go_wp2
            go_roundg (xs.length - (i + 1))
            case measure => have := hilt.out; have := HI.out; omega
            case rel =>
              refine ⟨i + 1, xi + 1, nv + 1, by first | rfl | rw [hw2], rfl, ⟨⟨by have := HI.out; omega, by have := hilt.out; omega, rfl, by have := HI.out; omega, by have := HI.out; omega, fun k hk => ?_⟩⟩, HO, HB3⟩
              rcases Nat.lt_or_ge k i with h1 | h1
              · exact HI.out.2.2.2.2.2 k h1
              · obtain rfl : k = i := by omega
                rw [← HXE.out]
                exact HXY.out
          · rw [decide_eq_false hxy] at o
            have HGT := Aside0.mk (show i < (nos ds).length → y < (nos ds).getD i 0 from fun _ => by rw [← HXE.out]; omega)
            clear hxy
            go_upto_region 20 with fail
            have n0_ := Aside0.mk (below_drew1 HB3.out)
            have n1_ := Aside0.mk (Kd.R_drew HO.out)
            clear HB3 HO
            have HB3 := n0_
            have HO := n1_
            clear n0_ n1_
            refine start_ (n := 17) (S := fun w' => w'.cell? ⟨(ad1.add (xi.toNat * 2)).block, (ad1.add (xi.toNat * 2)).off + 1, none⟩ = some (.float .f64 (fl x)) ∧ w'.cell? ⟨(ad2.add (xj.toNat * 2)).block, (ad2.add (xj.toNat * 2)).off + 1, none⟩ = some (.float .f64 (fl y))) (ds := []) #[false, false, false, false, false, false, false, false, false, false, false, false, false, false, false, false, false] (by kernel_rfl) rfl rfl ⟨hd1, hb1⟩ (fun hHeld => ?_)
            refine pure_ (i := 0) (N := some 75) (v := ?_) (a' := ?_) #[true, false, false, false, false, false, false, false, false, false, false, false, false, false, false, false, false] rfl rfl (by kernel_rfl) (fun _ _ _ h => h) (Or.inl ⟨by rfl, ?_⟩) ?_ ?_
            rotate_left
            · intro w'
              go_simp
              with_reducible rfl
            rotate_left
            · simp only [Act.put, List.setIfInBounds_toArray, List.set_cons_zero, List.set_cons_succ, i64_w, i32_w]
              rfl
            refine pure_ (i := 1) (N := some 76) (v := ?_) (a' := ?_) #[true, true, false, false, false, false, false, false, false, false, false, false, false, false, false, false, false] rfl rfl (by kernel_rfl) (fun _ _ _ h => h) (Or.inl ⟨by rfl, ?_⟩) ?_ ?_
            rotate_left
            · intro w'
              go_simp
              with_reducible rfl
            rotate_left
            · simp only [Act.put, List.setIfInBounds_toArray, List.set_cons_zero, List.set_cons_succ, i64_w, i32_w]
              rfl
            refine pure_ (i := 2) (N := some 77) (v := ?_) (a' := ?_) #[true, true, true, false, false, false, false, false, false, false, false, false, false, false, false, false, false] rfl rfl (by kernel_rfl) (fun _ _ _ h => h) (Or.inl ⟨by rfl, ?_⟩) ?_ ?_
            rotate_left
            · intro w'
              go_simp
              with_reducible rfl
            rotate_left
            · simp only [Act.put, List.setIfInBounds_toArray, List.set_cons_zero, List.set_cons_succ, i64_w, i32_w]
              rfl
            refine pure_ (i := 3) (N := some 78) (v := ?_) (a' := ?_) #[true, true, true, true, false, false, false, false, false, false, false, false, false, false, false, false, false] rfl rfl (by kernel_rfl) (fun _ _ _ h => h) (Or.inl ⟨by rfl, ?_⟩) ?_ ?_
            rotate_left
            · intro w'
              go_simp
              with_reducible rfl
            rotate_left
            · simp only [Act.put, List.setIfInBounds_toArray, List.set_cons_zero, List.set_cons_succ, i64_w, i32_w]
              rfl
            refine pure_ (i := 4) (N := some 79) (v := ?_) (a' := ?_) #[true, true, true, true, true, false, false, false, false, false, false, false, false, false, false, false, false] rfl rfl (by kernel_rfl) (fun _ _ _ h => h) (Or.inl ⟨by rfl, ?_⟩) ?_ ?_
            rotate_left
            · intro w'
              go_simp
              with_reducible rfl
            rotate_left
            · simp only [Act.put, List.setIfInBounds_toArray, List.set_cons_zero, List.set_cons_succ, i64_w, i32_w]
              rfl
            refine pure_ (i := 5) (N := some 80) (v := ?_) (a' := ?_) #[true, true, true, true, true, true, false, false, false, false, false, false, false, false, false, false, false] rfl rfl (by kernel_rfl) (fun _ _ _ h => h) (Or.inl ⟨by rfl, ?_⟩) ?_ ?_
            rotate_left
            · intro w'
              go_simp
              with_reducible rfl
            rotate_left
            · simp only [Act.put, List.setIfInBounds_toArray, List.set_cons_zero, List.set_cons_succ, i64_w, i32_w]
              rfl
            refine pure_ (i := 6) (N := some 81) (v := ?_) (a' := ?_) #[true, true, true, true, true, true, true, false, false, false, false, false, false, false, false, false, false] rfl rfl (by kernel_rfl) (fun _ _ _ h => h) (Or.inl ⟨by rfl, ?_⟩) ?_ ?_
            rotate_left
            · intro w'
              go_simp
              with_reducible rfl
            rotate_left
            · simp only [Act.put, List.setIfInBounds_toArray, List.set_cons_zero, List.set_cons_succ, i64_w, i32_w]
              rfl
            refine pure_ (i := 7) (N := some 82) (v := ?_) (a' := ?_) #[true, true, true, true, true, true, true, true, false, false, false, false, false, false, false, false, false] rfl rfl (by kernel_rfl) (fun _ _ _ h => h) (Or.inl ⟨by rfl, ?_⟩) ?_ ?_
            rotate_left
            · intro w'
              go_simp
              with_reducible rfl
            rotate_left
            · simp only [Act.put, List.setIfInBounds_toArray, List.set_cons_zero, List.set_cons_succ, i64_w, i32_w]
              rfl
            refine pure_ (i := 8) (N := some 83) (v := ?_) (a' := ?_) #[true, true, true, true, true, true, true, true, true, false, false, false, false, false, false, false, false] rfl rfl (by kernel_rfl) (fun _ _ _ h => h) (Or.inl ⟨by rfl, ?_⟩) ?_ ?_
            rotate_left
            · intro w'
              go_simp
              with_reducible rfl
            rotate_left
            · simp only [Act.put, List.setIfInBounds_toArray, List.set_cons_zero, List.set_cons_succ, i64_w, i32_w]
              rfl
            refine pure_ (i := 10) (N := some 85) (v := ?_) (a' := ?_) #[true, true, true, true, true, true, true, true, true, false, true, false, false, false, false, false, false] rfl rfl (by kernel_rfl) (fun _ _ _ h => h) (Or.inl ⟨by rfl, ?_⟩) ?_ ?_
            rotate_left
            · intro w'
              go_simp
              with_reducible rfl
            rotate_left
            · simp only [Act.put, List.setIfInBounds_toArray, List.set_cons_zero, List.set_cons_succ, i64_w, i32_w]
              rfl
            refine pure_ (i := 11) (N := some 86) (v := ?_) (a' := ?_) #[true, true, true, true, true, true, true, true, true, false, true, true, false, false, false, false, false] rfl rfl (by kernel_rfl) (fun _ _ _ h => h) (Or.inl ⟨by rfl, ?_⟩) ?_ ?_
            rotate_left
            · intro w'
              go_simp
              with_reducible rfl
            rotate_left
            · simp only [Act.put, List.setIfInBounds_toArray, List.set_cons_zero, List.set_cons_succ, i64_w, i32_w]
              rfl
            refine pure_ (i := 12) (N := some 87) (v := ?_) (a' := ?_) #[true, true, true, true, true, true, true, true, true, false, true, true, true, false, false, false, false] rfl rfl (by kernel_rfl) (fun _ _ _ h => h) (Or.inl ⟨by rfl, ?_⟩) ?_ ?_
            rotate_left
            · intro w'
              go_simp
              with_reducible rfl
            rotate_left
            · simp only [Act.put, List.setIfInBounds_toArray, List.set_cons_zero, List.set_cons_succ, i64_w, i32_w]
              rfl
            refine pure_ (i := 13) (N := some 88) (v := ?_) (a' := ?_) #[true, true, true, true, true, true, true, true, true, false, true, true, true, true, false, false, false] rfl rfl (by kernel_rfl) (fun _ _ _ h => h) (Or.inl ⟨by rfl, ?_⟩) ?_ ?_
            rotate_left
            · intro w'
              go_simp
              with_reducible rfl
            rotate_left
            · simp only [Act.put, List.setIfInBounds_toArray, List.set_cons_zero, List.set_cons_succ, i64_w, i32_w]
              rfl
            refine take_ (i := 9) (N := some 84) (v := ?_) (a' := ?_) #[true, true, true, true, true, true, true, true, true, true, true, true, true, true, false, false, false] rfl rfl (by kernel_rfl) (fun _ _ _ h => h) (Or.inl ⟨by rfl, ?_⟩) hHeld ?_ ?_
            rotate_left
            · rintro w' ⟨s0, s1⟩
              go_simp
              with_reducible rfl
            rotate_left
            · simp only [Act.put, List.setIfInBounds_toArray, List.set_cons_zero, List.set_cons_succ, i64_w, i32_w]
              rfl
            refine take_ (i := 14) (N := some 89) (v := ?_) (a' := ?_) #[true, true, true, true, true, true, true, true, true, true, true, true, true, true, true, false, false] rfl rfl (by kernel_rfl) (fun _ _ _ h => h) (Or.inl ⟨by rfl, ?_⟩) hHeld ?_ ?_
            rotate_left
            · rintro w' ⟨s0, s1⟩
              go_simp
              with_reducible rfl
            rotate_left
            · simp only [Act.put, List.setIfInBounds_toArray, List.set_cons_zero, List.set_cons_succ, i64_w, i32_w]
              rfl
            refine pure_ (i := 15) (N := some 90) (v := ?_) (a' := ?_) #[true, true, true, true, true, true, true, true, true, true, true, true, true, true, true, true, false] rfl rfl (by kernel_rfl) (fun _ _ _ h => h) (Or.inl ⟨by rfl, ?_⟩) ?_ ?_
            rotate_left
            · intro w'
              go_simp
              with_reducible rfl
            rotate_left
            · simp only [Act.put, List.setIfInBounds_toArray, List.set_cons_zero, List.set_cons_succ, i64_w, i32_w]
              rfl
            refine pure_ (i := 16) (N := some 91) (v := ?_) (a' := ?_) #[true, true, true, true, true, true, true, true, true, true, true, true, true, true, true, true, true] rfl rfl (by kernel_rfl) (fun _ _ _ h => h) (Or.inl ⟨by rfl, ?_⟩) ?_ ?_
            rotate_left
            · intro w'
              go_simp
              with_reducible rfl
            rotate_left
            · simp only [Act.put, List.setIfInBounds_toArray, List.set_cons_zero, List.set_cons_succ, i64_w, i32_w]
              rfl
            refine done_ (by kernel_rfl) ?_
            
            have HCN := Aside0.mk (show i = cAt xs ys (j + 1) by
              unfold cAt
              rw [if_neg (by omega), Nat.add_sub_cancel, ← HYE.out, ← nos_count HX.out.1 HSD.out.1 y]
              exact (count_at (nos_sorted HSD.out.2) y i (by have h1 : (nos ds).length = xs.length := (by unfold nos; rw [List.length_map, HLD.out]); have := HI.out; omega) HI.out.2.2.2.2.2 HGT.out).symm)
            have HNV := Aside0.mk (show nv = fr xs ys j by unfold fr; rw [if_pos HJL.out, ← HCN.out]; exact HI.out.2.2.2.2.1)
            go_upto_region 23 with fail
            have n0_ := Aside0.mk (below_drew1 HB3.out)
            have n1_ := Aside0.mk (Kd.R_drew HO.out)
            clear HB3 HO
            have HB3 := n0_
            have HO := n1_
            clear n0_ n1_
            have hS0 := (HB3.out.cell (World.block_lt_of_cell? w3 _ HE0.out)).trans HE0.out
            refine start_ (n := 11) (S := fun w' => w'.cell? (ad2.add (xj.toNat * 2)) = some (.int .i64 xj)) (ds := [10]) #[false, false, false, false, false, false, false, false, false, false, false] (by kernel_rfl) rfl rfl (hS0) (fun hHeld => ?_)
            generalize wr.drew.drew = w5 at HB3 HO hHeld ⊢
            refine pure_ (i := 0) (N := some 96) (v := ?_) (a' := ?_) #[true, false, false, false, false, false, false, false, false, false, false] rfl rfl (by kernel_rfl) (fun _ _ _ h => h) (Or.inl ⟨by rfl, ?_⟩) ?_ ?_
            rotate_left
            · intro w'
              go_simp
              with_reducible rfl
            rotate_left
            · simp only [Act.put, List.setIfInBounds_toArray, List.set_cons_zero, List.set_cons_succ, i64_w, i32_w]
              rfl
            refine pure_ (i := 1) (N := some 97) (v := ?_) (a' := ?_) #[true, true, false, false, false, false, false, false, false, false, false] rfl rfl (by kernel_rfl) (fun _ _ _ h => h) (Or.inl ⟨by rfl, ?_⟩) ?_ ?_
            rotate_left
            · intro w'
              go_simp
              with_reducible rfl
            rotate_left
            · simp only [Act.put, List.setIfInBounds_toArray, List.set_cons_zero, List.set_cons_succ, i64_w, i32_w]
              rfl
            refine pure_ (i := 2) (N := some 98) (v := ?_) (a' := ?_) #[true, true, true, false, false, false, false, false, false, false, false] rfl rfl (by kernel_rfl) (fun _ _ _ h => h) (Or.inl ⟨by rfl, ?_⟩) ?_ ?_
            rotate_left
            · intro w'
              go_simp
              with_reducible rfl
            rotate_left
            · simp only [Act.put, List.setIfInBounds_toArray, List.set_cons_zero, List.set_cons_succ, i64_w, i32_w]
              rfl
            refine pure_ (i := 3) (N := some 99) (v := ?_) (a' := ?_) #[true, true, true, true, false, false, false, false, false, false, false] rfl rfl (by kernel_rfl) (fun _ _ _ h => h) (Or.inl ⟨by rfl, ?_⟩) ?_ ?_
            rotate_left
            · intro w'
              go_simp
              with_reducible rfl
            rotate_left
            · simp only [Act.put, List.setIfInBounds_toArray, List.set_cons_zero, List.set_cons_succ, i64_w, i32_w]
              rfl
            refine pure_ (i := 4) (N := some 100) (v := ?_) (a' := ?_) #[true, true, true, true, true, false, false, false, false, false, false] rfl rfl (by kernel_rfl) (fun _ _ _ h => h) (Or.inl ⟨by rfl, ?_⟩) ?_ ?_
            rotate_left
            · intro w'
              go_simp
              with_reducible rfl
            rotate_left
            · simp only [Act.put, List.setIfInBounds_toArray, List.set_cons_zero, List.set_cons_succ, i64_w, i32_w]
              rfl
            refine pure_ (i := 6) (N := some 102) (v := ?_) (a' := ?_) #[true, true, true, true, true, false, true, false, false, false, false] rfl rfl (by kernel_rfl) (fun _ _ _ h => h) (Or.inl ⟨by rfl, ?_⟩) ?_ ?_
            rotate_left
            · intro w'
              go_simp
              with_reducible rfl
            rotate_left
            · simp only [Act.put, List.setIfInBounds_toArray, List.set_cons_zero, List.set_cons_succ, i64_w, i32_w]
              rfl
            refine take_ (i := 5) (N := some 101) (v := ?_) (a' := ?_) #[true, true, true, true, true, true, true, false, false, false, false] rfl rfl (by kernel_rfl) (fun _ _ _ h => h) (Or.inl ⟨by rfl, ?_⟩) hHeld ?_ ?_
            rotate_left
            · intro w' s0
              go_simp
              with_reducible rfl
            rotate_left
            · simp only [Act.put, List.setIfInBounds_toArray, List.set_cons_zero, List.set_cons_succ, i64_w, i32_w]
              rfl
            refine one_ (i := 7) (N := some 103) #[true, true, true, true, true, true, true, true, false, false, false] rfl rfl (by kernel_rfl) (by decide) (fun K hK => ?_)
            refine goes_ Try.func53 (by kernel_rfl) rfl #[.float .f64 (fl nv)] (by rfl) rfl rfl (by (try simp only [List.map_toArray, List.map_cons, List.map_nil]); rfl) ?_
            refine (number nv (by have := HI.out; have := HX.out.2.1; omega) _).mono ?_
            rintro e w6 ⟨rfl, hb⟩
            have E0 := (hb.cell (World.block_lt_of_cell? _ _ hHeld)).trans hHeld
            have n0_ := Aside0.mk (below_step HB3.out hb)
            have n1_ := Aside0.mk (Kd.R_below HO.out hb)
            clear HB3 HO
            have HB3 := n0_
            have HO := n1_
            clear n0_ n1_ hb
            refine ⟨_, rfl, ?_⟩
            refine hK.out _ _ (E0) (fun hHeld => ?_)
            clear hK K
            refine norm_ (a' := ?_) ?_ ?_
            rotate_left
            · show Act.put _ (some 103) _ = _
              simp only [Act.put, List.setIfInBounds_toArray, List.set_cons_zero, List.set_cons_succ, i64_w, i32_w]
              rfl
            refine one_ (i := 8) (N := some 104) #[true, true, true, true, true, true, true, true, true, false, false] rfl rfl (by kernel_rfl) (by decide) (fun K hK => ?_)
            refine value_ (w1 := ?_) (v := ?_) (by rfl) rfl ?_ ?_
            rotate_left 2
            · go_simp
              constructor
              · rfl
              · rfl
            refine hK.out _ _ ((Below.cell (below_alloc (Below.refl _ _) _) (World.block_lt_of_cell? _ _ hHeld)).trans hHeld) (fun hHeld => ?_)
            clear hK K
            refine norm_ (a' := ?_) ?_ ?_
            rotate_left
            · show Act.put _ (some 104) _ = _
              simp only [Act.put, List.setIfInBounds_toArray, List.set_cons_zero, List.set_cons_succ, i64_w, i32_w]
              rfl
            refine pure_ (i := 9) (N := some 105) (v := ?_) (a' := ?_) #[true, true, true, true, true, true, true, true, true, true, false] rfl rfl (by kernel_rfl) (fun _ _ _ h => h) (Or.inl ⟨by rfl, ?_⟩) ?_ ?_
            rotate_left
            · intro w'
              go_simp
              with_reducible rfl
            rotate_left
            · simp only [Act.put, List.setIfInBounds_toArray, List.set_cons_zero, List.set_cons_succ, i64_w, i32_w]
              rfl
            refine last_ (i := 10) (N := none) #[true, true, true, true, true, true, true, true, true, true, true] rfl rfl (by kernel_rfl) (by decide) (fun K hK => ?_)
            obtain ⟨⟨u0, hu0⟩, hf0⟩ := old_row (Kd.R_alloc HO.out (.cells (eA nv).toArray 96)) xj.toNat (by have := HJ.out.1; have := HJL.out; omega)
            refine skip_ (w1 := ?_) (by rfl) rfl ?_ ?_
            rotate_left
            · go_simp
              rfl
            refine hK.out _ _ ?_
            clear hK K
            refine done_ (by kernel_rfl) ?_
            
            have HROW := Aside0.mk (lit_one kA 96 w3.heap.size w6 (x := nv) (cs := eA nv) (ok := fun k => k = w6.heap.size) rfl (below_size HB3.out) rfl)
            have HJN := Aside0.mk (show xj.toNat = j by have := HJ.out.1; omega)
            have n1_ := Aside0.mk (put_row (Kd.R_alloc HO.out (.cells (eA nv).toArray 96)) xj.toNat (by have := HJN.out; have := HJL.out; omega) HROW.out (fun k hk => ⟨trivial, by rw [hk]; exact Nat.ne_of_gt (Kd.R_lt HO.out go rfl)⟩))
            have n0_ := Aside0.mk (below_set (g := go) (j := xj.toNat) (v := .slice (some ⟨w6.heap.size, 0, none⟩) 1 1) (below_alloc HB3.out (.cells (eA nv).toArray 96)) GO.out)
            rw [show (filled (fr xs ys) j (ys.length + 1)).set xj.toNat [nv] = filled (fr xs ys) (j + 1) (ys.length + 1) by rw [HJN.out, HNV.out]; exact filled_set _ _ _ (by have := HJL.out; omega)] at n1_
            clear HO HB3
            have HO := n1_
            have HB3 := n0_
            clear n0_ n1_
            go_wp2
            go_roundg (ys.length - (j + 1))
            case measure => have := HJL.out; have := HJ.out; omega
            case rel =>
              refine ⟨j + 1, xj + 1, xi, by first | rfl | rw [hw1], rfl, ⟨⟨by have := HJ.out.1; omega, by have := HJL.out; omega, rfl, by rw [← HCN.out]; exact HI.out.1, fun k hk m hm1 hm2 => ?_⟩⟩, HO, HB3⟩
              rw [← HCN.out] at hk
              exact Int.le_trans (HI.out.2.2.2.2.2 k hk) (by rw [HYE.out]; exact get_le HY.out.2.2.2 (by omega) hm2)
        · have c4 : decide (xi < (xs.length : Int)) = false := decide_eq_false (by have := HI.out.1; omega)
          have HGT := Aside0.mk (show i < (nos ds).length → y < (nos ds).getD i 0 from fun h => by have h1 : (nos ds).length = xs.length := (by unfold nos; rw [List.length_map, HLD.out]); omega)
          clear hi
          go_upto_region 20 with fail
          have n0_ := Aside0.mk (below_drew1 HB3.out)
          have n1_ := Aside0.mk (Kd.R_drew HO.out)
          clear HB3 HO
          have HB3 := n0_
          have HO := n1_
          clear n0_ n1_
          refine start_ (n := 17) (S := fun w' => True) (ds := []) #[false, false, false, false, false, false, false, false, false, false, false, false, false, false, false, false, false] (by kernel_rfl) rfl rfl trivial (fun hHeld => ?_)
          refine pure_ (i := 0) (N := some 75) (v := ?_) (a' := ?_) #[true, false, false, false, false, false, false, false, false, false, false, false, false, false, false, false, false] rfl rfl (by kernel_rfl) (fun _ _ _ h => h) (Or.inl ⟨by rfl, ?_⟩) ?_ ?_
          rotate_left
          · intro w'
            go_simp
            with_reducible rfl
          rotate_left
          · simp only [Act.put, List.setIfInBounds_toArray, List.set_cons_zero, List.set_cons_succ, i64_w, i32_w]
            rfl
          refine pure_ (i := 1) (N := some 76) (v := ?_) (a' := ?_) #[true, true, false, false, false, false, false, false, false, false, false, false, false, false, false, false, false] rfl rfl (by kernel_rfl) (fun _ _ _ h => h) (Or.inl ⟨by rfl, ?_⟩) ?_ ?_
          rotate_left
          · intro w'
            go_simp
            with_reducible rfl
          rotate_left
          · simp only [Act.put, List.setIfInBounds_toArray, List.set_cons_zero, List.set_cons_succ, i64_w, i32_w]
            rfl
          refine pure_ (i := 2) (N := some 77) (v := ?_) (a' := ?_) #[true, true, true, false, false, false, false, false, false, false, false, false, false, false, false, false, false] rfl rfl (by kernel_rfl) (fun _ _ _ h => h) (Or.inl ⟨by rfl, ?_⟩) ?_ ?_
          rotate_left
          · intro w'
            go_simp
            with_reducible rfl
          rotate_left
          · simp only [Act.put, List.setIfInBounds_toArray, List.set_cons_zero, List.set_cons_succ, i64_w, i32_w]
            rfl
          refine pure_ (i := 3) (N := some 78) (v := ?_) (a' := ?_) #[true, true, true, true, false, false, false, false, false, false, false, false, false, false, false, false, false] rfl rfl (by kernel_rfl) (fun _ _ _ h => h) (Or.inl ⟨by rfl, ?_⟩) ?_ ?_
          rotate_left
          · intro w'
            go_simp
            with_reducible rfl
          rotate_left
          · simp only [Act.put, List.setIfInBounds_toArray, List.set_cons_zero, List.set_cons_succ, i64_w, i32_w]
            rfl
          refine pure_ (i := 4) (N := some 79) (v := ?_) (a' := ?_) #[true, true, true, true, true, false, false, false, false, false, false, false, false, false, false, false, false] rfl rfl (by kernel_rfl) (fun _ _ _ h => h) (Or.inl ⟨by rfl, ?_⟩) ?_ ?_
          rotate_left
          · intro w'
            go_simp
            with_reducible rfl
          rotate_left
          · simp only [Act.put, List.setIfInBounds_toArray, List.set_cons_zero, List.set_cons_succ, i64_w, i32_w]
            rfl
          refine pure_ (i := 5) (N := some 80) (v := undef) (a' := ?_) #[true, true, true, true, true, true, false, false, false, false, false, false, false, false, false, false, false] rfl rfl (by kernel_rfl) (fun _ _ _ h => h) (Or.inr ⟨by rfl, rfl⟩) ?_ ?_
          rotate_left
          · simp only [Act.put, List.setIfInBounds_toArray, List.set_cons_zero, List.set_cons_succ, i64_w, i32_w]
            rfl
          refine pure_ (i := 6) (N := some 81) (v := undef) (a' := ?_) #[true, true, true, true, true, true, true, false, false, false, false, false, false, false, false, false, false] rfl rfl (by kernel_rfl) (fun _ _ _ h => h) (Or.inr ⟨by rfl, rfl⟩) ?_ ?_
          rotate_left
          · simp only [Act.put, List.setIfInBounds_toArray, List.set_cons_zero, List.set_cons_succ, i64_w, i32_w]
            rfl
          refine pure_ (i := 7) (N := some 82) (v := undef) (a' := ?_) #[true, true, true, true, true, true, true, true, false, false, false, false, false, false, false, false, false] rfl rfl (by kernel_rfl) (fun _ _ _ h => h) (Or.inr ⟨by rfl, rfl⟩) ?_ ?_
          rotate_left
          · simp only [Act.put, List.setIfInBounds_toArray, List.set_cons_zero, List.set_cons_succ, i64_w, i32_w]
            rfl
          refine pure_ (i := 8) (N := some 83) (v := undef) (a' := ?_) #[true, true, true, true, true, true, true, true, true, false, false, false, false, false, false, false, false] rfl rfl (by kernel_rfl) (fun _ _ _ h => h) (Or.inr ⟨by rfl, rfl⟩) ?_ ?_
          rotate_left
          · simp only [Act.put, List.setIfInBounds_toArray, List.set_cons_zero, List.set_cons_succ, i64_w, i32_w]
            rfl
          refine pure_ (i := 9) (N := some 84) (v := undef) (a' := ?_) #[true, true, true, true, true, true, true, true, true, true, false, false, false, false, false, false, false] rfl rfl (by kernel_rfl) (fun _ _ _ h => h) (Or.inr ⟨by rfl, rfl⟩) ?_ ?_
          rotate_left
          · simp only [Act.put, List.setIfInBounds_toArray, List.set_cons_zero, List.set_cons_succ, i64_w, i32_w]
            rfl
          refine pure_ (i := 10) (N := some 85) (v := undef) (a' := ?_) #[true, true, true, true, true, true, true, true, true, true, true, false, false, false, false, false, false] rfl rfl (by kernel_rfl) (fun _ _ _ h => h) (Or.inr ⟨by rfl, rfl⟩) ?_ ?_
          rotate_left
          · simp only [Act.put, List.setIfInBounds_toArray, List.set_cons_zero, List.set_cons_succ, i64_w, i32_w]
            rfl
          refine pure_ (i := 11) (N := some 86) (v := undef) (a' := ?_) #[true, true, true, true, true, true, true, true, true, true, true, true, false, false, false, false, false] rfl rfl (by kernel_rfl) (fun _ _ _ h => h) (Or.inr ⟨by rfl, rfl⟩) ?_ ?_
          rotate_left
          · simp only [Act.put, List.setIfInBounds_toArray, List.set_cons_zero, List.set_cons_succ, i64_w, i32_w]
            rfl
          refine pure_ (i := 12) (N := some 87) (v := undef) (a' := ?_) #[true, true, true, true, true, true, true, true, true, true, true, true, true, false, false, false, false] rfl rfl (by kernel_rfl) (fun _ _ _ h => h) (Or.inr ⟨by rfl, rfl⟩) ?_ ?_
          rotate_left
          · simp only [Act.put, List.setIfInBounds_toArray, List.set_cons_zero, List.set_cons_succ, i64_w, i32_w]
            rfl
          refine pure_ (i := 13) (N := some 88) (v := undef) (a' := ?_) #[true, true, true, true, true, true, true, true, true, true, true, true, true, true, false, false, false] rfl rfl (by kernel_rfl) (fun _ _ _ h => h) (Or.inr ⟨by rfl, rfl⟩) ?_ ?_
          rotate_left
          · simp only [Act.put, List.setIfInBounds_toArray, List.set_cons_zero, List.set_cons_succ, i64_w, i32_w]
            rfl
          refine pure_ (i := 14) (N := some 89) (v := undef) (a' := ?_) #[true, true, true, true, true, true, true, true, true, true, true, true, true, true, true, false, false] rfl rfl (by kernel_rfl) (fun _ _ _ h => h) (Or.inr ⟨by rfl, rfl⟩) ?_ ?_
          rotate_left
          · simp only [Act.put, List.setIfInBounds_toArray, List.set_cons_zero, List.set_cons_succ, i64_w, i32_w]
            rfl
          refine pure_ (i := 15) (N := some 90) (v := undef) (a' := ?_) #[true, true, true, true, true, true, true, true, true, true, true, true, true, true, true, true, false] rfl rfl (by kernel_rfl) (fun _ _ _ h => h) (Or.inr ⟨by rfl, rfl⟩) ?_ ?_
          rotate_left
          · simp only [Act.put, List.setIfInBounds_toArray, List.set_cons_zero, List.set_cons_succ, i64_w, i32_w]
            rfl
          refine pure_ (i := 16) (N := some 91) (v := ?_) (a' := ?_) #[true, true, true, true, true, true, true, true, true, true, true, true, true, true, true, true, true] rfl rfl (by kernel_rfl) (fun _ _ _ h => h) (Or.inl ⟨by rfl, ?_⟩) ?_ ?_
          rotate_left
          · intro w'
            go_simp
            with_reducible rfl
          rotate_left
          · simp only [Act.put, List.setIfInBounds_toArray, List.set_cons_zero, List.set_cons_succ, i64_w, i32_w]
            rfl
          refine done_ (by kernel_rfl) ?_
          
          have HCN := Aside0.mk (show i = cAt xs ys (j + 1) by
            unfold cAt
            rw [if_neg (by omega), Nat.add_sub_cancel, ← HYE.out, ← nos_count HX.out.1 HSD.out.1 y]
            exact (count_at (nos_sorted HSD.out.2) y i (by have h1 : (nos ds).length = xs.length := (by unfold nos; rw [List.length_map, HLD.out]); have := HI.out; omega) HI.out.2.2.2.2.2 HGT.out).symm)
          have HNV := Aside0.mk (show nv = fr xs ys j by unfold fr; rw [if_pos HJL.out, ← HCN.out]; exact HI.out.2.2.2.2.1)
          go_upto_region 23 with fail
          have n0_ := Aside0.mk (below_drew1 HB3.out)
          have n1_ := Aside0.mk (Kd.R_drew HO.out)
          clear HB3 HO
          have HB3 := n0_
          have HO := n1_
          clear n0_ n1_
          have hS0 := (HB3.out.cell (World.block_lt_of_cell? w3 _ HE0.out)).trans HE0.out
          refine start_ (n := 11) (S := fun w' => w'.cell? (ad2.add (xj.toNat * 2)) = some (.int .i64 xj)) (ds := [10]) #[false, false, false, false, false, false, false, false, false, false, false] (by kernel_rfl) rfl rfl (hS0) (fun hHeld => ?_)
          generalize wr.drew.drew = w5 at HB3 HO hHeld ⊢
          refine pure_ (i := 0) (N := some 96) (v := ?_) (a' := ?_) #[true, false, false, false, false, false, false, false, false, false, false] rfl rfl (by kernel_rfl) (fun _ _ _ h => h) (Or.inl ⟨by rfl, ?_⟩) ?_ ?_
          rotate_left
          · intro w'
            go_simp
            with_reducible rfl
          rotate_left
          · simp only [Act.put, List.setIfInBounds_toArray, List.set_cons_zero, List.set_cons_succ, i64_w, i32_w]
            rfl
          refine pure_ (i := 1) (N := some 97) (v := ?_) (a' := ?_) #[true, true, false, false, false, false, false, false, false, false, false] rfl rfl (by kernel_rfl) (fun _ _ _ h => h) (Or.inl ⟨by rfl, ?_⟩) ?_ ?_
          rotate_left
          · intro w'
            go_simp
            with_reducible rfl
          rotate_left
          · simp only [Act.put, List.setIfInBounds_toArray, List.set_cons_zero, List.set_cons_succ, i64_w, i32_w]
            rfl
          refine pure_ (i := 2) (N := some 98) (v := ?_) (a' := ?_) #[true, true, true, false, false, false, false, false, false, false, false] rfl rfl (by kernel_rfl) (fun _ _ _ h => h) (Or.inl ⟨by rfl, ?_⟩) ?_ ?_
          rotate_left
          · intro w'
            go_simp
            with_reducible rfl
          rotate_left
          · simp only [Act.put, List.setIfInBounds_toArray, List.set_cons_zero, List.set_cons_succ, i64_w, i32_w]
            rfl
          refine pure_ (i := 3) (N := some 99) (v := ?_) (a' := ?_) #[true, true, true, true, false, false, false, false, false, false, false] rfl rfl (by kernel_rfl) (fun _ _ _ h => h) (Or.inl ⟨by rfl, ?_⟩) ?_ ?_
          rotate_left
          · intro w'
            go_simp
            with_reducible rfl
          rotate_left
          · simp only [Act.put, List.setIfInBounds_toArray, List.set_cons_zero, List.set_cons_succ, i64_w, i32_w]
            rfl
          refine pure_ (i := 4) (N := some 100) (v := ?_) (a' := ?_) #[true, true, true, true, true, false, false, false, false, false, false] rfl rfl (by kernel_rfl) (fun _ _ _ h => h) (Or.inl ⟨by rfl, ?_⟩) ?_ ?_
          rotate_left
          · intro w'
            go_simp
            with_reducible rfl
          rotate_left
          · simp only [Act.put, List.setIfInBounds_toArray, List.set_cons_zero, List.set_cons_succ, i64_w, i32_w]
            rfl
          refine pure_ (i := 6) (N := some 102) (v := ?_) (a' := ?_) #[true, true, true, true, true, false, true, false, false, false, false] rfl rfl (by kernel_rfl) (fun _ _ _ h => h) (Or.inl ⟨by rfl, ?_⟩) ?_ ?_
          rotate_left
          · intro w'
            go_simp
            with_reducible rfl
          rotate_left
          · simp only [Act.put, List.setIfInBounds_toArray, List.set_cons_zero, List.set_cons_succ, i64_w, i32_w]
            rfl
          refine take_ (i := 5) (N := some 101) (v := ?_) (a' := ?_) #[true, true, true, true, true, true, true, false, false, false, false] rfl rfl (by kernel_rfl) (fun _ _ _ h => h) (Or.inl ⟨by rfl, ?_⟩) hHeld ?_ ?_
          rotate_left
          · intro w' s0
            go_simp
            with_reducible rfl
          rotate_left
          · simp only [Act.put, List.setIfInBounds_toArray, List.set_cons_zero, List.set_cons_succ, i64_w, i32_w]
            rfl
          refine one_ (i := 7) (N := some 103) #[true, true, true, true, true, true, true, true, false, false, false] rfl rfl (by kernel_rfl) (by decide) (fun K hK => ?_)
          refine goes_ Try.func53 (by kernel_rfl) rfl #[.float .f64 (fl nv)] (by rfl) rfl rfl (by (try simp only [List.map_toArray, List.map_cons, List.map_nil]); rfl) ?_
          refine (number nv (by have := HI.out; have := HX.out.2.1; omega) _).mono ?_
          rintro e w6 ⟨rfl, hb⟩
          have E0 := (hb.cell (World.block_lt_of_cell? _ _ hHeld)).trans hHeld
          have n0_ := Aside0.mk (below_step HB3.out hb)
          have n1_ := Aside0.mk (Kd.R_below HO.out hb)
          clear HB3 HO
          have HB3 := n0_
          have HO := n1_
          clear n0_ n1_ hb
          refine ⟨_, rfl, ?_⟩
          refine hK.out _ _ (E0) (fun hHeld => ?_)
          clear hK K
          refine norm_ (a' := ?_) ?_ ?_
          rotate_left
          · show Act.put _ (some 103) _ = _
            simp only [Act.put, List.setIfInBounds_toArray, List.set_cons_zero, List.set_cons_succ, i64_w, i32_w]
            rfl
          refine one_ (i := 8) (N := some 104) #[true, true, true, true, true, true, true, true, true, false, false] rfl rfl (by kernel_rfl) (by decide) (fun K hK => ?_)
          refine value_ (w1 := ?_) (v := ?_) (by rfl) rfl ?_ ?_
          rotate_left 2
          · go_simp
            constructor
            · rfl
            · rfl
          refine hK.out _ _ ((Below.cell (below_alloc (Below.refl _ _) _) (World.block_lt_of_cell? _ _ hHeld)).trans hHeld) (fun hHeld => ?_)
          clear hK K
          refine norm_ (a' := ?_) ?_ ?_
          rotate_left
          · show Act.put _ (some 104) _ = _
            simp only [Act.put, List.setIfInBounds_toArray, List.set_cons_zero, List.set_cons_succ, i64_w, i32_w]
            rfl
          refine pure_ (i := 9) (N := some 105) (v := ?_) (a' := ?_) #[true, true, true, true, true, true, true, true, true, true, false] rfl rfl (by kernel_rfl) (fun _ _ _ h => h) (Or.inl ⟨by rfl, ?_⟩) ?_ ?_
          rotate_left
          · intro w'
            go_simp
            with_reducible rfl
          rotate_left
          · simp only [Act.put, List.setIfInBounds_toArray, List.set_cons_zero, List.set_cons_succ, i64_w, i32_w]
            rfl
          refine last_ (i := 10) (N := none) #[true, true, true, true, true, true, true, true, true, true, true] rfl rfl (by kernel_rfl) (by decide) (fun K hK => ?_)
          obtain ⟨⟨u0, hu0⟩, hf0⟩ := old_row (Kd.R_alloc HO.out (.cells (eA nv).toArray 96)) xj.toNat (by have := HJ.out.1; have := HJL.out; omega)
          refine skip_ (w1 := ?_) (by rfl) rfl ?_ ?_
          rotate_left
          · go_simp
            rfl
          refine hK.out _ _ ?_
          clear hK K
          refine done_ (by kernel_rfl) ?_
          
          have HROW := Aside0.mk (lit_one kA 96 w3.heap.size w6 (x := nv) (cs := eA nv) (ok := fun k => k = w6.heap.size) rfl (below_size HB3.out) rfl)
          have HJN := Aside0.mk (show xj.toNat = j by have := HJ.out.1; omega)
          have n1_ := Aside0.mk (put_row (Kd.R_alloc HO.out (.cells (eA nv).toArray 96)) xj.toNat (by have := HJN.out; have := HJL.out; omega) HROW.out (fun k hk => ⟨trivial, by rw [hk]; exact Nat.ne_of_gt (Kd.R_lt HO.out go rfl)⟩))
          have n0_ := Aside0.mk (below_set (g := go) (j := xj.toNat) (v := .slice (some ⟨w6.heap.size, 0, none⟩) 1 1) (below_alloc HB3.out (.cells (eA nv).toArray 96)) GO.out)
          rw [show (filled (fr xs ys) j (ys.length + 1)).set xj.toNat [nv] = filled (fr xs ys) (j + 1) (ys.length + 1) by rw [HJN.out, HNV.out]; exact filled_set _ _ _ (by have := HJL.out; omega)] at n1_
          clear HO HB3
          have HO := n1_
          have HB3 := n0_
          clear n0_ n1_
          go_wp2
          go_roundg (ys.length - (j + 1))
          case measure => have := HJL.out; have := HJ.out; omega
          case rel =>
            refine ⟨j + 1, xj + 1, xi, by first | rfl | rw [hw1], rfl, ⟨⟨by have := HJ.out.1; omega, by have := HJL.out; omega, rfl, by rw [← HCN.out]; exact HI.out.1, fun k hk m hm1 hm2 => ?_⟩⟩, HO, HB3⟩
            rw [← HCN.out] at hk
            exact Int.le_trans (HI.out.2.2.2.2.2 k hk) (by rw [HYE.out]; exact get_le HY.out.2.2.2 (by omega) hm2)
    · have c1 : decide (xj < (ys.length : Int)) = false := decide_eq_false (by have := HJ.out.1; omega)
      have hjl : j = ys.length := by have := HJ.out.2.1; omega
      subst hjl
      have HXI := Aside0.mk HJ.out.2.2.2.1
      have HXL := Aside0.mk (cAt_le xs ys ys.length)
      have hwx : wrap64 ((xs.length : Int) - xi) = (xs.length : Int) - xi := by have := HXI.out; have := HXL.out; have := HX.out.2.1; unfold wrap64; omega
      have HFV := Aside0.mk (show (xs.length : Int) - xi = fr xs ys ys.length by unfold fr; rw [if_neg (Nat.lt_irrefl _), HXI.out])
      have HFB := Aside0.mk (show -500 ≤ wrap64 ((xs.length : Int) - xi) ∧ wrap64 ((xs.length : Int) - xi) ≤ 500 by rw [hwx]; have := HXI.out; have := HXL.out; have := HX.out.2.1; omega)
      have HNE := Aside0.mk hwx
      have r1 : ((0 : Int) ≤ (ys.length : Int)) = True := eq_true (by omega)
      have r2 : ((ys.length : Int) < (ys.length : Int) + 1) = True := eq_true (by omega)
      have r3 : ((ys.length : Int) < ((ys.length + 1 : Nat) : Int)) = True := eq_true (by omega)
      have r4 : (ys.length < ys.length + 1) = True := eq_true (by omega)
      clear hj hwx
      go_upto_region 26 with (go_at_call 53; (with_reducible refine (number (wrap64 ((xs.length : Int) - xi)) HFB.out _).mono ?_); rintro e w6 ⟨rfl, hb⟩; have n0_ := Aside0.mk (below_step HB3.out hb); have n1_ := Aside0.mk (Kd.R_below HO.out hb); clear HB3 HO hb; have HB3 := n0_; have HO := n1_; clear n0_ n1_; obtain ⟨⟨u0, hu0⟩, hf0⟩ := old_row (Kd.R_alloc HO.out (.cells (eA (wrap64 ((xs.length : Int) - xi))).toArray 96)) ys.length (Nat.lt_succ_self _))
      have HROW := Aside0.mk (lit_one kA 96 w3.heap.size w6 (x := wrap64 ((xs.length : Int) - xi)) (cs := eA (wrap64 ((xs.length : Int) - xi))) (ok := fun k => k = w6.heap.size) rfl (below_size HB3.out) rfl)
      have n1_ := Aside0.mk (put_row (Kd.R_alloc HO.out (.cells (eA (wrap64 ((xs.length : Int) - xi))).toArray 96)) ys.length (Nat.lt_succ_self _) HROW.out (fun k hk => ⟨trivial, by rw [hk]; exact Nat.ne_of_gt (Kd.R_lt HO.out go rfl)⟩))
      have n0_ := Aside0.mk (below_set (g := go) (j := ys.length) (v := .slice (some ⟨w6.heap.size, 0, none⟩) 1 1) (below_alloc HB3.out (.cells (eA (wrap64 ((xs.length : Int) - xi))).toArray 96)) GO.out)
      rw [show (filled (fr xs ys) ys.length (ys.length + 1)).set ys.length [wrap64 ((xs.length : Int) - xi)] = rws (counts xs ys) by rw [HNE.out, HFV.out, filled_set _ _ _ (Nat.lt_succ_self _), filled_all]; rfl] at n1_
      clear HO HB3 hu0 hf0
      have HO := n1_
      have HB3 := n0_
      clear n0_ n1_
      generalize (w6.alloc (.cells (eA (wrap64 ((xs.length : Int) - xi))).toArray 96)).setCell ⟨go, ys.length, none⟩ (.slice (some ⟨w6.heap.size, 0, none⟩) 1 1) = w7 at HO HB3 ⊢
      go_wp2_with (go_at_call 54; (with_reducible refine (matrix (some ⟨go, 0, none⟩) (ys.length + 1) cap _).mono ?_); rintro e w8 ⟨rfl, hb⟩; have n0_ := Aside0.mk (below_step HB3.out hb); have n1_ := Aside0.mk (Kd.R_below HO.out hb); clear HB3 HO hb; have HB3 := n0_; have HO := n1_; clear n0_ n1_; have BR8 := Aside0.mk (blk_below BR.out HB3.out); have hcr0 : w8.cell? ⟨w.heap.size, 0, none⟩ = some (.string ⟨#[]⟩) := (blk_cell BR8.out 0).trans rfl; have hfr0 : w8.frozen? ⟨w.heap.size, 0, none⟩ = false := blk_frozen BR8.out 0; have hcr1 : w8.cell? ⟨w.heap.size, 1, none⟩ = some (.float .f64 0) := (blk_cell BR8.out 1).trans rfl; have hfr1 : w8.frozen? ⟨w.heap.size, 1, none⟩ = false := blk_frozen BR8.out 1; have hcr2 : w8.cell? ⟨w.heap.size, 2, none⟩ = some (.string ⟨#[]⟩) := (blk_cell BR8.out 2).trans rfl; have hfr2 : w8.frozen? ⟨w.heap.size, 2, none⟩ = false := blk_frozen BR8.out 2; have hcr3 : w8.cell? ⟨w.heap.size, 3, none⟩ = some (.slice none 0 0) := (blk_cell BR8.out 3).trans rfl; have hfr3 : w8.frozen? ⟨w.heap.size, 3, none⟩ = false := blk_frozen BR8.out 3; have hcr4 : w8.cell? ⟨w.heap.size, 4, none⟩ = some (.slice none 0 0) := (blk_cell BR8.out 4).trans rfl; have hfr4 : w8.frozen? ⟨w.heap.size, 4, none⟩ = false := blk_frozen BR8.out 4; have hcr5 : w8.cell? ⟨w.heap.size, 5, none⟩ = some (.bool false) := (blk_cell BR8.out 5).trans rfl; have hfr5 : w8.frozen? ⟨w.heap.size, 5, none⟩ = false := blk_frozen BR8.out 5; have hcr6 : w8.cell? ⟨w.heap.size, 6, none⟩ = some (.string ⟨#[]⟩) := (blk_cell BR8.out 6).trans rfl; have hfr6 : w8.frozen? ⟨w.heap.size, 6, none⟩ = false := blk_frozen BR8.out 6; have hcr7 : w8.cell? ⟨w.heap.size, 7, none⟩ = some (.int .u8 0) := (blk_cell BR8.out 7).trans rfl; have hfr7 : w8.frozen? ⟨w.heap.size, 7, none⟩ = false := blk_frozen BR8.out 7; have hcr8 : w8.cell? ⟨w.heap.size, 8, none⟩ = some (.pointer none) := (blk_cell BR8.out 8).trans rfl; have hfr8 : w8.frozen? ⟨w.heap.size, 8, none⟩ = false := blk_frozen BR8.out 8; have hcr9 : w8.cell? ⟨w.heap.size, 9, none⟩ = some (.pointer none) := (blk_cell BR8.out 9).trans rfl; have hfr9 : w8.frozen? ⟨w.heap.size, 9, none⟩ = false := blk_frozen BR8.out 9)
      refine bodyPost_ret (results_cell_row rfl _ _ w.heap.size 96 #[.string ⟨#[]⟩, .float .f64 0, .string ⟨#[]⟩, .slice none 0 0, .slice (some ⟨go, 0, none⟩) (ys.length + 1) cap, .bool false, .string ⟨#[]⟩, .int .u8 4, .pointer none, .pointer none] (0, 0) _ rfl (show (Flt.sets w8 w.heap.size 0 [.string ⟨#[]⟩, .float .f64 0, .string ⟨#[]⟩, .slice none 0 0, .slice (some ⟨go, 0, none⟩) (ys.length + 1) cap, .bool false, .string ⟨#[]⟩, .int .u8 4, .pointer none, .pointer none]).heap[w.heap.size]? = some (.cells #[.string ⟨#[]⟩, .float .f64 0, .string ⟨#[]⟩, .slice none 0 0, .slice (some ⟨go, 0, none⟩) (ys.length + 1) cap, .bool false, .string ⟨#[]⟩, .int .u8 4, .pointer none, .pointer none] 96 (0, 0)) from Flt.sets_all [.string ⟨#[]⟩, .float .f64 0, .string ⟨#[]⟩, .slice none 0 0, .slice (some ⟨go, 0, none⟩) (ys.length + 1) cap, .bool false, .string ⟨#[]⟩, .int .u8 4, .pointer none, .pointer none] BR8.out rfl) Try.underlying96 rfl (by kernel_rfl)) rfl ?_
      refine ⟨_, by rfl, ?_, (show Below w.heap.size w (Flt.sets w8 w.heap.size 0 [.string ⟨#[]⟩, .float .f64 0, .string ⟨#[]⟩, .slice none 0 0, .slice (some ⟨go, 0, none⟩) (ys.length + 1) cap, .bool false, .string ⟨#[]⟩, .int .u8 4, .pointer none, .pointer none]) from Flt.sets_below (Nat.le_refl _) _ _ _ (below_step HB.out HB3.out))⟩
      have hlt : w.heap.size < w3.heap.size := blk_lt BR.out
      have h_ := Kd.R_lower (Kd.R_step (Kd.R_mono (ok' := fun k => k ≠ w.heap.size) (Kd.R_bound HO.out) (fun k hk => by have h1 := hk.2.1; omega)) (fun k hk _ => Flt.sets_far (w := w8) hk [.string ⟨#[]⟩, .float .f64 0, .string ⟨#[]⟩, .slice none 0 0, .slice (some ⟨go, 0, none⟩) (ys.length + 1) cap, .bool false, .string ⟨#[]⟩, .int .u8 4, .pointer none, .pointer none] 0)) (Nat.le_of_lt hlt)
      exact (show (kCol 96 kA).R 91 (Flt.sets w8 w.heap.size 0 [.string ⟨#[]⟩, .float .f64 0, .string ⟨#[]⟩, .slice none 0 0, .slice (some ⟨go, 0, none⟩) (ys.length + 1) cap, .bool false, .string ⟨#[]⟩, .int .u8 4, .pointer none, .pointer none]) _ _ _ _ from Kd.R_mono h_ (fun _ _ => trivial))
end Go.Proofs.Ytjefbpfpobgmaaa.FrX
