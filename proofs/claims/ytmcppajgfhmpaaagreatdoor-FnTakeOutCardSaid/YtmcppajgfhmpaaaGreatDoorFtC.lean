/- FnTakeOut, walks: the cells of areas, by columns (flatSqref). Conditions: each piece of the text is an area within the limits. -/
import Derived.Test.YtmcppajgfhmpaaaGreatDoorFtS
import Derived.Test.YtmcppajgfhmpaaaGreatDoorCellC
import Derived.Test.YtmcppajgfhmpaaaGreatDoorShMore
import Derived.Test.YtmcppajgfhmpaaaGreatDoorFtQ
namespace Go.Proofs.YtmcppajgfhmpaaaGreatDoor.FtC
open Go.RowKit Go.Proofs.YtmcppajgfhmpaaaGreatDoorW.PrintWords Go.Proofs.YtmcppajgfhmpaaaGreatDoorW.PrintLast Go.Proofs.YtmcppajgfhmpaaaGreatDoorW.PrintMore Go.Proofs.YtmcppajgfhmpaaaGreatDoor.Str Go.Proofs.YtmcppajgfhmpaaaGreatDoor.CellB Go.Proofs.YtmcppajgfhmpaaaGreatDoor.CellC Go.Proofs.YtmcppajgfhmpaaaGreatDoor.PrangeRefToCoordinates Go.Proofs.YtmcppajgfhmpaaaGreatDoor.FtA Go.Proofs.YtmcppajgfhmpaaaGreatDoor.FtB Go.Proofs.YtmcppajgfhmpaaaGreatDoor.FtP Go.Proofs.YtmcppajgfhmpaaaGreatDoor.FtS Go.Proofs.YtmcppajgfhmpaaaGreatDoor.FtQ
set_option linter.unusedVariables false
set_option linter.unusedSimpArgs false
theorem cols_none {W : World} {B base n : Nat} {D : DataW Value} {g : Int → Value} {l : Int → List Int} {h : Int → Bool} {S : Int → Nat → Prop} (k : Cols W B base n D g l h S) (c : Int) (hc : h c = false) : l c = [] := by
  have h1 := k.says.1 c
  rw [Maps.atKey_of_not_has (by rw [k.says.2 c]; exact hc)] at h1
  have h2 : g c = .slice none 0 0 := by injection h1 with h1; exact h1.symm
  have hR := k.rows c
  rw [h2] at hR
  have h3 := (Kd.R_reads' hR).1
  rw [prs_len] at h3
  exact List.eq_nil_of_length_eq_zero h3.symm
theorem one_flat (l : Int → List Int) (a : Ar) (h : a.r0 = a.r1) (h2 : a.c0 = a.c1) : upd l a.c0 (l a.c0 ++ [a.r0]) = flatA l a := by
  funext k
  unfold flatA
  by_cases e : k = a.c0
  · subst e
    rw [upd_self, if_pos ⟨Int.le_refl _, Int.le_of_eq h2⟩, ← h, rowsTo_step _ _ (Int.le_refl _), rowsTo_start]
    rfl
  · rw [upd_ne _ _ e, if_neg (by omega)]
theorem sorted4 (x y z u : Int) (h1 : x ≤ z) (h2 : y ≤ u) (A : Option Addr) (c : Nat) (hc : 4 ≤ c) (w : World) (hr : Kd.C (Kd.int .i64) w A 4 [x, y, z, u]) : Calls Tryz.prog 35 #[.slice A 4 c] w fun e w' => e = .returned .nilIface ∧ Below w.heap.size w w' := by
  have hf : PTo.excelize_sortCoordinates.f [x, y, z, u] = some none := by
    unfold PTo.excelize_sortCoordinates.f
    have e0 : rd [x, y, z, u] 0 = x := rfl
    have e1 : rd [x, y, z, u] 1 = y := rfl
    have e2 : rd [x, y, z, u] 2 = z := rfl
    have e3 : rd [x, y, z, u] 3 = u := rfl
    rw [e0, e1, e2, e3, if_neg (show ¬ z < x by omega), if_neg (show ¬ u < y by omega)]
    rfl
  exact PTo.excelize_sortCoordinates.calls A c [x, y, z, u] none w hr hc hf
/-- A row of texts, newly made. -/
theorem texts_new (W : World) (xs : List ByteArray) (hm : xs.length ≤ 1000000) : Kd.C Kd.string (W.alloc (.cells (xs.map Value.string).toArray 9)) (some ⟨W.heap.size, 0, none⟩) xs.length xs := by
  have hb := blk_new W (.cells (xs.map Value.string).toArray 9)
  refine ⟨rfl, by omega, fun _ => ⟨_, rfl, fun j p hj => ⟨[.string p], rfl, rfl, fun i u hu => ?_⟩⟩⟩
  have hi : i = 0 := by have := (List.getElem?_eq_some_iff.1 hu).1; simp at this; exact this
  subst hi
  obtain rfl : Value.string p = u := by simpa using hu
  have ha : (⟨W.heap.size, 0, none⟩ : Addr).add (j * 1 + 0) = ⟨W.heap.size, j, none⟩ := by
    rw [Nat.mul_one, Nat.add_zero]
    unfold Addr.add
    by_cases h : j = 0
    · simp [h]
    · simp [h]
  show World.cell? _ ((⟨W.heap.size, 0, none⟩ : Addr).add (j * 1 + 0)) = _
  rw [ha]
  refine (blk_cell hb j).trans ?_
  rw [List.getElem?_toArray, List.getElem?_map, hj]
  rfl
set_option maxHeartbeats 4000000 in
set_option maxRecDepth 100000 in
theorem flat (s : ByteArray) (ps : List ByteArray) (ars : List Ar) (hlen : ps.length = ars.length) (hps : ∀ (i : Nat) p a, ps[i]? = some p → ars[i]? = some a → Piece p a) (hn : ps.length ≤ 2000) (w : World)
    (hF : ∀ W : World, Below w.heap.size w W → Calls Tryz.prog 15 #[.string s] W fun e w' => ∃ g c, e = .returned (.slice (some ⟨g, 0, none⟩) ps.length c) ∧ Kd.C Kd.string w' (some ⟨g, 0, none⟩) ps.length ps ∧ Below W.heap.size W w' ∧ W.heap.size ≤ g ∧ g < w'.heap.size) :
    Calls Tryz.prog 24 #[.string s] w fun e w' => ∃ B b0 n D g l h S, e = .returned (.tuple #[.map (some B), .nilIface]) ∧ w.heap.size ≤ b0 ∧ Cols w' B b0 n D g l h S ∧ (∀ c, (l c).Perm (flats ars c) ∧ (l c).Pairwise (· ≤ ·)) ∧ (∀ c, (l c).length ≤ 1800 * ps.length ∧ (h c = true → 1 ≤ c ∧ c ≤ 30)) ∧ n ≤ 1800 * ps.length ∧ Below w.heap.size w w' := by
  have HPS := Aside0.mk hps
  have HLN := Aside0.mk hlen
  have HN := Aside0.mk hn
  have HF := Aside0.mk hF
  clear hps hlen hn hF
  have HB := Aside0.mk (Below.refl w.heap.size w)
  have hmm := @run_makeMap Tryz.prog
  go_enter Tryz.func24, Tryz.ntmps24
  go_upto_region 3 with fail
  have hsz : (w.alloc (.cells #[.map (some (w.heap.size + 1))] 39)).heap.size = w.heap.size + 1 := World.size_alloc _ _
  have BRA := Aside0.mk (blk_new w (.cells #[.map (some (w.heap.size + 1))] 39))
  have HWA := Aside0.mk (below_alloc HB.out (.cells #[.map (some (w.heap.size + 1))] 39))
  have k0 := Cols.start (w.alloc (.cells #[.map (some (w.heap.size + 1))] 39)) (Nat.le_refl _)
  generalize w.alloc (.cells #[.map (some (w.heap.size + 1))] 39) = wA at hsz BRA HWA k0 ⊢
  have HSZ := Aside0.mk hsz
  have HA := Aside0.mk (below_alloc (Below.refl wA.heap.size wA) (.map #[] 0))
  have HK := Aside0.mk (show Cols (wA.alloc (.map #[] 0)) (w.heap.size + 1) wA.heap.size 0 (.map []) (fun _ => .slice none 0 0) (fun _ => []) (fun _ => false) (fun _ _ => False) by rw [← hsz]; exact k0)
  have HH := Aside0.mk (show Held wA (wA.alloc (.map #[] 0)) (w.heap.size + 1) (fun _ _ => False) w.heap.size from ⟨by omega, by simp, heap_alloc_old _ _ (by omega), by omega, fun _ h => h⟩)
  have hcv : wA.cell? ⟨w.heap.size, 0, none⟩ = some (.map (some (w.heap.size + 1))) := blk_cell BRA.out 0
  have HCV := Aside0.mk hcv
  clear hsz k0 HB hcv
  generalize wA.alloc (.map #[] 0) = w0 at HA HK HH ⊢
  go_wp2_with (go_at_call 15; (with_reducible refine (HF.out _ (HWA.out.trans (HA.out.mono (below_size HWA.out)))).mono ?_); rintro e w1 ⟨gp, cp, rfl, hC, hb, hlp, hlt⟩; have n0_ := Aside0.mk (below_step HA.out hb); have n1_ := Aside0.mk (HK.out.below hb); have n2_ := Aside0.mk (HH.out.below hb); have HP := Aside0.mk hC; have HG := Aside0.mk (Held.start HK.out hlp hb.size hlt); clear HA HK HH hC hb hlp hlt; have HA := n0_; have HK := n1_; have HH := n2_; clear n0_ n1_ n2_)
  generalize hB : w.heap.size + 1 = B at HK HH HCV HG
  generalize (fun _ _ => False : Int → Nat → Prop) = S0 at HK HH HG
  go_loopg [3, 17] (ps.length) (fun kq v3 v17 w' => ∃ (i : Nat) (xi : Int) (n : Nat) (D : DataW Value) (g : Int → Value) (h : Int → Bool) (S : Int → Nat → Prop), v3 = .nilIface ∧ v17 = .int .i64 xi ∧ Aside0 (xi = i ∧ i ≤ ps.length ∧ kq = ps.length - i ∧ n ≤ 1800 * i) ∧ Aside0 (∀ k, (flats (ars.take i) k).length ≤ n ∧ (h k = true → 1 ≤ k ∧ k ≤ 30)) ∧ Aside0 (Cols w' B wA.heap.size n D g (flats (ars.take i)) h S) ∧ Aside0 (Below wA.heap.size wA w') ∧ Aside0 (Held wA w' B S w.heap.size) ∧ Aside0 (Held w1 w' B S gp))
  case atStart => exact ⟨0, 0, 0, _, _, _, S0, rfl, rfl, ⟨⟨rfl, Nat.zero_le _, rfl, Nat.le_refl _⟩⟩, ⟨fun k => ⟨Nat.le_refl _, fun h => by cases h⟩⟩, HK, HA, HH, HG⟩
  case round =>
    clear HK HA HH HG
    obtain ⟨i, xi, n, D, g, h, S, rfl, rfl, HI, HNL, HK, HA, HH, HG⟩ := hrel
    by_cases hi : i < ps.length
    · have q1 : xi < (ps.length : Int) := by have := HI.out; omega
      have p1 : 0 ≤ xi := by have := HI.out; omega
      have c1 : decide (xi < (ps.length : Int)) = true := decide_eq_true q1
      have hp0 := (HG.out.cell xi.toNat).trans (str_at HP.out xi p1 q1)
      obtain ⟨p, hpe⟩ : ∃ p, p = ps.getD xi.toNat ⟨#[]⟩ := ⟨_, rfl⟩
      rw [← hpe] at hp0
      have hgp : ps[i]? = some p := by
        have h1 := HI.out.1
        subst h1
        rw [hpe, List.getElem?_eq_getElem hi]
        simp [List.getD_eq_getElem?_getD, hi]
      have hia : i < ars.length := by have := HLN.out; omega
      obtain ⟨a, ha⟩ : ∃ a, a = ars[i] := ⟨_, rfl⟩
      have hga : ars[i]? = some a := by rw [ha, List.getElem?_eq_getElem hia]
      have HPC := Aside0.mk (HPS.out i p a hgp hga)
      have HW := Aside0.mk (show flats (ars.take (i + 1)) = flatA (flats (ars.take i)) a by rw [List.take_add_one, hga]; exact flats_snoc _ _)
      have hlen := Aside0.mk hi
      have p1' := eq_true p1
      have q1' := eq_true q1
      have hcv : wr.cell? ⟨w.heap.size, 0, none⟩ = some (.map (some B)) := (HH.out.cell 0).trans HCV.out
      have HBB := Aside0.mk hB
      clear hi hpe hgp hia ha hga p1 q1 hB
      rcases HPC.out.is with hone | htwo
      · obtain ⟨ls, ds, k, hc1, e1, e2, hz⟩ := hone.cell
        have HT := Aside0.mk (And.intro hc1 hz)
        have HE := Aside0.mk (And.intro e1 e2)
        have HO := Aside0.mk hone
        clear hc1 e1 e2 hz hone
        go_upto_region 12 with (first
          | (go_at_call 33; refine (excelize_zzSplit.calls k p ⟨#[58]⟩ [p] _ HT.out.2).mono ?_; rintro e w2 ⟨v2, rfl, ho, hb⟩; obtain ⟨gz, cz, e2, gzb, gzl, gzc⟩ := Kd.R_form ho (Nat.zero_lt_succ _); replace e2 : v2 = .slice (some ⟨gz, 0, none⟩) 1 cz := e2; obtain ⟨A3, c3, he3, hl3, hr3⟩ := Kd.R_reads ho; rw [e2] at he3; cases he3; subst e2; have hx0 := str_at hr3 0 (Int.le_refl _) (by simp); replace hx0 : w2.cell? ⟨gz, 0, none⟩ = some (.string p) := hx0; have n0_ := Aside0.mk (HK.out.below hb); have n1_ := Aside0.mk (below_step HA.out hb); have n2_ := Aside0.mk (HH.out.below hb); have n3_ := Aside0.mk (HG.out.below hb); clear HK HA HH HG hb; have HK := n0_; have HA := n1_; have HH := n2_; have HG := n3_; clear n0_ n1_ n2_ n3_; clear ho gzb gzl gzc hl3 hr3)
          | (go_at_call 34; refine (cellName p ls ds HT.out.1 _).mono ?_; rintro e w3 ⟨rfl, hb⟩; rw [HE.out.1, HE.out.2]; have n0_ := Aside0.mk (HK.out.below hb); have n1_ := Aside0.mk (below_step HA.out hb); have n2_ := Aside0.mk (HH.out.below hb); have n3_ := Aside0.mk (HG.out.below hb); clear HK HA HH HG hb; have HK := n0_; have HA := n1_; have HH := n2_; have HG := n3_; clear n0_ n1_ n2_ n3_))
        have HNB := Aside0.mk (show n < 100000000 by have := HI.out; have := HN.out; have := hlen.out; omega)
        have HCR := Aside0.mk (show -1000 ≤ a.c0 ∧ a.c0 ≤ 1000 by have := HPC.out.ok.h0; have := HPC.out.ok.h1; have := HPC.out.ok.h2; omega)
        have hb := below_drew1 (Below.refl w3.heap.size w3)
        have n0_ := Aside0.mk (HK.out.below hb); have n1_ := Aside0.mk (below_step HA.out hb); have n2_ := Aside0.mk (HH.out.below hb); have n3_ := Aside0.mk (HG.out.below hb); clear HK HA HH HG hb; have HK := n0_; have HA := n1_; have HH := n2_; have HG := n3_; clear n0_ n1_ n2_ n3_
        have hS0 := (HH.out.cell 0).trans HCV.out
        have hS1 := HK.out.look a.c0 HCR.out
        refine start_ (n := 11) (S := fun w' => w'.cell? ⟨w.heap.size, 0, none⟩ = some (.map (some B)) ∧ (Instr.lookup 39 (.map (some B)) (.int .i64 a.c0) false).run Tryz.prog w' = .ok (g a.c0) w') (ds := [10]) #[false, false, false, false, false, false, false, false, false, false, false] (by kernel_rfl) rfl rfl ⟨hS0, hS1⟩ (fun hHeld => ?_)
        clear hS0 hS1
        generalize w3.drew = w5 at HK HA HH HG hHeld ⊢
        refine pure_ (i := 1) (N := some 38) (v := ?_) (a' := ?_) #[false, true, false, false, false, false, false, false, false, false, false] rfl rfl (by kernel_rfl) (fun _ _ _ h => h) (Or.inl ⟨by rfl, ?_⟩) ?_ ?_
        rotate_left
        · intro w'
          go_simp
          with_reducible rfl
        rotate_left
        · simp only [Act.put, List.setIfInBounds_toArray, List.set_cons_zero, List.set_cons_succ, i64_w, i32_w]
          rfl
        refine pure_ (i := 3) (N := some 40) (v := ?_) (a' := ?_) #[false, true, false, true, false, false, false, false, false, false, false] rfl rfl (by kernel_rfl) (fun _ _ _ h => h) (Or.inl ⟨by rfl, ?_⟩) ?_ ?_
        rotate_left
        · intro w'
          go_simp
          with_reducible rfl
        rotate_left
        · simp only [Act.put, List.setIfInBounds_toArray, List.set_cons_zero, List.set_cons_succ, i64_w, i32_w]
          rfl
        refine pure_ (i := 5) (N := some 42) (v := ?_) (a' := ?_) #[false, true, false, true, false, true, false, false, false, false, false] rfl rfl (by kernel_rfl) (fun _ _ _ h => h) (Or.inl ⟨by rfl, ?_⟩) ?_ ?_
        rotate_left
        · intro w'
          go_simp
          with_reducible rfl
        rotate_left
        · simp only [Act.put, List.setIfInBounds_toArray, List.set_cons_zero, List.set_cons_succ, i64_w, i32_w]
          rfl
        refine pure_ (i := 6) (N := some 43) (v := ?_) (a' := ?_) #[false, true, false, true, false, true, true, false, false, false, false] rfl rfl (by kernel_rfl) (fun _ _ _ h => h) (Or.inl ⟨by rfl, ?_⟩) ?_ ?_
        rotate_left
        · intro w'
          go_simp
          with_reducible rfl
        rotate_left
        · simp only [Act.put, List.setIfInBounds_toArray, List.set_cons_zero, List.set_cons_succ, i64_w, i32_w]
          rfl
        refine take_ (i := 0) (N := some 37) (v := ?_) (a' := ?_) #[true, true, false, true, false, true, true, false, false, false, false] rfl rfl (by kernel_rfl) (fun _ _ _ h => h) (Or.inl ⟨by rfl, ?_⟩) hHeld ?_ ?_
        rotate_left
        · rintro w' ⟨s0, s1⟩
          go_simp
          with_reducible rfl
        rotate_left
        · simp only [Act.put, List.setIfInBounds_toArray, List.set_cons_zero, List.set_cons_succ, i64_w, i32_w]
          rfl
        refine take_ (i := 2) (N := some 39) (v := ?_) (a' := ?_) #[true, true, true, true, false, true, true, false, false, false, false] rfl rfl (by kernel_rfl) (fun _ _ _ h => h) (Or.inl ⟨by rfl, ?_⟩) hHeld ?_ ?_
        rotate_left
        · rintro w' ⟨s0, s1⟩
          go_simp
          with_reducible rfl
        rotate_left
        · simp only [Act.put, List.setIfInBounds_toArray, List.set_cons_zero, List.set_cons_succ, i64_w, i32_w]
          rfl
        refine take_ (i := 4) (N := some 41) (v := ?_) (a' := ?_) #[true, true, true, true, true, true, true, false, false, false, false] rfl rfl (by kernel_rfl) (fun _ _ _ h => h) (Or.inl ⟨by rfl, ?_⟩) hHeld ?_ ?_
        rotate_left
        · rintro w' ⟨s0, s1⟩
          go_simp
          with_reducible rfl
        rotate_left
        · simp only [Act.put, List.setIfInBounds_toArray, List.set_cons_zero, List.set_cons_succ, i64_w, i32_w]
          rfl
        refine one_ (i := 7) (N := some 44) #[true, true, true, true, true, true, true, true, false, false, false] rfl rfl (by kernel_rfl) (by decide) (fun K hK => ?_)
        refine value_ (w1 := ?_) (v := ?_) (by rfl) rfl ?_ ?_
        rotate_left 2
        · go_simp
          constructor
          · rfl
          · rfl
        refine hK.out _ _ ⟨(Below.cell (below_alloc (Below.refl _ _) _) (World.block_lt_of_cell? _ _ hHeld.1)).trans hHeld.1, look_grown HK.out (World.grownBy_alloc w5 _ none) (by simp) a.c0 HCR.out⟩ (fun hHeld => ?_)
        clear hK K
        refine norm_ (a' := ?_) ?_ ?_
        rotate_left
        · show Act.put _ (some 44) _ = _
          simp only [Act.put, List.setIfInBounds_toArray, List.set_cons_zero, List.set_cons_succ, i64_w, i32_w]
          rfl
        refine one_ (i := 8) (N := some 45) #[true, true, true, true, true, true, true, true, true, false, false] rfl rfl (by kernel_rfl) (by decide) (fun K hK => ?_)
        refine value_ (w1 := ?_) (v := ?_) (by rfl) rfl ?_ ?_
        rotate_left 2
        · go_simp
          constructor
          · rfl
          · rfl
        refine hK.out _ _ ⟨(Below.cell (below_alloc (Below.refl _ _) _) (World.block_lt_of_cell? _ _ hHeld.1)).trans hHeld.1, look_grown HK.out (galloc2 w5 _ _) (by simp) a.c0 HCR.out⟩ (fun hHeld => ?_)
        clear hK K
        refine norm_ (a' := ?_) ?_ ?_
        rotate_left
        · show Act.put _ (some 45) _ = _
          simp only [Act.put, List.setIfInBounds_toArray, List.set_cons_zero, List.set_cons_succ, i64_w, i32_w]
          rfl
        refine one_ (i := 9) (N := some 46) #[true, true, true, true, true, true, true, true, true, true, false] rfl rfl (by kernel_rfl) (by decide) (fun K hK => ?_)
        refine Kd.R_append_step dP (w0 := wA) wA.heap.size (by rfl) (.tmp 41) (.tmp 45) 64 36 (.slice none 0 0) 24 rfl Tryz.underlying64 info36 rfl (by decide) (by omega) (g a.c0) (prs a.c0 (flats (ars.take i) a.c0)) [a.c0, a.r0] [.slice (some ⟨w5.heap.size, 0, none⟩) 2 2] (fun b => S a.c0 b ∨ w5.heap.size ≤ b) (fun b => b = w5.heap.size) rfl (by rw [World.size_alloc]; rfl) (elem_new w5 _ (below_size HA.out) a.c0 a.r0) (fun k hk => ⟨.inr (Nat.le_of_eq hk.symm), fun he => by have := (HK.out.sets a.c0 _ ((HK.out.rows a.c0).1 _ he.symm)).2.1; omega⟩) (fun k hk => .inr (Nat.le_trans (Nat.le_of_lt (Nat.lt_of_lt_of_eq (Nat.lt_succ_self _) (World.size_alloc _ _).symm)) hk)) (Kd.R_alloc (Kd.R_mono (HK.out.rows a.c0) (fun _ h => .inl h)) _) (below_alloc HA.out _) (below_size (below_alloc HA.out _)) (by rw [prs_len]; have := (HNL.out a.c0).1; have := HNB.out; omega) ?_
        intro v1 w6 ho hb hg hat
        have G3 := gtrans (World.grownBy_alloc w5 (.cells #[.int .i64 a.c0, .int .i64 a.r0] 3) none) hg
        refine hK.out _ _ ⟨(HH.out.grown G3 (HH.out.own_ne HK.out a.c0)).cell 0 |>.trans HCV.out, look_grown HK.out G3 (map_ne HK.out a.c0) a.c0 HCR.out⟩ (fun hHeld => ?_)
        clear hK K
        refine norm_ (a' := ?_) ?_ ?_
        rotate_left
        · show Act.put _ (some 46) _ = _
          simp only [Act.put, List.setIfInBounds_toArray, List.set_cons_zero, List.set_cons_succ, i64_w, i32_w]
          rfl
        refine last_ (i := 10) (N := none) #[true, true, true, true, true, true, true, true, true, true, true] rfl rfl (by kernel_rfl) (by decide) (fun K hK => ?_)
        obtain ⟨w7, D7, hrun, hK7, hB7, hs7, hH7⟩ := cols_step HK.out HNB.out a.c0 HCR.out a.r0 (World.grownBy_alloc w5 (.cells #[.int .i64 a.c0, .int .i64 a.r0] 3) none) ho hg
        refine skip_ (w1 := w7) (by rfl) rfl ?_ ?_
        · unfold execOp
          first | (go_simp; done) | (go_simp; rw [hrun])
        refine hK.out _ _ ?_
        clear hK K
        refine done_ (by kernel_rfl) ?_
        
        have hb5 := hB7 wA (below_size HA.out) HA.out
        have n0_ := Aside0.mk (hH7 _ _ HH.out)
        have n1_ := Aside0.mk (hH7 _ _ HG.out)
        clear HK HA HH HG ho hb hg hat hrun hB7 hs7 hH7 G3
        have HH := n0_
        have HG := n1_
        have HK := Aside0.mk hK7
        have HA := Aside0.mk hb5
        clear hK7 hb5 n0_ n1_
        have HST := Aside0.mk ((one_flat (flats (ars.take i)) a HO.out.row HO.out.col).trans HW.out.symm)
        rw [HST.out] at HK
        have hl2 : ∀ k, (flats (ars.take (i + 1)) k).length ≤ n + 1 ∧ (upd h a.c0 true k = true → 1 ≤ k ∧ k ≤ 30) := by
          intro k
          rw [← HST.out]
          by_cases e : k = a.c0
          · subst e; rw [upd_self, List.length_append]; exact ⟨Nat.succ_le_succ (HNL.out _).1, fun _ => by have := HPC.out.ok.h0; have := HPC.out.ok.h1; have := HPC.out.ok.h2; omega⟩
          · rw [upd_ne _ _ e, upd_ne _ _ e]; exact ⟨Nat.le_succ_of_le (HNL.out _).1, (HNL.out _).2⟩
        have HNL2 := Aside0.mk hl2
        clear hl2
        have hwi : wrap64 (xi + 1) = xi + 1 := by have := HN.out; have := HI.out; unfold wrap64; omega
        go_wp2
        go_roundg (ps.length - (i + 1))
        case measure => have := hlen.out; have := HI.out; omega
        case rel => exact ⟨i + 1, xi + 1, n + 1, D7, _, _, _, rfl, by first | rfl | rw [hwi], ⟨⟨by have := HI.out; omega, by have := hlen.out; omega, rfl, by have := HI.out; omega⟩⟩, HNL2, HK, HA, HH, HG⟩
      · obtain ⟨s1, s2, ls, ds, ls2, ds2, k, hc1, hc2, hsz, hsp, e1, e2, e3, e4, hz⟩ := htwo.cells
        have HT := Aside0.mk (And.intro hc1 (And.intro hc2 (And.intro hsz (And.intro hsp hz))))
        have HE := Aside0.mk (And.intro e1 (And.intro e2 (And.intro e3 e4)))
        clear hc1 hc2 hsz hsp e1 e2 e3 e4 hz htwo
        go_wp2_with (first
          | (go_at_call 33; refine (excelize_zzSplit.calls k p ⟨#[58]⟩ [s1, s2] _ HT.out.2.2.2.2).mono ?_; rintro e w2 ⟨v2, rfl, ho, hb⟩; obtain ⟨A2, c2, e2⟩ := Kd.R_slice ho; replace e2 : v2 = .slice A2 2 c2 := e2; subst e2; have n0_ := Aside0.mk (HK.out.below hb); have n1_ := Aside0.mk (below_step HA.out hb); have n2_ := Aside0.mk (HH.out.below hb); have n3_ := Aside0.mk (HG.out.below hb); clear HK HA HH HG hb; have HK := n0_; have HA := n1_; have HH := n2_; have HG := n3_; clear n0_ n1_ n2_ n3_; clear ho)
          | (go_at_call 32; refine (rangeRef p s1 s2 ls ds ls2 ds2 HT.out.1 HT.out.2.1 HT.out.2.2.1 HT.out.2.2.2.1 _).mono ?_; rintro e w3 ⟨v3, rfl, ho, hb⟩; rw [HE.out.1, HE.out.2.1, HE.out.2.2.1, HE.out.2.2.2] at ho; obtain ⟨go, cap, eo, gob, gol, gcap⟩ := Kd.R_form ho (Nat.zero_lt_succ _); replace eo : v3 = .slice (some ⟨go, 0, none⟩) 4 cap := eo; obtain ⟨A3, c3, he3, hl3, hr3⟩ := Kd.R_reads ho; rw [eo] at he3; cases he3; subst eo; have HQ := Aside0.mk (Held.start HK.out gob hb.size gol); have HC := Aside0.mk hr3; have HCL := Aside0.mk hl3; have n0_ := Aside0.mk (HK.out.below hb); have n1_ := Aside0.mk (below_step HA.out hb); have n2_ := Aside0.mk (HH.out.below hb); have n3_ := Aside0.mk (HG.out.below hb); clear HK HA HH HG hb; have HK := n0_; have HA := n1_; have HH := n2_; have HG := n3_; clear n0_ n1_ n2_ n3_; clear ho gob gol gcap hr3 hl3)
          | (go_at_call 35; refine (sorted4 a.c0 a.r0 a.c1 a.r1 HPC.out.ok.h1 HPC.out.ok.h4 _ cap HCL.out _ HC.out).mono ?_; rintro e w4 ⟨rfl, hb⟩; have n0_ := Aside0.mk (HK.out.below hb); have n1_ := Aside0.mk (below_step HA.out hb); have n2_ := Aside0.mk (HH.out.below hb); have n3_ := Aside0.mk (HG.out.below hb); have n4_ := Aside0.mk (HQ.out.below hb); clear HK HA HH HG HQ hb; have HK := n0_; have HA := n1_; have HH := n2_; have HG := n3_; have HQ := n4_; clear n0_ n1_ n2_ n3_ n4_; have h4 := four_at HC.out; have hx0 := (HQ.out.cell 0).trans h4.1; clear h4))
        have HX := Aside0.mk (four_at HC.out)
        clear hx0
        obtain ⟨ko, hko⟩ : ∃ ko, ko = gk := ⟨_, rfl⟩
        subst hko
        go_loopg [10] (31) (fun kq v10 w' => ∃ (c : Int) (n : Nat) (D : DataW Value) (g : Int → Value) (h : Int → Bool) (S : Int → Nat → Prop), v10 = .int .i64 c ∧ Aside0 (a.c0 ≤ c ∧ c ≤ a.c1 + 1 ∧ (a.c1 + 1 - c).toNat ≤ kq ∧ n ≤ 1800 * i + 60 * (c - a.c0).toNat) ∧ Aside0 (∀ k, (part1 (flats (ars.take i)) a c k).length ≤ n ∧ (h k = true → 1 ≤ k ∧ k ≤ 30)) ∧ Aside0 (Cols w' B wA.heap.size n D g (part1 (flats (ars.take i)) a c) h S) ∧ Aside0 (Below wA.heap.size wA w') ∧ Aside0 (Held wA w' B S w.heap.size) ∧ Aside0 (Held w1 w' B S gp) ∧ Aside0 (Held w3 w' B S go))
        case atStart => exact ⟨a.c0, n, D, g, h, S, rfl, ⟨⟨Int.le_refl _, by have := HPC.out.ok.h1; omega, by have := HPC.out.ok.h2; have := HPC.out.ok.h0; omega, by have := HI.out; omega⟩⟩, ⟨by rw [part1_start]; exact HNL.out⟩, ⟨by rw [part1_start]; exact HK.out⟩, HA, HH, HG, HQ⟩
        case round =>
          clear HK HA HH HG HQ HNL
          obtain ⟨c, n, D, g, h, S, rfl, HJ, HNL, HK, HA, HH, HG, HQ⟩ := hrel
          have hx1 := (HQ.out.cell 1).trans HX.out.2.1
          have hx2 := (HQ.out.cell 2).trans HX.out.2.2.1
          by_cases hc : c ≤ a.c1
          · have q2 := decide_eq_true hc
            have q2' := eq_true hc
            have HCC := Aside0.mk hc
            have HCR := Aside0.mk (show -1000 ≤ c ∧ c ≤ 1000 by have := HJ.out; have := HPC.out.ok.h0; have := HPC.out.ok.h2; omega)
            have hwc : wrap64 (c + 1) = c + 1 := by have := HCR.out; unfold wrap64; omega
            clear hc
            obtain ⟨kp, hkp⟩ : ∃ kp, kp = gk := ⟨_, rfl⟩
            subst hkp
            go_wp2
            go_loopg [11] (61) (fun kq v11 w' => ∃ (r : Int) (n : Nat) (D : DataW Value) (g : Int → Value) (h : Int → Bool) (S : Int → Nat → Prop), v11 = .int .i64 r ∧ Aside0 (a.r0 ≤ r ∧ r ≤ a.r1 + 1 ∧ (a.r1 + 1 - r).toNat ≤ kq ∧ n ≤ 1800 * i + 60 * (c - a.c0).toNat + (r - a.r0).toNat) ∧ Aside0 (∀ k, (part2 (flats (ars.take i)) a c r k).length ≤ n ∧ (h k = true → 1 ≤ k ∧ k ≤ 30)) ∧ Aside0 (Cols w' B wA.heap.size n D g (part2 (flats (ars.take i)) a c r) h S) ∧ Aside0 (Below wA.heap.size wA w') ∧ Aside0 (Held wA w' B S w.heap.size) ∧ Aside0 (Held w1 w' B S gp) ∧ Aside0 (Held w3 w' B S go))
            case atStart => exact ⟨a.r0, n, D, g, h, S, rfl, ⟨⟨Int.le_refl _, by have := HPC.out.ok.h4; omega, by have := HPC.out.ok.h5; have := HPC.out.ok.h3; omega, by have := HJ.out; omega⟩⟩, ⟨by rw [part2_start]; exact HNL.out⟩, ⟨by rw [part2_start]; exact HK.out⟩, HA, HH, HG, HQ⟩
            case round =>
              clear HK HA HH HG HQ HNL hx1 hx2
              obtain ⟨r, n, D, g, h, S, rfl, HR, HNL, HK, HA, HH, HG, HQ⟩ := hrel
              have hx3 := (HQ.out.cell 3).trans HX.out.2.2.2
              by_cases hr : r ≤ a.r1
              · have q3 := decide_eq_true hr
                have q3' := eq_true hr
                have HRC := Aside0.mk hr
                have HNB := Aside0.mk (show n < 100000000 by have := HR.out; have := HJ.out; have := HI.out; have := HN.out; have := hlen.out; have := HPC.out.ok.h0; have := HPC.out.ok.h2; have := HPC.out.ok.h3; have := HPC.out.ok.h5; omega)
                have hwr : wrap64 (r + 1) = r + 1 := by have := HR.out; have := HPC.out.ok.h3; have := HPC.out.ok.h5; unfold wrap64; omega
                clear hr
                go_upto_region 23 with fail
                have hb := below_drew1 (Below.refl wr.heap.size wr)
                have n0_ := Aside0.mk (HK.out.below hb); have n1_ := Aside0.mk (below_step HA.out hb); have n2_ := Aside0.mk (HH.out.below hb); have n3_ := Aside0.mk (HG.out.below hb); have n4_ := Aside0.mk (HQ.out.below hb); clear HK HA HH HG HQ hb; have HK := n0_; have HA := n1_; have HH := n2_; have HG := n3_; have HQ := n4_; clear n0_ n1_ n2_ n3_ n4_
                have hS0 := (HH.out.cell 0).trans HCV.out
                have hS1 := HK.out.look c HCR.out
                refine start_ (n := 11) (S := fun w' => w'.cell? ⟨w.heap.size, 0, none⟩ = some (.map (some B)) ∧ (Instr.lookup 39 (.map (some B)) (.int .i64 c) false).run Tryz.prog w' = .ok (g c) w') (ds := [10]) #[false, false, false, false, false, false, false, false, false, false, false] (by kernel_rfl) rfl rfl ⟨hS0, hS1⟩ (fun hHeld => ?_)
                clear hS0 hS1
                generalize wr.drew = w5 at HK HA HH HG HQ hHeld ⊢
                refine pure_ (i := 1) (N := some 79) (v := ?_) (a' := ?_) #[false, true, false, false, false, false, false, false, false, false, false] rfl rfl (by kernel_rfl) (fun _ _ _ h => h) (Or.inl ⟨by rfl, ?_⟩) ?_ ?_
                rotate_left
                · intro w'
                  go_simp
                  with_reducible rfl
                rotate_left
                · simp only [Act.put, List.setIfInBounds_toArray, List.set_cons_zero, List.set_cons_succ, i64_w, i32_w]
                  rfl
                refine pure_ (i := 3) (N := some 81) (v := ?_) (a' := ?_) #[false, true, false, true, false, false, false, false, false, false, false] rfl rfl (by kernel_rfl) (fun _ _ _ h => h) (Or.inl ⟨by rfl, ?_⟩) ?_ ?_
                rotate_left
                · intro w'
                  go_simp
                  with_reducible rfl
                rotate_left
                · simp only [Act.put, List.setIfInBounds_toArray, List.set_cons_zero, List.set_cons_succ, i64_w, i32_w]
                  rfl
                refine pure_ (i := 5) (N := some 83) (v := ?_) (a' := ?_) #[false, true, false, true, false, true, false, false, false, false, false] rfl rfl (by kernel_rfl) (fun _ _ _ h => h) (Or.inl ⟨by rfl, ?_⟩) ?_ ?_
                rotate_left
                · intro w'
                  go_simp
                  with_reducible rfl
                rotate_left
                · simp only [Act.put, List.setIfInBounds_toArray, List.set_cons_zero, List.set_cons_succ, i64_w, i32_w]
                  rfl
                refine pure_ (i := 6) (N := some 84) (v := ?_) (a' := ?_) #[false, true, false, true, false, true, true, false, false, false, false] rfl rfl (by kernel_rfl) (fun _ _ _ h => h) (Or.inl ⟨by rfl, ?_⟩) ?_ ?_
                rotate_left
                · intro w'
                  go_simp
                  with_reducible rfl
                rotate_left
                · simp only [Act.put, List.setIfInBounds_toArray, List.set_cons_zero, List.set_cons_succ, i64_w, i32_w]
                  rfl
                refine take_ (i := 0) (N := some 78) (v := ?_) (a' := ?_) #[true, true, false, true, false, true, true, false, false, false, false] rfl rfl (by kernel_rfl) (fun _ _ _ h => h) (Or.inl ⟨by rfl, ?_⟩) hHeld ?_ ?_
                rotate_left
                · rintro w' ⟨s0, s1⟩
                  go_simp
                  with_reducible rfl
                rotate_left
                · simp only [Act.put, List.setIfInBounds_toArray, List.set_cons_zero, List.set_cons_succ, i64_w, i32_w]
                  rfl
                refine take_ (i := 2) (N := some 80) (v := ?_) (a' := ?_) #[true, true, true, true, false, true, true, false, false, false, false] rfl rfl (by kernel_rfl) (fun _ _ _ h => h) (Or.inl ⟨by rfl, ?_⟩) hHeld ?_ ?_
                rotate_left
                · rintro w' ⟨s0, s1⟩
                  go_simp
                  with_reducible rfl
                rotate_left
                · simp only [Act.put, List.setIfInBounds_toArray, List.set_cons_zero, List.set_cons_succ, i64_w, i32_w]
                  rfl
                refine take_ (i := 4) (N := some 82) (v := ?_) (a' := ?_) #[true, true, true, true, true, true, true, false, false, false, false] rfl rfl (by kernel_rfl) (fun _ _ _ h => h) (Or.inl ⟨by rfl, ?_⟩) hHeld ?_ ?_
                rotate_left
                · rintro w' ⟨s0, s1⟩
                  go_simp
                  with_reducible rfl
                rotate_left
                · simp only [Act.put, List.setIfInBounds_toArray, List.set_cons_zero, List.set_cons_succ, i64_w, i32_w]
                  rfl
                refine one_ (i := 7) (N := some 85) #[true, true, true, true, true, true, true, true, false, false, false] rfl rfl (by kernel_rfl) (by decide) (fun K hK => ?_)
                refine value_ (w1 := ?_) (v := ?_) (by rfl) rfl ?_ ?_
                rotate_left 2
                · go_simp
                  constructor
                  · rfl
                  · rfl
                refine hK.out _ _ ⟨(Below.cell (below_alloc (Below.refl _ _) _) (World.block_lt_of_cell? _ _ hHeld.1)).trans hHeld.1, look_grown HK.out (World.grownBy_alloc w5 _ none) (by simp) c HCR.out⟩ (fun hHeld => ?_)
                clear hK K
                refine norm_ (a' := ?_) ?_ ?_
                rotate_left
                · show Act.put _ (some 85) _ = _
                  simp only [Act.put, List.setIfInBounds_toArray, List.set_cons_zero, List.set_cons_succ, i64_w, i32_w]
                  rfl
                refine one_ (i := 8) (N := some 86) #[true, true, true, true, true, true, true, true, true, false, false] rfl rfl (by kernel_rfl) (by decide) (fun K hK => ?_)
                refine value_ (w1 := ?_) (v := ?_) (by rfl) rfl ?_ ?_
                rotate_left 2
                · go_simp
                  constructor
                  · rfl
                  · rfl
                refine hK.out _ _ ⟨(Below.cell (below_alloc (Below.refl _ _) _) (World.block_lt_of_cell? _ _ hHeld.1)).trans hHeld.1, look_grown HK.out (galloc2 w5 _ _) (by simp) c HCR.out⟩ (fun hHeld => ?_)
                clear hK K
                refine norm_ (a' := ?_) ?_ ?_
                rotate_left
                · show Act.put _ (some 86) _ = _
                  simp only [Act.put, List.setIfInBounds_toArray, List.set_cons_zero, List.set_cons_succ, i64_w, i32_w]
                  rfl
                refine one_ (i := 9) (N := some 87) #[true, true, true, true, true, true, true, true, true, true, false] rfl rfl (by kernel_rfl) (by decide) (fun K hK => ?_)
                refine Kd.R_append_step dP (w0 := wA) wA.heap.size (by rfl) (.tmp 82) (.tmp 86) 64 36 (.slice none 0 0) 24 rfl Tryz.underlying64 info36 rfl (by decide) (by omega) (g c) (prs c (part2 (flats (ars.take i)) a c r c)) [c, r] [.slice (some ⟨w5.heap.size, 0, none⟩) 2 2] (fun b => S c b ∨ w5.heap.size ≤ b) (fun b => b = w5.heap.size) rfl (by rw [World.size_alloc]; rfl) (elem_new w5 _ (below_size HA.out) c r) (fun k hk => ⟨.inr (Nat.le_of_eq hk.symm), fun he => by have := (HK.out.sets c _ ((HK.out.rows c).1 _ he.symm)).2.1; omega⟩) (fun k hk => .inr (Nat.le_trans (Nat.le_of_lt (Nat.lt_of_lt_of_eq (Nat.lt_succ_self _) (World.size_alloc _ _).symm)) hk)) (Kd.R_alloc (Kd.R_mono (HK.out.rows c) (fun _ h => .inl h)) _) (below_alloc HA.out _) (below_size (below_alloc HA.out _)) (by rw [prs_len]; have := (HNL.out c).1; have := HNB.out; omega) ?_
                intro v1 w6 ho hb hg hat
                have G3 := gtrans (World.grownBy_alloc w5 (.cells #[.int .i64 c, .int .i64 r] 3) none) hg
                refine hK.out _ _ ⟨(HH.out.grown G3 (HH.out.own_ne HK.out c)).cell 0 |>.trans HCV.out, look_grown HK.out G3 (map_ne HK.out c) c HCR.out⟩ (fun hHeld => ?_)
                clear hK K
                refine norm_ (a' := ?_) ?_ ?_
                rotate_left
                · show Act.put _ (some 87) _ = _
                  simp only [Act.put, List.setIfInBounds_toArray, List.set_cons_zero, List.set_cons_succ, i64_w, i32_w]
                  rfl
                refine last_ (i := 10) (N := none) #[true, true, true, true, true, true, true, true, true, true, true] rfl rfl (by kernel_rfl) (by decide) (fun K hK => ?_)
                obtain ⟨w7, D7, hrun, hK7, hB7, hs7, hH7⟩ := cols_step HK.out HNB.out c HCR.out r (World.grownBy_alloc w5 (.cells #[.int .i64 c, .int .i64 r] 3) none) ho hg
                refine skip_ (w1 := w7) (by rfl) rfl ?_ ?_
                · unfold execOp
                  first | (go_simp; done) | (go_simp; rw [hrun])
                refine hK.out _ _ ?_
                clear hK K
                refine done_ (by kernel_rfl) ?_
                
                have hb5 := hB7 wA (below_size HA.out) HA.out
                have n0_ := Aside0.mk (hH7 _ _ HH.out)
                have n1_ := Aside0.mk (hH7 _ _ HG.out)
                have n2_ := Aside0.mk (hH7 _ _ HQ.out)
                clear HK HA HH HG HQ ho hb hg hat hrun hB7 hs7 hH7 G3
                have HH := n0_
                have HG := n1_
                have HQ := n2_
                have HK := Aside0.mk hK7
                have HA := Aside0.mk hb5
                clear hK7 hb5 n0_ n1_ n2_
                have HST := Aside0.mk (part2_step (flats (ars.take i)) a c r HR.out.1)
                rw [HST.out] at HK
                have hl2 : ∀ k, (part2 (flats (ars.take i)) a c (r + 1) k).length ≤ n + 1 ∧ (upd h c true k = true → 1 ≤ k ∧ k ≤ 30) := by
                  intro k
                  rw [← HST.out]
                  by_cases e : k = c
                  · subst e; rw [upd_self, List.length_append]; exact ⟨Nat.succ_le_succ (HNL.out _).1, fun _ => by have := HJ.out; have := HCC.out; have := HPC.out.ok.h0; have := HPC.out.ok.h2; omega⟩
                  · rw [upd_ne _ _ e, upd_ne _ _ e]; exact ⟨Nat.le_succ_of_le (HNL.out _).1, (HNL.out _).2⟩
                have HNL2 := Aside0.mk hl2
                clear hl2
                go_wp2
                go_roundg ((a.r1 + 1 - (r + 1)).toNat)
                case measure => have := HR.out; have := HRC.out; omega
                case rel => exact ⟨r + 1, n + 1, D7, _, _, _, by first | rfl | rw [hwr], ⟨⟨by have := HR.out; omega, by have := HRC.out; omega, Nat.le_refl _, by have := HR.out; omega⟩⟩, HNL2, HK, HA, HH, HG, HQ⟩
              · have q3 := decide_eq_false hr
                have q3' := eq_false hr
                obtain rfl : r = a.r1 + 1 := by have := HR.out; omega
                rw [part2_end _ _ _ HJ.out.1] at HK HNL
                clear hr
                go_wp2
                go_roundg ((a.c1 + 1 - (c + 1)).toNat)
                case measure => have := HJ.out; have := HCC.out; omega
                case rel => exact ⟨c + 1, n, D, g, h, S, by first | rfl | rw [hwc], ⟨⟨by have := HJ.out; omega, by have := HCC.out; omega, Nat.le_refl _, by have := HR.out; have := HJ.out; have := HPC.out.ok.h3; have := HPC.out.ok.h5; omega⟩⟩, HNL, HK, HA, HH, HG, HQ⟩
          · have q2 := decide_eq_false hc
            have q2' := eq_false hc
            obtain rfl : c = a.c1 + 1 := by have := HJ.out; omega
            rw [part1_end, ← HW.out] at HK HNL
            clear hc
            have hwi : wrap64 (xi + 1) = xi + 1 := by have := HN.out; have := HI.out; unfold wrap64; omega
            go_wp2
            go_roundg (ps.length - (i + 1))
            case measure => have := hlen.out; have := HI.out; omega
            case rel => exact ⟨i + 1, xi + 1, n, D, g, h, S, rfl, by first | rfl | rw [hwi], ⟨⟨by have := HI.out; omega, by have := hlen.out; omega, rfl, by have := HJ.out; have := HPC.out.ok.h0; have := HPC.out.ok.h2; omega⟩⟩, HNL, HK, HA, HH, HG⟩
    · have c1 : decide (xi < (ps.length : Int)) = false := decide_eq_false (by have := HI.out; omega)
      have hi2 : i = ps.length := by have := HI.out; omega
      subst hi2
      have HW := Aside0.mk (show ars.take ps.length = ars by rw [HLN.out]; exact List.take_length)
      rw [HW.out] at HK HNL
      have hcv : wr.cell? ⟨w.heap.size, 0, none⟩ = some (.map (some B)) := (HH.out.cell 0).trans HCV.out
      have HBB := Aside0.mk hB
      clear hi HW hB
      go_wp2_with (at_range; refine wpList_range_own _ rfl _ 39 rfl 3 64 law Tryz.underlying39 RV B n D rfl HK.out.own ?_; intro w5 hrg0 hg0 hs0)
      go_frame
      have HRS := Aside0.mk (show ∀ c, ¬ S c wr.heap.size from fun c hc => by have := (HK.out.sets c _ hc).2.1; omega)
      have HRG := Aside0.mk hrg0
      have n0_ := Aside0.mk (HK.out.grown hg0 (by simp) (fun _ _ _ => by simp))
      have n1_ := Aside0.mk (below_grow HA.out (below_size HA.out) hg0 (fun _ e => by cases e))
      have n2_ := Aside0.mk (HH.out.grown hg0 (by simp))
      have hRB := HRG.out.ne
      have HRL := Aside0.mk (below_size HA.out)
      clear HK HA HH HG hrg0 hg0 hs0 hcv
      have HK := n0_
      have HA := n1_
      have HH := n2_
      clear n0_ n1_ n2_
      generalize wr.heap.size = r at HRS HRG hRB HRL ⊢
      have HRB := Aside0.mk hRB
      clear hRB
      go_loopg [91] (Maps.size D) (fun kq v91 w' => ∃ (left : Lit → Bool) (cnt : Nat) (l' : Int → List Int), Aside0 (w'.ranges Tryz.prog 3 RV B r n D left cnt ∧ cnt ≤ kq) ∧ Aside0 (Cols w' B wA.heap.size n D g l' h S) ∧ Aside0 (∀ k, (l' k).Perm (flats ars k) ∧ (left (.int .i64 k) = false → (l' k).Pairwise (· ≤ ·))) ∧ Aside0 (∀ kl, left kl = true → Maps.has D kl = true) ∧ Aside0 (Below wA.heap.size wA w') ∧ Aside0 (Held wA w' B S w.heap.size))
      case atStart => exact ⟨_, _, _, ⟨⟨HRG.out, Nat.le_refl _⟩⟩, HK, ⟨fun k => ⟨List.Perm.refl _, fun hf => by rw [cols_none HK.out k ((HK.out.says.2 k).symm.trans hf)]; exact List.Pairwise.nil⟩⟩, ⟨fun _ h => h⟩, HA, HH⟩
      case round =>
        clear HK HA HH HRG
        obtain ⟨left, cnt, l', HRG, HK, HL, HLD, HA, HH⟩ := hrel
        have hrg := HRG.out.1
        go_wp2_with (at_next; refine wpList_next_ranges _ rfl _ rfl 3 law RV (Value.int .i64) (fun v => v) (fun key kl hk => by obtain ⟨x, rfl, _⟩ := Maps.keyOf_int_inv Tryz.underlying3 hk; exact ⟨x, rfl⟩) (fun v y hv => ⟨v, rfl⟩) B r n _ _ _ rfl hrg ?_ ?_)
        · intro hc0 hl0
          have hcv : wr.cell? ⟨w.heap.size, 0, none⟩ = some (.map (some B)) := (HH.out.cell 0).trans HCV.out
          clear hrg
          go_wp2
          refine bodyPost_ret (v := .tuple #[.map (some B), .nilIface]) ?_ ?_ ?_
          · refine (results_cell_tmp (fn := Tryz.f24) (p := 2) (u := 3) (ty := 39) (by first | rfl | kernel_rfl) _ _ _).trans ?_
            first | (go_simp; done) | (go_simp; rfl)
          · rfl
          · refine ⟨B, wA.heap.size, n, D, g, l', h, S, rfl, by have := HSZ.out; omega, HK.out, fun c => ⟨(HL.out c).1, (HL.out c).2 (hl0 _)⟩, fun c => ⟨?_, (HNL.out c).2⟩, by have := HI.out; omega, HWA.out.trans (HA.out.mono (below_size HWA.out))⟩
            have h1 := (HL.out c).1.length_eq
            have h2 := (HNL.out c).1
            have := HI.out
            omega
        · intro x v kl y1 y2 w6 cnt6 hkx hlx hRc hRd hat hrg6 hlt6 hg6 hs6 hen
          have hxx : kl = .int .i64 x := by
            obtain ⟨x', ex, rfl, _⟩ := Maps.keyOf_int_inv Tryz.underlying3 hkx
            cases ex
            rfl
          subst hxx
          have hhx : h x = true := by rw [← HK.out.says.2 x]; exact HLD.out _ hlx
          have HXR := Aside0.mk ((HNL.out x).2 hhx)
          have n0_ := Aside0.mk (HK.out.grown hg6 (fun e => HRB.out (by injection e with e; exact e.symm)) (fun c b hb e => HRS.out c (by have h7 : b = r := (by injection e); rw [← h7]; exact hb)))
          have n1_ := Aside0.mk (below_grow HA.out (below_size HA.out) hg6 (fun q e => by cases e; exact HRL.out))
          have n2_ := Aside0.mk (HH.out.grown hg6 (fun e => by have h7 : w.heap.size = r := (by injection e); have := HSZ.out; have := HRL.out; omega))
          have HRG6 := Aside0.mk (And.intro hrg6 hlt6)
          clear HK HA HH hrg hRc hRd hat hrg6 hlt6 hg6 hs6 hkx hhx
          have HK := n0_
          have HA := n1_
          have HH := n2_
          have HLX := Aside0.mk hlx
          clear n0_ n1_ n2_ hlx
          have hcv : w6.cell? ⟨w.heap.size, 0, none⟩ = some (.map (some B)) := (HH.out.cell 0).trans HCV.out
          go_upto_region 28 with fail
          have HBX := Aside0.mk (blk_new w6 (.cells #[.int .i64 x] 3))
          have hb7 : Below w6.heap.size w6 (w6.alloc (.cells #[.int .i64 x] 3)) := below_alloc (Below.refl _ _) _
          have HQ := Aside0.mk (Held.start HK.out (Nat.le_refl _) hb7.size (Nat.lt_of_lt_of_eq (Nat.lt_succ_self _) (World.size_alloc w6 (.cells #[.int .i64 x] 3)).symm))
          have n0_ := Aside0.mk (HK.out.below hb7)
          have n1_ := Aside0.mk (below_alloc HA.out (.cells #[.int .i64 x] 3))
          have n2_ := Aside0.mk (HH.out.below hb7)
          have n3_ := Aside0.mk (And.intro (HRG6.out.1.alloc (.cells #[.int .i64 x] 3)) HRG6.out.2)
          clear HK HA HH HRG6 hcv hb7 hen
          have HK := n0_
          have HA := n1_
          have HH := n2_
          have HRG6 := n3_
          clear n0_ n1_ n2_ n3_
          generalize w6.alloc (.cells #[.int .i64 x] 3) = w7 at HBX HQ HK HA HH HRG6 ⊢
          generalize w6.heap.size = q at HBX HQ ⊢
          have hcv : w7.cell? ⟨w.heap.size, 0, none⟩ = some (.map (some B)) := (HH.out.cell 0).trans HCV.out
          have hcx : w7.cell? ⟨q, 0, none⟩ = some (.int .i64 x) := blk_cell HBX.out 0
          have hlk := HK.out.look x (by have := HXR.out; omega)
          have HCF := Aside0.mk (And.intro hcv hcx)
          have HXC := Aside0.mk (show -1000 ≤ x ∧ x ≤ 1000 by have := HXR.out; omega)
          have HXL := Aside0.mk (show (l' x).length ≤ 100000000 by have h1 := (HL.out x).1.length_eq; have h2 := (HNL.out x).1; have := HI.out; have := HN.out; omega)
          go_wp2_with (go_at_call 30; (with_reducible refine (sort_col HK.out x HXC.out HXL.out w.heap.size q HCF.out.1 (HH.out.off x) HCF.out.2 (HQ.out.off x)).mono ?_); rintro e w8 ⟨rfl, rows, hp8, hs8, hK8, hg8⟩)
          have hro : some r ≠ (g x).ownBlock := fun e => HRS.out x ((HK.out.rows x).1 r e.symm)
          go_roundg cnt6
          case measure => have := HRG6.out.2; have := HRG.out.2; omega
          case rel =>
            refine ⟨_, cnt6, upd l' x rows, ⟨⟨HRG6.out.1.kept hg8 (map_ne HK.out x) hro, Nat.le_refl _⟩⟩, ⟨hK8⟩, ⟨fun k => ?_⟩, ⟨fun kl hkl => HLD.out kl (by simp only [Bool.and_eq_true] at hkl; exact hkl.1)⟩, ⟨below_grow HA.out (below_size HA.out) hg8 (fun q e => (HK.out.sets x q ((HK.out.rows x).1 q e)).1)⟩, ⟨HH.out.grown hg8 (HH.out.own_ne HK.out x)⟩⟩
            by_cases e : k = x
            · subst e
              rw [upd_self]
              exact ⟨hp8.trans (HL.out k).1, fun _ => hs8⟩
            · rw [upd_ne _ _ e]
              refine ⟨(HL.out k).1, fun hf => (HL.out k).2 ?_⟩
              have hs : (Lit.int .i64 k).sameKey (.int .i64 x) = false := by simp [Lit.sameKey, e]
              rw [hs] at hf
              simpa using hf
end Go.Proofs.YtmcppajgfhmpaaaGreatDoor.FtC
