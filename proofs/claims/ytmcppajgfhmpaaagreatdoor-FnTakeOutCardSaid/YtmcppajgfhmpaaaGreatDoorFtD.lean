/- FnTakeOut, words: a row taken out of a column. No conditions. -/
import Derived.Test.YtmcppajgfhmpaaaGreatDoorFtC
import Derived.Test.YtmcppajgfhmpaaaGreatDoorFtF
namespace Go.Proofs.YtmcppajgfhmpaaaGreatDoor.FtD
open Go.RowKit Go.Proofs.YtmcppajgfhmpaaaGreatDoorW.PrintWords Go.Proofs.YtmcppajgfhmpaaaGreatDoorW.PrintLast Go.Proofs.YtmcppajgfhmpaaaGreatDoorW.PrintMore Go.Proofs.YtmcppajgfhmpaaaGreatDoor.Str Go.Proofs.YtmcppajgfhmpaaaGreatDoor.CellB Go.Proofs.YtmcppajgfhmpaaaGreatDoor.CellC Go.Proofs.YtmcppajgfhmpaaaGreatDoor.FtA Go.Proofs.YtmcppajgfhmpaaaGreatDoor.FtB Go.Proofs.YtmcppajgfhmpaaaGreatDoor.FtP Go.Proofs.YtmcppajgfhmpaaaGreatDoor.FtS Go.Proofs.YtmcppajgfhmpaaaGreatDoor.FtQ Go.Proofs.YtmcppajgfhmpaaaGreatDoor.FtC Go.Proofs.YtmcppajgfhmpaaaGreatDoor.FtE Go.Proofs.YtmcppajgfhmpaaaGreatDoor.FtF
set_option linter.unusedVariables false
set_option linter.unusedSimpArgs false
theorem exact_slice {α : Type} {d : Kd α} {w : World} {A : Option Addr} {n : Nat} {xs : List (List α)} (h : (Full.exact 3 d).C w A n xs) : (Kd.slice 3 d).C w A n xs := by
  refine ⟨h.1, h.2.1, fun hp => ?_⟩
  obtain ⟨ad, e, hh⟩ := h.2.2 hp
  refine ⟨ad, e, fun j p hj => ?_⟩
  obtain ⟨c, hs, hK, hc⟩ := hh j p hj
  obtain ⟨A0, rfl, hr⟩ := hK
  exact ⟨_, hs, ⟨A0, p.length, rfl, Nat.le_refl _, hr⟩, hc⟩
theorem own_tight {w : World} {b n m : Nat} {D : DataW Value} (h : w.ownsMap Tryz.prog 3 RV b n D) (hs : Maps.size D ≤ m) : w.ownsMap Tryz.prog 3 RV b m D := by
  obtain ⟨es, clock, hb, F, he, rfl⟩ := h
  refine ⟨es, clock, hb, F, ?_, rfl⟩
  have h1 := length_read (P := Tryz.prog) (k := 3) (R0 := RV) es
  rw [Maps.size_eq, h1] at hs
  exact hs
theorem prs_erase (c : Int) : ∀ (rows : List Int) (j : Nat), (prs c rows).eraseIdx j = prs c (rows.eraseIdx j)
  | [], _ => rfl
  | x :: xs, 0 => rfl
  | x :: xs, j + 1 => by
    have h := prs_erase c xs j
    have e1 : prs c (x :: xs) = [c, x] :: prs c xs := rfl
    have e2 : (x :: xs).eraseIdx (j + 1) = x :: xs.eraseIdx j := rfl
    rw [e1, e2, List.eraseIdx_cons_succ, h]
    rfl
section
variable {W : World} {B base n : Nat} {D : DataW Value} {g : Int → Value} {l : Int → List Int} {h : Int → Bool} {S : Int → Nat → Prop}
theorem upd_same {α : Type} (f : Int → α) (c : Int) (x : α) (e : f c = x) : upd f c x = f := by
  funext k
  by_cases hk : k = c
  · subst hk; rw [upd_self, e]
  · rw [upd_ne _ _ hk]
/-- A column's list has been changed in its own blocks and stored anew. -/
theorem cols_put (k : Cols W B base n D g l h S) (hn : n < 100000000) (c : Int) (hc : -1000 ≤ c ∧ c ≤ 1000) (hh : h c = true) (rows : List Int) {W3 : World} {v1 : Value}
    (hR : dP.R 36 W3 base (S c) v1 (prs c rows)) (hg : W.grownBy W3 (g c).ownBlock) :
    ∃ W4 D' S', (Instr.mapUpdate 39 (.map (some B)) (.int .i64 c) v1).run Tryz.prog W3 = .ok () W4 ∧ Cols W4 B base n D' (upd g c v1) (upd l c rows) h S' ∧ W3.grownBy W4 (some B) ∧ (∀ q, q < W.heap.size → (∀ x, ¬ S x q) → ∀ x, ¬ S' x q) := by
  obtain ⟨W4, hrun, hown, hg4⟩ := (k.own.kept hg (map_ne k c)).update law Tryz.underlying39 (by simp only [maxLen]; omega) (hkey c hc) (val := v1) rfl
  have k2 := k.stored c hc (Kd.R_mono hR (fun _ h => .inl h)) hg hown hg4
  have hs : Maps.size (D.put (.int .i64 c) (.held v1)) ≤ n := by
    rw [Maps.size_put (k.own.tidy law), if_pos (by rw [k.says.2 c]; exact hh)]
    exact k.own.size_le
  rw [upd_same h c true hh] at k2
  refine ⟨W4, _, _, hrun, ⟨own_tight hown hs, k2.says, k2.new, k2.sets, k2.disj, k2.rows⟩, hg4, fun q hq ho x hx => ?_⟩
  by_cases e : x = c
  · subst e
    rw [upd_self] at hx
    rcases hx.1 with h1 | h1
    · exact ho _ h1
    · omega
  · rw [upd_ne _ _ e] at hx
    exact ho _ hx
/-- The value at a key, as the map's reading tells it. -/
theorem value_at (k : Cols W B base n D g l h S) (x : Int) (v : Value) (y : DataW Value) (hy : .held v = y) (hat : ∀ zd, D.atKey (.int .i64 x) zd = y) : v = g x := by
  have h1 := k.says.1 x
  rw [hat, ← hy] at h1
  injection h1
end
theorem upd_upd {α : Type} (f : Int → α) (c : Int) (x y : α) : upd (upd f c x) c y = upd f c y := by
  funext k
  by_cases hk : k = c
  · subst hk; rw [upd_self, upd_self]
  · rw [upd_ne _ _ hk, upd_ne _ _ hk, upd_ne _ _ hk]
theorem row_cell (c : Int) (hc : True) {W : World} {A : Option Addr} {n : Nat} {rows : List Int} (h : dP.C W A n (prs c rows)) (i : Nat) (hi : i < rows.length) :
    ∃ ad A0, A = some ad ∧ W.cell? (ad.add i) = some (.slice A0 2 2) ∧ (Kd.int .i64).C W A0 2 [c, rows.getD i 0] := by
  have hn : n = (prs c rows).length := h.1.symm
  obtain ⟨ad, A0, c0, e, h1, h2, h3⟩ := Full.at_exact h (i : Int) (by omega) (by rw [hn, prs_len]; omega)
  rw [show ((i : Nat) : Int).toNat = i by omega, prs_get c rows i hi] at h1 h2 h3
  subst h2
  exact ⟨ad, A0, e, h1, h3⟩
theorem left_step (rows out : List Int) (i : Nat) (r : Int) (h : out[i]? = some r) : left rows (out.take (i + 1)) = (left rows (out.take i)).erase r := by
  rw [List.take_add_one, h]
  unfold left
  rw [List.foldl_append]
  rfl
theorem nodup_len : ∀ (n : Nat) (l : List Int), l.Nodup → (∀ x ∈ l, 1 ≤ x ∧ x ≤ (n : Int)) → l.length ≤ n
  | 0, [], _, _ => Nat.le_refl _
  | 0, x :: xs, _, h => by have := h x List.mem_cons_self; omega
  | n + 1, l, hn, h => by
    have h1 := nodup_len n (l.erase ((n + 1 : Nat) : Int)) (hn.sublist List.erase_sublist) (fun x hx => by
      have h2 := hn.mem_erase_iff.1 hx
      have h3 := h x h2.2
      have h4 := h2.1
      omega)
    have h5 := List.length_erase (a := ((n + 1 : Nat) : Int)) (l := l)
    split at h5 <;> omega
theorem flat_len {f : Int → List ByteArray} (m : Nat) : ∀ (vis : List Int), (∀ c ∈ vis, (f c).length ≤ m) → (vis.flatMap f).length ≤ m * vis.length
  | [], _ => by simp
  | c :: vis, h => by
    have h1 := h c List.mem_cons_self
    have h2 := flat_len m vis (fun x hx => h x (List.mem_cons_of_mem _ hx))
    rw [List.flatMap_cons, List.length_append, List.length_cons, Nat.mul_add, Nat.mul_one]
    omega
theorem sqT_len (c : Int) : ∀ rows : List Int, (sqT c rows).length ≤ rows.length
  | [] => Nat.le_refl _
  | a :: rest => by
    unfold sqT
    rw [List.length_map, List.length_cons]
    exact runs_len rest a 1
/-- What is left of the columns. -/
structure Rest (ars : List Ar) (l2 R : Int → List Int) : Prop where
  lt : ∀ c, (R c).Pairwise (· < ·)
  mem : ∀ c x, x ∈ R c ↔ x ∈ flats ars c ∧ x ∉ l2 c
  row : ∀ c, ∀ x ∈ R c, 1 ≤ x ∧ x ≤ 60
  len : ∀ c, (R c).length ≤ 60
theorem rest_of (ars : List Ar) (hok : ∀ a ∈ ars, a.Ok) (l l2 : Int → List Int) (hl : ∀ c, (l c).Perm (flats ars c) ∧ (l c).Pairwise (· ≤ ·)) (hn : ∀ c, (flats ars c).Nodup) : Rest ars l2 (fun c => FtF.left (l c) (l2 c)) := by
  have nd : ∀ c, (l c).Nodup := fun c => ((hl c).1.nodup_iff).2 (hn c)
  have mem : ∀ c x, x ∈ FtF.left (l c) (l2 c) ↔ x ∈ flats ars c ∧ x ∉ l2 c := fun c x => by rw [FtF.mem_left _ _ (nd c), (hl c).1.mem_iff]
  have row : ∀ c, ∀ x ∈ FtF.left (l c) (l2 c), 1 ≤ x ∧ x ≤ 60 := fun c x hx => by
    obtain ⟨a, ha, _, _, h3, h4⟩ := (mem_flats _ _ _).1 ((mem c x).1 hx).1
    have h := hok a ha
    have := h.h3
    have := h.h5
    omega
  have lt : ∀ c, (FtF.left (l c) (l2 c)).Pairwise (· < ·) := fun c => (lt_of_sorted (hl c).2 (nd c)).sublist (FtF.left_sub _ _)
  exact ⟨lt, mem, row, fun c => sorted_len _ (lt c) (row c)⟩
theorem ok_of {ps : List ByteArray} {ars : List Ar} (hlen : ps.length = ars.length) (hps : ∀ (i : Nat) p a, ps[i]? = some p → ars[i]? = some a → Piece p a) : ∀ a ∈ ars, a.Ok := fun a ha => by
  obtain ⟨i, hi, e⟩ := List.mem_iff_getElem.1 ha
  have hi2 : i < ps.length := by omega
  exact (hps i ps[i] a (List.getElem?_eq_getElem hi2) (by rw [List.getElem?_eq_getElem hi, e])).ok
set_option maxHeartbeats 4000000 in
set_option maxRecDepth 100000 in
theorem delete (s : ByteArray) (ps : List ByteArray) (ars : List Ar) (hlen : ps.length = ars.length) (hps : ∀ (i : Nat) p a, ps[i]? = some p → ars[i]? = some a → Piece p a) (hn : ps.length ≤ 5) (hND : ∀ c, (flats ars c).Nodup) (w : World)
    (hF : ∀ W : World, Below w.heap.size w W → Calls Tryz.prog 15 #[.string s] W fun e w' => ∃ g c, e = .returned (.slice (some ⟨g, 0, none⟩) ps.length c) ∧ Kd.C Kd.string w' (some ⟨g, 0, none⟩) ps.length ps ∧ Below W.heap.size W w' ∧ W.heap.size ≤ g ∧ g < w'.heap.size)
    {B2 b2 n2 : Nat} {D2 : DataW Value} {g2 : Int → Value} {l2 : Int → List Int} {h2 : Int → Bool} {S2 : Int → Nat → Prop} (hK2 : Cols w B2 b2 n2 D2 g2 l2 h2 S2) (hL2 : ∀ c, (l2 c).length ≤ 1000000 ∧ (h2 c = true → 1 ≤ c ∧ c ≤ 30)) :
    Calls Tryz.prog 25 #[.string s, .map (some B2)] w fun e w' => ∃ (vis : List Int) (R : Int → List Int), e = .returned (.tuple #[.string (words (vis.flatMap fun c => sqT c (R c))), .nilIface]) ∧ vis.Nodup ∧ (∀ c ∈ vis, 1 ≤ c ∧ c ≤ 30) ∧ (∀ c, c ∉ vis → R c = []) ∧
      (∀ c, (R c).Pairwise (· < ·) ∧ (∀ x, x ∈ R c ↔ x ∈ flats ars c ∧ x ∉ l2 c)) ∧ Below w.heap.size w w' := by
  have HPS := Aside0.mk hps
  have HLN := Aside0.mk hlen
  have HN := Aside0.mk hn
  have HF := Aside0.mk hF
  have HND := Aside0.mk hND
  have HK2 := Aside0.mk hK2
  have HL2 := Aside0.mk hL2
  have HB2 := Aside0.mk hK2.lt
  clear hps hlen hn hF hND hK2 hL2
  have HB := Aside0.mk (Below.refl w.heap.size w)
  go_enter Tryz.func25, Tryz.ntmps25
  go_upto_region 6 with (go_at_call 24; (with_reducible refine (flat s ps ars HLN.out HPS.out (by have := HN.out; omega) _ (fun W hW => HF.out W (HB.out.trans hW))).mono ?_); rintro e w1 ⟨B, b0, n, D, g, l, h, S, rfl, hb0, hK, hl, hln, hnn, hb⟩; have n0_ := Aside0.mk (below_step HB.out hb); clear HB; have HB := n0_; clear n0_; have HK := Aside0.mk hK; have HL := Aside0.mk hl; have HLB := Aside0.mk hln; have HNN := Aside0.mk hnn; have HB0 := Aside0.mk hb0; clear hK hl hln hnn hb0 hb)
  have HNB := Aside0.mk (show n < 100000000 by have := HNN.out; have := HN.out; omega)
  go_wp2_with (at_range; refine wpList_range_own _ rfl _ 39 rfl 3 64 law Tryz.underlying39 RV B2 n2 D2 rfl (HK2.out.below HB.out).own ?_; intro w5 hrg0 hg0 hs0)
  go_frame
  have HRG := Aside0.mk hrg0
  have HOF := Aside0.mk (And.intro (Nat.lt_of_lt_of_eq (Nat.lt_succ_self _) hs0.symm) (show ∀ c, ¬ S c w1.heap.size from fun c hc => by have := (HK.out.sets c _ hc).2.1; omega))
  have HRB := Aside0.mk (show w1.heap.size ≠ B from fun e => by have := HK.out.lt; omega)
  have HRL := Aside0.mk (show w.heap.size ≤ w1.heap.size from HB.out.size)
  have n0_ := Aside0.mk (HK.out.grown hg0 (by simp) (fun _ _ _ => by simp))
  have n1_ := Aside0.mk (below_grow HB.out (below_size HB.out) hg0 (fun _ e => by cases e))
  clear HK HB hrg0 hg0 hs0
  have HK := n0_
  have HB := n1_
  clear n0_ n1_
  generalize w1.heap.size = r at HRG HOF HRB HRL ⊢
  have HL0 := Aside0.mk (show ∀ k, l k = bif Maps.has D2 (.int .i64 k) then l k else FtF.left (l k) (l2 k) from fun k => by
    cases e : Maps.has D2 (.int .i64 k) with
    | true => rfl
    | false => rw [cols_none HK2.out k ((HK2.out.says.2 k).symm.trans e)]; rfl)
  go_loopg [29] (Maps.size D2) (fun kq v29 w' => ∃ (left2 : Lit → Bool) (cnt : Nat) (D : DataW Value) (g : Int → Value) (l' : Int → List Int) (S : Int → Nat → Prop), Aside0 (w'.ranges Tryz.prog 3 RV B2 r n2 D2 left2 cnt ∧ cnt ≤ kq) ∧ Aside0 (Cols w' B b0 n D g l' h S) ∧ Aside0 (∀ k, l' k = bif left2 (.int .i64 k) then l k else FtF.left (l k) (l2 k)) ∧ Aside0 (∀ kl, left2 kl = true → Maps.has D2 kl = true) ∧ Aside0 (r < w'.heap.size ∧ ∀ c, ¬ S c r) ∧ Aside0 (Below w.heap.size w w'))
  case atStart => exact ⟨_, _, _, _, _, _, ⟨⟨HRG.out, Nat.le_refl _⟩⟩, HK, HL0, ⟨fun _ h => h⟩, HOF, HB⟩
  case round =>
    clear HK HB HRG HOF HL0
    obtain ⟨left2, cnt, D, g, l', S, HRG, HK, HLL, HLD, HOF, HB⟩ := hrel
    have hrg := HRG.out.1
    go_wp2_with (at_next; refine wpList_next_ranges _ rfl _ rfl 3 law RV (Value.int .i64) (fun v => v) (fun key kl hk => by obtain ⟨x, rfl, _⟩ := Maps.keyOf_int_inv Tryz.underlying3 hk; exact ⟨x, rfl⟩) (fun v y hv => ⟨v, rfl⟩) B2 r n2 _ _ _ rfl hrg ?_ ?_)
    · intro hc0 hl0
      obtain ⟨R, hR⟩ : ∃ R : Int → List Int, R = fun c => FtF.left (l c) (l2 c) := ⟨_, rfl⟩
      obtain rfl : l' = R := by rw [hR]; exact funext fun k => by rw [HLL.out k, hl0]; rfl
      have HRR := Aside0.mk (show Rest ars l2 l' by rw [hR]; exact rest_of ars (ok_of HLN.out HPS.out) l l2 HL.out HND.out)
      clear hrg hR hc0 hl0
      go_wp2_with (at_range; refine wpList_range_own _ rfl _ 39 rfl 3 64 law Tryz.underlying39 RV B n D rfl HK.out.own ?_; intro w5 hrg0 hg0 hs0)
      go_frame
      have HRG1 := Aside0.mk hrg0
      have n0_ := Aside0.mk (HK.out.grown hg0 (by simp) (fun _ _ _ => by simp))
      have n1_ := Aside0.mk (below_grow HB.out (below_size HB.out) hg0 (fun _ e => by cases e))
      have HZ := Aside0.mk (show wr.heap.size < w5.heap.size ∧ B < w5.heap.size ∧ w.heap.size ≤ w5.heap.size ∧ ∀ c b, S c b → b < w5.heap.size from ⟨by omega, by have := HK.out.lt; omega, by have := HB.out.size; omega, fun c b hb => by have := (HK.out.sets c b hb).2.1; omega⟩)
      have HR1 := Aside0.mk (show (∀ c, ¬ S c wr.heap.size) ∧ wr.heap.size ≠ B ∧ w.heap.size ≤ wr.heap.size from ⟨fun c hc => by have := (HK.out.sets c _ hc).2.1; omega, fun e => by have := HK.out.lt; omega, HB.out.size⟩)
      clear HK HB HRG HOF HLL HLD hrg0 hg0 hs0
      have HK := n0_
      have HB := n1_
      clear n0_ n1_
      have HT0 := Aside0.mk (Kd.R_nil Kd.string 9 w5 w5.heap.size (fun b => w5.heap.size ≤ b))
      generalize wr.heap.size = r1 at HRG1 HZ HR1 ⊢
      obtain ⟨z, hz⟩ : ∃ z, z = w5.heap.size := ⟨_, rfl⟩
      rw [← hz] at HZ HT0
      have HZZ := Aside0.mk (show z ≤ w5.heap.size from Nat.le_of_eq hz)
      clear hz
      obtain ⟨ko, hko⟩ : ∃ ko, ko = gk := ⟨_, rfl⟩
      subst hko
      go_loopg [7] (Maps.size D) (fun kq v7 w' => ∃ (left1 : Lit → Bool) (cnt : Nat) (vis : List Int) (A7 : Option Addr) (c7 : Nat) (T : List ByteArray), v7 = .slice A7 T.length c7 ∧ Aside0 (T = vis.flatMap fun c => sqT c (l' c)) ∧ Aside0 (w'.ranges Tryz.prog 3 RV B r1 n D left1 cnt ∧ cnt ≤ kq) ∧ Aside0 (Cols w' B b0 n D g l' h S) ∧ Aside0 (Kd.string.R 9 w' z (fun b => z ≤ b) (.slice A7 T.length c7) T) ∧ Aside0 (vis.Nodup ∧ (∀ c ∈ vis, h c = true ∧ left1 (.int .i64 c) = false) ∧ (∀ c, h c = true → left1 (.int .i64 c) = false → c ∈ vis)) ∧ Aside0 (∀ kl, left1 kl = true → Maps.has D kl = true) ∧ Aside0 (Below w.heap.size w w' ∧ z ≤ w'.heap.size))
      case atStart => exact ⟨_, _, [], none, 0, [], rfl, ⟨rfl⟩, ⟨⟨HRG1.out, Nat.le_refl _⟩⟩, HK, HT0, ⟨⟨List.nodup_nil, fun c hc => (List.not_mem_nil hc).elim, fun c h1 h2 => by rw [HK.out.says.2 c, h1] at h2; cases h2⟩⟩, ⟨fun _ h => h⟩, ⟨⟨HB.out, HZZ.out⟩⟩⟩
      case round =>
        clear HK HB HRG1 HT0 HZZ
        obtain ⟨left1, cnt, vis, A7, c7, T, rfl, HTE, HRG, HK, HT, HV, HLD, HBZ⟩ := hrel
        have hrg := HRG.out.1
        have HVB := Aside0.mk (show ∀ c ∈ vis, 1 ≤ c ∧ c ≤ 30 from fun c hc => (HLB.out c).2 (HV.out.2.1 c hc).1)
        have HVL := Aside0.mk (show T.length ≤ 1800 from by
          rw [HTE.out]
          have h1 := nodup_len 30 vis HV.out.1 (fun c hc => by have := HVB.out c hc; omega)
          have h2 := flat_len (f := fun c => sqT c (l' c)) 60 vis (fun c _ => Nat.le_trans (sqT_len c _) (HRR.out.len c))
          omega)
        go_wp2_with (at_next; refine wpList_next_ranges _ rfl _ rfl 3 law RV (Value.int .i64) (fun v => v) (fun key kl hk => by obtain ⟨x, rfl, _⟩ := Maps.keyOf_int_inv Tryz.underlying3 hk; exact ⟨x, rfl⟩) (fun v y hv => ⟨v, rfl⟩) B r1 n _ _ _ rfl hrg ?_ ?_)
        · intro hc0 hl0
          have HTW := Aside0.mk (show ∀ p ∈ T, p.size ≤ 9 from fun p hp => by
            rw [HTE.out] at hp
            obtain ⟨c, hc, hp⟩ := List.mem_flatMap.1 hp
            exact ((sq_pieces c (HVB.out c hc) (l' c) (HRR.out.row c) (HRR.out.lt c)).2.2.1 p hp).top)
          have HL0 := Aside0.mk hl0
          have HJ := Aside0.mk (show ∀ W : World, Below wr.heap.size wr W → Calls Tryz.prog 39 #[.slice A7 T.length c7, .string ⟨#[32]⟩] W fun e w' => e = .returned (.string (words T)) ∧ Below W.heap.size W w' from fun W hW => by
            have h4 := Kd.R_reads' HT.out
            refine GivenT.strings_Join.calls A7 c7 T ⟨#[32]⟩ (words T) W (Kd.C_below h4.2.2 hW) h4.2.1 ?_
            have h5 := words_size T HTW.out
            have h6 := HVL.out
            unfold GivenT.strings_Join.f
            rw [if_pos ⟨by omega, by have h7 : GivenT.joined T ⟨#[32]⟩ = words T := rfl; rw [h7]; omega⟩]
            rfl)
          clear hrg hc0 hl0
          have HB := Aside0.mk HBZ.out.1
          go_wp2_with (go_at_call 39; (with_reducible refine (HJ.out _ ?_).mono ?_); (first | exact Below.refl _ _ | exact below_drew1 (Below.refl _ _)); rintro e w7 ⟨rfl, hb⟩; have n0_ := Aside0.mk (below_step HB.out hb); clear HB hb; have HB := n0_; clear n0_)
          go_ret2
          refine ⟨vis, l', by rw [← HTE.out]; rfl, HV.out.1, HVB.out, fun c hc => ?_, fun c => ⟨HRR.out.lt c, HRR.out.mem c⟩, HB.out⟩
          cases e : h c with
          | false => exact cols_none HK.out c e
          | true => exact absurd (HV.out.2.2 c e (HL0.out _)) hc
        · intro x v kl y1 y2 w6 cnt6 hkx hlx hRc hRd hat hrg6 hlt6 hg6 hs6 hen
          have hxx : kl = .int .i64 x := by
            obtain ⟨x', ex, rfl, _⟩ := Maps.keyOf_int_inv Tryz.underlying3 hkx
            cases ex
            rfl
          subst hxx
          have hhx : h x = true := by rw [← HK.out.says.2 x]; exact HLD.out _ hlx
          have HXR := Aside0.mk ((HLB.out x).2 hhx)
          have HHX := Aside0.mk hhx
          have hvg : v = g x := value_at HK.out x v y1 hRc hat
          have n0_ := Aside0.mk (HK.out.grown hg6 (fun e => HR1.out.2.1 (by injection e with e; exact e.symm)) (fun c b hb e => HR1.out.1 c (by have h7 : b = r1 := (by injection e); rw [← h7]; exact hb)))
          have n1_ := Aside0.mk (below_grow HBZ.out.1 (below_size HBZ.out.1) hg6 (fun q e => by cases e; exact HR1.out.2.2))
          have n2_ := Aside0.mk (And.intro hrg6 hlt6)
          have n3_ := Aside0.mk (Kd.R_grown HT.out hg6 (fun b hb e => by have h7 : b = r1 := (by injection e); have := HZ.out.1; have h8 : z ≤ b := hb; omega))
          have HZW := Aside0.mk (show z ≤ w6.heap.size by rw [hs6]; exact HBZ.out.2)
          have HLX := Aside0.mk hlx
          clear HK HBZ HT hrg hRc hRd hat hrg6 hlt6 hg6 hs6 hkx hhx hlx
          have HK := n0_
          have HB := n1_
          have HRG6 := n2_
          have HT := n3_
          clear n0_ n1_ n2_ n3_
          obtain ⟨A2, cap2, eg2⟩ := Kd.R_slice (HK.out.rows x)
          rw [prs_len] at eg2
          rw [hvg, eg2] at hen
          obtain ⟨k, hk⟩ := (squash x HXR.out (l' x) (by have := HRR.out.len x; omega) (HRR.out.row x) (HRR.out.lt x)).rounds
          have HSQ := Aside0.mk (show ∀ W : World, Below w6.heap.size w6 W → Calls Tryz.prog 38 #[.slice A2 (l' x).length cap2] W fun e w' => ∃ v0 : Value, e = .returned v0 ∧ Kd.R Kd.string 9 w' W.heap.size (fun _ => True) v0 (sqT x (l' x)) ∧ Below W.heap.size W w' from fun W hW => by
            have h3 := HK.out.rows x
            rw [eg2] at h3
            have h4 := Kd.R_reads' h3
            rw [prs_len] at h4
            have h5 := PTo.excelize_squashSqref.calls k A2 cap2 (prs x (l' x)) (sqT x (l' x)) W (Kd.C_below (by have h6 := h4.2.2; rw [prs_len]; exact h6) hW) (by rw [prs_len]; exact h4.2.1) hk
            rw [prs_len] at h5
            exact h5)
          clear hvg eg2 hk
          go_wp2_with (first
            | (go_at_call 38; (with_reducible refine (HSQ.out _ ?_).mono ?_); (first | exact Below.refl _ _ | exact below_drew1 (Below.refl _ _)); rintro e w7 ⟨v0, rfl, ho, hb⟩; obtain ⟨A3, c3, e3, hl3, hr3⟩ := Kd.R_reads ho; subst e3; have HC3 := Aside0.mk hr3; have HZW7 := Aside0.mk (Nat.le_trans HZW.out hb.size); have n0_ := Aside0.mk (HK.out.below hb); have n1_ := Aside0.mk (below_step HB.out hb); have n2_ := Aside0.mk (And.intro (HRG6.out.1.kept (grown_of_below hb none) (by simp) (by simp)) HRG6.out.2); have n3_ := Aside0.mk (Kd.R_below HT.out hb); clear HK HB HRG6 HT hb; have HK := n0_; have HB := n1_; have HRG6 := n2_; have HT := n3_; clear n0_ n1_ n2_ n3_; clear ho hl3 hr3 HZW HSQ)
            | ((with_reducible refine gate_builtin (b := .append) (xs := #[.tmp 67, .tmp 69]) rfl ?_); at_builtin; refine Kd.R_append_rows Kd.string (w0 := w7) z rfl (.tmp 67) (.tmp 69) 25 9 (.string ⟨#[]⟩) 16 rfl Tryz.underlying25 PTo.info9 rfl (by decide) (by omega) (.slice A7 T.length c7) T (sqT x (l' x)) A3 (sqT x (l' x)).length c3 (fun b => z ≤ b) (fun _ => False) rfl rfl HT.out HC3.out (fun _ _ h => h) (fun _ h => h.elim) (fun k hk => Nat.le_trans HZW7.out hk) (Below.refl _ _) HZW7.out (by have h8 := HVL.out; have h9 := sqT_len x (l' x); have h10 := HRR.out.len x; omega) ?_; intro v1 w8 ho hbx hg hat; clear hbx hat; obtain ⟨A8, c8, e8⟩ := Kd.R_slice ho; subst e8))
          have hvo : ∀ q, some q = (Value.slice A7 T.length c7).ownBlock → z ≤ q := fun q e => HT.out.1 q e.symm
          go_roundg cnt6
          case measure => have := HRG6.out.2; have := HRG.out.2; omega
          case rel =>
            have hnx : x ∉ vis := fun hx => by have h1 := (HV.out.2.1 x hx).2; rw [HLX.out] at h1; cases h1
            have hfm : T ++ sqT x (l' x) = (vis ++ [x]).flatMap (fun c => sqT c (l' c)) := by rw [HTE.out, List.flatMap_append, List.flatMap_cons, List.flatMap_nil, List.append_nil]
            refine ⟨_, cnt6, vis ++ [x], A8, c8, T ++ sqT x (l' x), by rw [List.length_append], ⟨hfm⟩, ⟨⟨HRG6.out.1.kept hg (fun e => by have := hvo _ e; have := HZ.out.2.1; omega) (fun e => by have := hvo _ e; have := HZ.out.1; omega), Nat.le_refl _⟩⟩, ⟨HK.out.grown hg (fun e => by have := hvo _ e; have := HZ.out.2.1; omega) (fun c b hb e => by have := hvo _ e; have := HZ.out.2.2.2 c b hb; omega)⟩, ⟨?_⟩, ⟨⟨?_, ?_, ?_⟩⟩, ⟨fun kl hkl => HLD.out kl (by simp only [Bool.and_eq_true] at hkl; exact hkl.1)⟩, ⟨⟨below_grow HB.out (below_size HB.out) hg (fun q e => by have := hvo q e.symm; have := HZ.out.2.2.1; omega), Nat.le_trans HZW7.out hg.size⟩⟩⟩
            · exact ho
            · rw [List.nodup_append]
              exact ⟨HV.out.1, List.pairwise_singleton _ _, fun a ha b hb e => by rw [List.mem_singleton.1 hb] at e; subst e; exact hnx ha⟩
            · intro c hc
              rcases List.mem_append.1 hc with hc | hc
              · exact ⟨(HV.out.2.1 c hc).1, by rw [(HV.out.2.1 c hc).2]; rfl⟩
              · rw [List.mem_singleton.1 hc]
                have hs : (Lit.int .i64 x).sameKey (.int .i64 x) = true := by simp [Lit.sameKey]
                exact ⟨HHX.out, by rw [hs, Bool.not_true, Bool.and_false]⟩
            · intro c hc1 hc2
              by_cases e : c = x
              · subst e; exact List.mem_append.2 (.inr (List.mem_singleton.2 rfl))
              · have hs : (Lit.int .i64 c).sameKey (.int .i64 x) = false := by simp [Lit.sameKey, e]
                rw [hs, Bool.not_false, Bool.and_true] at hc2
                exact List.mem_append.2 (.inl (HV.out.2.2 c hc1 hc2))
    · intro x v kl y1 y2 w6 cnt6 hkx hlx hRc hRd hat hrg6 hlt6 hg6 hs6 hen
      have hxx : kl = .int .i64 x := by
        obtain ⟨x', ex, rfl, _⟩ := Maps.keyOf_int_inv Tryz.underlying3 hkx
        cases ex
        rfl
      subst hxx
      have hhx : h2 x = true := by rw [← HK2.out.says.2 x]; exact HLD.out _ hlx
      have HXR := Aside0.mk ((HL2.out x).2 hhx)
      have hvg : v = g2 x := value_at HK2.out x v y1 hRc hat
      have n0_ := Aside0.mk (HK.out.grown hg6 (fun e => HRB.out (by injection e with e; exact e.symm)) (fun c b hb e => HOF.out.2 c (by have h7 : b = r := (by injection e); rw [← h7]; exact hb)))
      have n1_ := Aside0.mk (below_grow HB.out (below_size HB.out) hg6 (fun q e => by cases e; exact HRL.out))
      have n2_ := Aside0.mk (And.intro hrg6 hlt6)
      have n3_ := Aside0.mk (show r < w6.heap.size ∧ ∀ c, ¬ S c r from ⟨by rw [hs6]; exact HOF.out.1, HOF.out.2⟩)
      have HLX := Aside0.mk hlx
      clear HK HB HOF hrg hRc hRd hat hrg6 hlt6 hg6 hs6 hkx hhx hlx
      have HK := n0_
      have HB := n1_
      have HRG6 := n2_
      have HOF := n3_
      clear n0_ n1_ n2_ n3_
      obtain ⟨A2, cap2, eg2⟩ := Kd.R_slice (HK2.out.rows x)
      rw [prs_len] at eg2
      rw [hvg, eg2] at hen
      have HC2 := Aside0.mk (show dP.C w A2 (l2 x).length (prs x (l2 x)) by have h3 := HK2.out.rows x; rw [eg2] at h3; have h4 := Kd.R_reads' h3; rw [prs_len] at h4; exact h4.2.2)
      clear hvg eg2
      have HXC := Aside0.mk (show -1000 ≤ x ∧ x ≤ 1000 by have := HXR.out; omega)
      have HLX1 := Aside0.mk (show l' x = l x by rw [HLL.out x, HLX.out]; rfl)
      have HE0 := Aside0.mk (show upd l' x (FtF.left (l' x) ((l2 x).take 0)) = l' from upd_id l' x)
      obtain ⟨kp, hkp⟩ : ∃ kp, kp = gk := ⟨_, rfl⟩
      subst hkp
      go_wp2
      go_loopg [35] ((l2 x).length) (fun kq v35 w' => ∃ (i : Nat) (D : DataW Value) (g : Int → Value) (S : Int → Nat → Prop), v35 = .int .i64 (i : Int) ∧ Aside0 (i ≤ (l2 x).length ∧ kq = (l2 x).length - i) ∧ Aside0 (w'.ranges Tryz.prog 3 RV B2 r n2 D2 (fun z => left2 z && !z.sameKey (.int .i64 x)) cnt6 ∧ cnt6 < cnt) ∧ Aside0 (Cols w' B b0 n D g (upd l' x (FtF.left (l' x) ((l2 x).take i))) h S) ∧ Aside0 (r < w'.heap.size ∧ ∀ c, ¬ S c r) ∧ Aside0 (Below w.heap.size w w'))
      case atStart => exact ⟨0, _, _, _, rfl, ⟨⟨Nat.zero_le _, rfl⟩⟩, HRG6, ⟨by rw [HE0.out]; exact HK.out⟩, HOF, HB⟩
      case round =>
        clear HK HB HRG6 HOF HE0
        obtain ⟨i, D, g, S, rfl, HI, HRG6, HK, HOF, HB⟩ := hrel
        by_cases hi : i < (l2 x).length
        · have c1 : decide ((i : Int) < ((l2 x).length : Int)) = true := decide_eq_true (by omega)
          have q1 := eq_true (show (i : Int) < ((l2 x).length : Int) by omega)
          have p1 := eq_true (show (0 : Int) ≤ (i : Int) by omega)
          have e1 : ((i : Int)).toNat = i := by omega
          obtain ⟨ad, A0, rfl, hcell, hC0⟩ := row_cell x trivial (Kd.C_below HC2.out HB.out) i hi
          obtain ⟨lx, hlx⟩ : ∃ lx, lx = FtF.left (l' x) ((l2 x).take i) := ⟨_, rfl⟩
          obtain ⟨y, hy⟩ : ∃ y, (l2 x)[i]? = some y := ⟨_, List.getElem?_eq_getElem hi⟩
          have hyd : (l2 x).getD i 0 = y := by rw [List.getD_eq_getElem?_getD, hy]; rfl
          rw [hyd] at hC0
          rw [← hlx] at HK
          have HNX := Aside0.mk (show FtF.left (l' x) ((l2 x).take (i + 1)) = lx.erase y by rw [hlx]; exact left_step _ _ _ _ hy)
          have HLL2 := Aside0.mk (show lx.length ≤ 1000000 by
            have h1 := (FtF.left_sub ((l2 x).take i) (l' x)).length_le
            rw [← hlx, HLX1.out] at h1
            have h2 := (HLB.out x).1
            have := HN.out
            omega)
          obtain ⟨k, hk⟩ := (inCoords x y lx HLL2.out).rounds
          obtain ⟨A1, cap1, eg1⟩ := Kd.R_slice (HK.out.rows x)
          rw [prs_len, upd_self] at eg1
          have hlk := HK.out.look x HXC.out
          rw [eg1] at hlk
          have HCL := Aside0.mk (show ∀ W : World, Below wr.heap.size wr W → Calls Tryz.prog 37 #[.slice A1 lx.length cap1, .slice A0 2 2] W fun e w' => e = .returned (.int .i64 (placeI y lx)) ∧ Drawn0 W w' from fun W hW => by
            have h3 := HK.out.rows x
            rw [upd_self, eg1] at h3
            have h4 := Kd.R_reads' h3
            have h5 := PTo.excelize_inCoordinates.calls k A1 cap1 (prs x lx) A0 2 [x, y] _ W (Kd.C_below (exact_slice h4.2.2) hW) (by rw [prs_len]; exact h4.2.1) (Kd.C_below hC0 hW) (Nat.le_refl 2) hk
            rw [prs_len] at h5
            exact h5)
          have HEG := Aside0.mk eg1
          clear eg1
          have HII := Aside0.mk hi
          have hwi : wrap64 ((i : Int) + 1) = ((i + 1 : Nat) : Int) := by have := (HL2.out x).1; unfold wrap64; omega
          have HWI := Aside0.mk hwi
          clear hi hC0 hlx hy hyd hk hwi
          trace_state
          go_upto_region 13 with (go_at_call 37; (with_reducible refine (HCL.out _ ?_).mono ?_); (first | exact Below.refl _ _ | exact below_drew1 (Below.refl _ _)); rintro e w7 ⟨rfl, hd⟩)
          have hb : Below wr.heap.size wr w7 := hd.below
          have n0_ := Aside0.mk (HK.out.below hb); have n1_ := Aside0.mk (below_step HB.out hb); have n2_ := Aside0.mk (And.intro (HRG6.out.1.kept (grown_of_below hb none) (by simp) (by simp)) HRG6.out.2); have n3_ := Aside0.mk (And.intro (Nat.lt_of_lt_of_le HOF.out.1 hb.size) HOF.out.2); clear HK HB HRG6 HOF hb; have HK := n0_; have HB := n1_; have HRG6 := n2_; have HOF := n3_; clear n0_ n1_ n2_ n3_
          clear hd hlk HCL hcell
          rcases hpl : place y lx with _ | j
          · have hpi : placeI y lx = -1 := by unfold placeI; rw [hpl]
            rw [hpi]
            have HST := Aside0.mk (((place_spec y lx).1 hpl).1)
            clear hpl hpi
            have hwi := HWI.out
            go_wp2
            go_roundg ((l2 x).length - (i + 1))
            case measure => have := HII.out; have := HI.out; omega
            case rel => exact ⟨i + 1, D, g, S, by first | rfl | rw [hwi], ⟨⟨by have := HII.out; omega, rfl⟩⟩, HRG6, ⟨by rw [HNX.out, HST.out]; exact HK.out⟩, HOF, HB⟩
          · have hpi : placeI y lx = (j : Int) := by unfold placeI; rw [hpl]
            rw [hpi]
            obtain ⟨hj1, hj2⟩ := (place_spec y lx).2 j hpl
            have HJM := Aside0.mk hj1
            have HJE := Aside0.mk hj2
            obtain ⟨gb, capb, egb, _, _, hcb⟩ := Kd.R_form (HK.out.rows x) (by rw [prs_len, upd_self]; omega)
            rw [prs_len, upd_self, HEG.out] at egb
            obtain ⟨rfl, rfl⟩ : A1 = some ⟨gb, 0, none⟩ ∧ cap1 = capb := by injection egb with ea _ ec; exact ⟨ea, ec⟩
            have HHX := Aside0.mk (show h x = true from by
              cases e : h x with
              | true => rfl
              | false =>
                have h9 := cols_none HK.out x e
                rw [upd_self] at h9
                rw [h9] at hj1
                cases hj1)
            have hcl : lx.length ≤ cap1 := by
              have h3 := HK.out.rows x
              rw [upd_self, HEG.out] at h3
              exact (Kd.R_reads' h3).2.1
            have q2 : ((j : Int) == -1) = false := by first | (simp; done) | (simp; omega)
            have q3 := eq_false (show ¬ (j : Int) = -1 by omega)
            have q4 := eq_true (show (0 : Int) ≤ (j : Int) by omega)
            have q5 := eq_true (show (j : Int) ≤ (cap1 : Int) by omega)
            have q6 := eq_true (show (j : Int) + 1 ≤ (lx.length : Int) by omega)
            have q7 := eq_true (show (lx.length : Int) ≤ (cap1 : Int) by omega)
            have q9 := eq_true (show (0 : Int) ≤ (j : Int) + 1 by omega)
            have q10 : ((j : Int) + 1).toNat = j + 1 := by omega
            have q8 : wrap64 ((j : Int) + 1) = (j : Int) + 1 := by have := HLL2.out; unfold wrap64; omega
            have hwi := HWI.out
            clear hpl hpi hj1 hj2 egb hcb hcl
            go_upto_region 14 with fail
            have hb := below_drew1 (Below.refl w7.heap.size w7)
            have n0_ := Aside0.mk (HK.out.below hb); have n1_ := Aside0.mk (below_step HB.out hb); have n2_ := Aside0.mk (And.intro (HRG6.out.1.kept (grown_of_below hb none) (by simp) (by simp)) HRG6.out.2); have n3_ := Aside0.mk (And.intro (Nat.lt_of_lt_of_le HOF.out.1 hb.size) HOF.out.2); clear HK HB HRG6 HOF hb; have HK := n0_; have HB := n1_; have HRG6 := n2_; have HOF := n3_; clear n0_ n1_ n2_ n3_
            have hS0 : (Instr.lookup 39 (.map (some B)) (.int .i64 x) false).run Tryz.prog w7.drew = .ok (.slice (some ⟨gb, 0, none⟩) lx.length cap1) w7.drew := (HK.out.look x HXC.out).trans (by rw [HEG.out])
            refine start_ (n := 15) (S := fun w' => (Instr.lookup 39 (.map (some B)) (.int .i64 x) false).run Tryz.prog w' = .ok (.slice (some ⟨gb, 0, none⟩) lx.length cap1) w') (ds := [14]) #[false, false, false, false, false, false, false, false, false, false, false, false, false, false, false] (by kernel_rfl) rfl rfl (hS0) (fun hHeld => ?_)
            clear hS0
            generalize w7.drew = w5 at HK HB HRG6 HOF hHeld ⊢
            have HKR := Aside0.mk (show dP.R 36 w5 b0 (S x) (.slice (some ⟨gb, 0, none⟩) lx.length cap1) (prs x lx) by have h3 := HK.out.rows x; rw [upd_self, HEG.out] at h3; exact h3)
            have HSG := Aside0.mk (show S x gb from HKR.out.1 gb rfl)
            have HGL := Aside0.mk (show w.heap.size ≤ gb by have := (HK.out.sets x gb HSG.out).1; have := HB0.out; omega)
            have HBG := Aside0.mk (show B ≠ gb from fun e => (HK.out.sets x gb HSG.out).2.2 e.symm)
            refine pure_ (i := 0) (N := some 46) (v := ?_) (a' := ?_) #[true, false, false, false, false, false, false, false, false, false, false, false, false, false, false] rfl rfl (by kernel_rfl) (fun _ _ _ h => h) (Or.inl ⟨by rfl, ?_⟩) ?_ ?_
            rotate_left
            · intro w'
              go_simp
              with_reducible rfl
            rotate_left
            · simp only [Act.put, List.setIfInBounds_toArray, List.set_cons_zero, List.set_cons_succ, i64_w, i32_w]
              rfl
            refine pure_ (i := 1) (N := some 47) (v := ?_) (a' := ?_) #[true, true, false, false, false, false, false, false, false, false, false, false, false, false, false] rfl rfl (by kernel_rfl) (fun _ _ _ h => h) (Or.inl ⟨by rfl, ?_⟩) ?_ ?_
            rotate_left
            · intro w'
              go_simp
              with_reducible rfl
            rotate_left
            · simp only [Act.put, List.setIfInBounds_toArray, List.set_cons_zero, List.set_cons_succ, i64_w, i32_w]
              rfl
            refine pure_ (i := 2) (N := some 48) (v := ?_) (a' := ?_) #[true, true, true, false, false, false, false, false, false, false, false, false, false, false, false] rfl rfl (by kernel_rfl) (fun _ _ _ h => h) (Or.inl ⟨by rfl, ?_⟩) ?_ ?_
            rotate_left
            · intro w'
              go_simp
              with_reducible rfl
            rotate_left
            · simp only [Act.put, List.setIfInBounds_toArray, List.set_cons_zero, List.set_cons_succ, i64_w, i32_w]
              rfl
            refine pure_ (i := 3) (N := some 49) (v := ?_) (a' := ?_) #[true, true, true, true, false, false, false, false, false, false, false, false, false, false, false] rfl rfl (by kernel_rfl) (fun _ _ _ h => h) (Or.inl ⟨by rfl, ?_⟩) ?_ ?_
            rotate_left
            · intro w'
              go_simp
              with_reducible rfl
            rotate_left
            · simp only [Act.put, List.setIfInBounds_toArray, List.set_cons_zero, List.set_cons_succ, i64_w, i32_w]
              rfl
            refine pure_ (i := 5) (N := some 51) (v := ?_) (a' := ?_) #[true, true, true, true, false, true, false, false, false, false, false, false, false, false, false] rfl rfl (by kernel_rfl) (fun _ _ _ h => h) (Or.inl ⟨by rfl, ?_⟩) ?_ ?_
            rotate_left
            · intro w'
              go_simp
              with_reducible rfl
            rotate_left
            · simp only [Act.put, List.setIfInBounds_toArray, List.set_cons_zero, List.set_cons_succ, i64_w, i32_w]
              rfl
            refine pure_ (i := 7) (N := some 53) (v := ?_) (a' := ?_) #[true, true, true, true, false, true, false, true, false, false, false, false, false, false, false] rfl rfl (by kernel_rfl) (fun _ _ _ h => h) (Or.inl ⟨by rfl, ?_⟩) ?_ ?_
            rotate_left
            · intro w'
              go_simp
              with_reducible rfl
            rotate_left
            · simp only [Act.put, List.setIfInBounds_toArray, List.set_cons_zero, List.set_cons_succ, i64_w, i32_w]
              rfl
            refine pure_ (i := 8) (N := some 54) (v := ?_) (a' := ?_) #[true, true, true, true, false, true, false, true, true, false, false, false, false, false, false] rfl rfl (by kernel_rfl) (fun _ _ _ h => h) (Or.inl ⟨by rfl, ?_⟩) ?_ ?_
            rotate_left
            · intro w'
              go_simp
              with_reducible rfl
            rotate_left
            · simp only [Act.put, List.setIfInBounds_toArray, List.set_cons_zero, List.set_cons_succ, i64_w, i32_w]
              rfl
            refine pure_ (i := 10) (N := some 56) (v := ?_) (a' := ?_) #[true, true, true, true, false, true, false, true, true, false, true, false, false, false, false] rfl rfl (by kernel_rfl) (fun _ _ _ h => h) (Or.inl ⟨by rfl, ?_⟩) ?_ ?_
            rotate_left
            · intro w'
              go_simp
              with_reducible rfl
            rotate_left
            · simp only [Act.put, List.setIfInBounds_toArray, List.set_cons_zero, List.set_cons_succ, i64_w, i32_w]
              rfl
            refine pure_ (i := 11) (N := some 57) (v := ?_) (a' := ?_) #[true, true, true, true, false, true, false, true, true, false, true, true, false, false, false] rfl rfl (by kernel_rfl) (fun _ _ _ h => h) (Or.inl ⟨by rfl, ?_⟩) ?_ ?_
            rotate_left
            · intro w'
              go_simp
              with_reducible rfl
            rotate_left
            · simp only [Act.put, List.setIfInBounds_toArray, List.set_cons_zero, List.set_cons_succ, i64_w, i32_w]
              rfl
            refine take_ (i := 4) (N := some 50) (v := ?_) (a' := ?_) #[true, true, true, true, true, true, false, true, true, false, true, true, false, false, false] rfl rfl (by kernel_rfl) (fun _ _ _ h => h) (Or.inl ⟨by rfl, ?_⟩) hHeld ?_ ?_
            rotate_left
            · intro w' s0
              go_simp
              with_reducible rfl
            rotate_left
            · simp only [Act.put, List.setIfInBounds_toArray, List.set_cons_zero, List.set_cons_succ, i64_w, i32_w]
              rfl
            refine pure_ (i := 6) (N := some 52) (v := ?_) (a' := ?_) #[true, true, true, true, true, true, true, true, true, false, true, true, false, false, false] rfl rfl (by kernel_rfl) (fun _ _ _ h => h) (Or.inl ⟨by rfl, ?_⟩) ?_ ?_
            rotate_left
            · intro w'
              go_simp
              with_reducible rfl
            rotate_left
            · simp only [Act.put, List.setIfInBounds_toArray, List.set_cons_zero, List.set_cons_succ, i64_w, i32_w]
              rfl
            refine take_ (i := 9) (N := some 55) (v := ?_) (a' := ?_) #[true, true, true, true, true, true, true, true, true, true, true, true, false, false, false] rfl rfl (by kernel_rfl) (fun _ _ _ h => h) (Or.inl ⟨by rfl, ?_⟩) hHeld ?_ ?_
            rotate_left
            · intro w' s0
              go_simp
              with_reducible rfl
            rotate_left
            · simp only [Act.put, List.setIfInBounds_toArray, List.set_cons_zero, List.set_cons_succ, i64_w, i32_w]
              rfl
            refine pure_ (i := 12) (N := some 58) (v := ?_) (a' := ?_) #[true, true, true, true, true, true, true, true, true, true, true, true, true, false, false] rfl rfl (by kernel_rfl) (fun _ _ _ h => h) (Or.inl ⟨by rfl, ?_⟩) ?_ ?_
            rotate_left
            · intro w'
              go_simp
              with_reducible rfl
            rotate_left
            · simp only [Act.put, List.setIfInBounds_toArray, List.set_cons_zero, List.set_cons_succ, i64_w, i32_w]
              rfl
            refine one_ (i := 13) (N := some 59) #[true, true, true, true, true, true, true, true, true, true, true, true, true, true, false] rfl rfl (by kernel_rfl) (by decide) (fun K hK => ?_)
            refine Kd.R_delete_step dP (w0 := w5) b0 (by rfl) (.tmp 52) (.tmp 58) 64 36 rfl Tryz.underlying64 (by kernel_rfl) rfl rfl (by first | rfl | (simp; done) | (rw [show dP.sz = 1 from rfl, Nat.mul_one]; simp [Addr.add])) (by omega) HKR.out HJM.out (Below.refl _ _) (by have := HK.out.new; have := HK.out.lt; omega) ?_
            intro w6 ho hbx hg
            clear hbx
            refine hK.out _ _ (look_grown HK.out hg (fun e => HBG.out (by injection e)) x HXC.out |>.trans (by rw [HEG.out])) (fun hHeld => ?_)
            clear hK K
            refine norm_ (a' := ?_) ?_ ?_
            rotate_left
            · show Act.put _ (some 59) _ = _
              simp only [Act.put, List.setIfInBounds_toArray, List.set_cons_zero, List.set_cons_succ, i64_w, i32_w]
              rfl
            refine last_ (i := 14) (N := none) #[true, true, true, true, true, true, true, true, true, true, true, true, true, true, true] rfl rfl (by kernel_rfl) (by decide) (fun K hK => ?_)
            rw [prs_erase, HJE.out] at ho
            obtain ⟨w8, D8, S8, hrun, hK8, hg8, hS8⟩ := cols_put HK.out HNB.out x HXC.out HHX.out _ ho (by rw [HEG.out]; exact hg)
            refine skip_ (w1 := w8) (by rfl) rfl ?_ ?_
            · unfold execOp
              first | (go_simp; done) | (go_simp; rw [hrun])
            refine hK.out _ _ ?_
            clear hK K
            refine done_ (by kernel_rfl) ?_
            
            have n0_ := Aside0.mk hK8
            have n1_ := Aside0.mk (below_grow (below_grow HB.out (below_size HB.out) hg (fun q e => by cases e; exact HGL.out)) (Nat.le_trans (below_size HB.out) hg.size) hg8 (fun q e => by cases e; have := HK.out.new; have := HB0.out; omega))
            have n2_ := Aside0.mk (And.intro ((HRG6.out.1.kept hg (fun e => by have h7 : B2 = gb := (by injection e); have := HB2.out; have := HGL.out; omega) (fun e => HOF.out.2 x (by have h7 : r = gb := (by injection e); rw [h7]; exact HSG.out))).kept hg8 (fun e => by have h7 : B2 = B := (by injection e); have := HB2.out; have := HB0.out; have := HK.out.new; omega) (fun e => HRB.out (by injection e))) HRG6.out.2)
            have n3_ := Aside0.mk (show r < w8.heap.size ∧ ∀ c, ¬ S8 c r from ⟨Nat.lt_of_lt_of_le HOF.out.1 (Nat.le_trans hg.size hg8.size), hS8 r HOF.out.1 HOF.out.2⟩)
            clear HK HB HRG6 HOF HKR HSG ho hg hrun hg8 hS8 hK8
            have HK := n0_
            have HB := n1_
            have HRG6 := n2_
            have HOF := n3_
            clear n0_ n1_ n2_ n3_
            go_wp2
            all_goals
              go_roundg ((l2 x).length - (i + 1))
              case measure => have := HII.out; have := HI.out; omega
              case rel => exact ⟨i + 1, D8, _, S8, by first | rfl | rw [hwi], ⟨⟨by have := HII.out; omega, rfl⟩⟩, HRG6, ⟨by rw [HNX.out]; have h9 := HK.out; rw [upd_upd] at h9; exact h9⟩, HOF, HB⟩
        · have c1 : decide ((i : Int) < ((l2 x).length : Int)) = false := decide_eq_false (by omega)
          have q1 := eq_false (show ¬ (i : Int) < ((l2 x).length : Int) by omega)
          obtain rfl : i = (l2 x).length := by have := HI.out; omega
          rw [List.take_length] at HK
          clear hi
          go_wp2
          go_roundg cnt6
          case measure => have := HRG6.out.2; have := HRG.out.2; omega
          case rel =>
            refine ⟨_, cnt6, D, g, _, S, ⟨⟨HRG6.out.1, Nat.le_refl _⟩⟩, HK, ⟨fun k => ?_⟩, ⟨fun kl hkl => HLD.out kl (by simp only [Bool.and_eq_true] at hkl; exact hkl.1)⟩, HOF, HB⟩
            by_cases e : k = x
            · subst e
              have hs : (Lit.int .i64 k).sameKey (.int .i64 k) = true := by simp [Lit.sameKey]
              rw [upd_self, HLX1.out, hs, Bool.not_true, Bool.and_false]
              rfl
            · have hs : (Lit.int .i64 k).sameKey (.int .i64 x) = false := by simp [Lit.sameKey, e]
              rw [upd_ne _ _ e, hs, Bool.not_false, Bool.and_true]
              exact HLL.out k
end Go.Proofs.YtmcppajgfhmpaaaGreatDoor.FtD
