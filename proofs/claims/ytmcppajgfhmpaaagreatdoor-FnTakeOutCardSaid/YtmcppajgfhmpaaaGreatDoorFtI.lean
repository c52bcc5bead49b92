/- FnTakeOut, walks: the law itself: areas from which areas are taken out have exactly the cells that are in the first and not in the second ones. Conditions: the arguments are rows of four numbers, and the table of white space is the library's own. -/
import Derived.Test.YtmcppajgfhmpaaaGreatDoorFtH
import Derived.Test.YtmcppajgfhmpaaaGreatDoorPToA
import Derived.Test.YtmcppajgfhmpaaaGreatDoorPToB
namespace Go.Proofs.YtmcppajgfhmpaaaGreatDoor.FtI
open Go.RowKit Go.Proofs.YtmcppajgfhmpaaaGreatDoorW.PrintWords Go.Proofs.YtmcppajgfhmpaaaGreatDoorW.PrintLast Go.Proofs.YtmcppajgfhmpaaaGreatDoorW.PrintMore Go.Proofs.YtmcppajgfhmpaaaGreatDoor.Str Go.Proofs.YtmcppajgfhmpaaaGreatDoor.FtA Go.Proofs.YtmcppajgfhmpaaaGreatDoor.FtB Go.Proofs.YtmcppajgfhmpaaaGreatDoor.FtQ Go.Proofs.YtmcppajgfhmpaaaGreatDoor.FtE Go.Proofs.YtmcppajgfhmpaaaGreatDoor.FtF Go.Proofs.YtmcppajgfhmpaaaGreatDoor.FtG Go.Proofs.YtmcppajgfhmpaaaGreatDoor.FtH
set_option linter.unusedVariables false
set_option linter.unusedSimpArgs false
def zipA (l : List Ar) : List (ByteArray × Ar) := l.map fun a => (tx a, a)
theorem in_of {a : Ar} (h : a.Ok) : In a := ⟨⟨h.h0, Int.le_trans h.h1 h.h2⟩, ⟨h.h3, Int.le_trans h.h4 h.h5⟩, ⟨Int.le_trans h.h0 h.h1, h.h2⟩, ⟨Int.le_trans h.h3 h.h4, h.h5⟩⟩
theorem zipA_ws (l : List Ar) : ws (zipA l) = l.map tx := by unfold ws zipA; rw [List.map_map]; rfl
theorem zipA_ars (l : List Ar) : ars (zipA l) = l := by unfold ars zipA; rw [List.map_map]; exact List.map_id'' (fun _ => rfl) l
theorem zipA_ok {l : List Ar} (h : ∀ a ∈ l, a.Ok) : Zs (zipA l) := by
  constructor
  · intro z hz
    obtain ⟨a, ha, rfl⟩ := List.mem_map.1 hz
    exact piece_two a (h a ha)
  · intro z hz
    obtain ⟨a, ha, rfl⟩ := List.mem_map.1 hz
    exact word_two a (in_of (h a ha))
theorem any_within (l : List Ar) (c r : Int) : l.any (within c r) = decide (r ∈ flats l c) := by
  have h : (l.any (within c r) = true) ↔ r ∈ flats l c := by
    rw [List.any_eq_true, mem_flats]
    constructor
    · rintro ⟨a, ha, h⟩
      unfold within at h
      simp only [Bool.and_eq_true, decide_eq_true_eq] at h
      exact ⟨a, ha, h⟩
    · rintro ⟨a, ha, h1, h2, h3, h4⟩
      refine ⟨a, ha, ?_⟩
      unfold within
      simp only [Bool.and_eq_true, decide_eq_true_eq]
      exact ⟨h1, h2, h3, h4⟩
  by_cases e : r ∈ flats l c
  · rw [decide_eq_true e]; exact h.2 e
  · rw [decide_eq_false e]; exact Bool.eq_false_iff.2 (fun hh => e (h.1 hh))
theorem has_iff (vis : List Int) (l : Int → List Int) (L : List PTo.S63) (hp : L.Perm (vis.map (col l))) (h : ∀ c, c ∉ vis → l c = []) (c r : Int) : has L c r = decide (r ∈ l c) := by
  have h1 : (has L c r = true) ↔ r ∈ l c := by
    unfold has
    rw [List.any_eq_true]
    constructor
    · rintro ⟨x, hx, he⟩
      obtain ⟨c', hc', rfl⟩ := List.mem_map.1 (hp.mem_iff.1 hx)
      simp only [Bool.and_eq_true, decide_eq_true_eq, List.any_eq_true] at he
      obtain ⟨h2, y, hy, rfl⟩ := he
      have h2 : c' = c := h2
      subst h2
      exact hy
    · intro hr
      have hc : c ∈ vis := Classical.byContradiction fun hn => by rw [h c hn] at hr; exact List.not_mem_nil hr
      refine ⟨col l c, hp.mem_iff.2 (List.mem_map.2 ⟨c, hc, rfl⟩), ?_⟩
      simp only [Bool.and_eq_true, decide_eq_true_eq, List.any_eq_true]
      exact ⟨rfl, r, hr, rfl⟩
  by_cases e : r ∈ l c
  · rw [decide_eq_true e]; exact h1.2 e
  · rw [decide_eq_false e]; exact Bool.eq_false_iff.2 (fun hh => e (h1.1 hh))
/-! ### the calls, as the law makes them -/
theorem apartCall (l : List PTo.S34) : ∃ as_ : List Ar, FtF.Good as_ ∧ ∀ (A : Option Addr) (c : Nat) (w : World), Kd.C PTo.k34 w A l.length l → l.length ≤ c →
    Calls Tryz.prog 4 #[.slice A l.length c] w fun e w' => ∃ A' c', e = .returned (.slice A' as_.length c') ∧ Kd.C PTo.k34 w' A' as_.length (as_.map toS) ∧ as_.length ≤ c' ∧ Below w.heap.size w w' := by
  obtain ⟨as_, hE, hg⟩ := refApart l
  obtain ⟨k, hk⟩ := hE.rounds
  refine ⟨as_, hg, fun A c w hC hc => (PTo.laws_refApart.calls k A c l (as_.map toS) w hC hc hk).mono ?_⟩
  rintro e w' ⟨v, rfl, hR, hb⟩
  obtain ⟨A', c', rfl, hl, hr⟩ := Kd.R_reads hR
  rw [List.length_map] at hl hr ⊢
  exact ⟨A', c', rfl, hr, hl, hb⟩
theorem textCall (l : List Ar) (h : FtF.Good l) (n : Nat) (hn : n = l.length) (A : Option Addr) (c : Nat) (w : World) (hC : Kd.C PTo.k34 w A n (l.map toS)) (hc : n ≤ c) :
    Calls Tryz.prog 7 #[.slice A n c] w fun e w' => e = .returned (.string (words (l.map tx))) ∧ Below w.heap.size w w' := by
  subst hn
  obtain ⟨k, hk⟩ := (areasText l (fun a ha => in_of (h.ok a ha)) (by have := h.top; omega)).rounds
  have h1 := PTo.spec_GridAreasText.calls k A c (l.map toS) (words (l.map tx)) w (by rw [List.length_map]; exact hC) (by rw [List.length_map]; exact hc) hk
  rw [List.length_map] at h1
  exact h1
theorem coversCall (L : List PTo.S63) (ins outs : List Ar) (n m1 m2 : Nat) (hn : n = L.length) (hm1 : m1 = ins.length) (hm2 : m2 = outs.length) (hl : L.length ≤ 30) (hz : ∀ x ∈ L, x.f1.length ≤ 1000000 * 10) (h1 : FtF.Good ins) (h2 : FtF.Good outs) (H : ∀ c r : Int, has L c r = (ins.any (within c r) && !outs.any (within c r)))
    (A A1 A2 : Option Addr) (c c1 c2 : Nat) (w : World) (hC : Kd.C PTo.k63 w A n L) (hc : n ≤ c) (hC1 : Kd.C PTo.k34 w A1 m1 (ins.map toS)) (hc1 : m1 ≤ c1) (hC2 : Kd.C PTo.k34 w A2 m2 (outs.map toS)) (hc2 : m2 ≤ c2) :
    Calls Tryz.prog 8 #[.slice A n c, .slice A1 m1 c1, .slice A2 m2 c2] w fun e w' => e = .returned (.bool true) ∧ Below w.heap.size w w' := by
  subst hn hm1 hm2
  obtain ⟨k, hk⟩ := (covers L (by omega) hz ins outs (by have := h1.top; omega) (by have := h2.top; omega) (fun c r _ _ _ _ => H c r)).rounds
  have h := PTo.laws_refCovers.calls k A c L A1 c1 (ins.map toS) A2 c2 (outs.map toS) true w hC hc (by rw [List.length_map]; exact hC1) (by rw [List.length_map]; exact hc1) (by rw [List.length_map]; exact hC2) (by rw [List.length_map]; exact hc2) hk
  rw [List.length_map, List.length_map] at h
  exact h
theorem livesCall (w : World) : Calls Tryz.prog 5 #[] w fun e w' => e = .returned (.bool true) ∧ Below w.heap.size w w' := GivenT.laws_refLives.calls true w rfl
theorem strAt {w : World} {A : Option Addr} {n : Nat} {xs : List ByteArray} (h : Kd.C Kd.string w A n xs) (i : Nat) (p : ByteArray) (hp : xs[i]? = some p) : ∃ ad, A = some ad ∧ w.cell? (ad.add i) = some (.string p) := by
  have hi := (List.getElem?_eq_some_iff.1 hp).1
  have hn : xs.length = n := h.1
  obtain ⟨ad, c, e, _, hK, hc⟩ := Kd.C_get h ⟨#[]⟩ (i : Int) (by omega) (by omega)
  have hK' : c = [.string (xs.getD ((i : Int)).toNat ⟨#[]⟩)] := hK
  subst hK'
  have hq := hc 0 _ rfl
  rw [show Kd.string.sz = 1 from rfl, Nat.mul_one, Nat.add_zero, show ((i : Int)).toNat = i by omega] at hq
  rw [List.getD_eq_getElem?_getD, hp] at hq
  exact ⟨ad, e, hq⟩
set_option maxHeartbeats 4000000 in
set_option maxRecDepth 100000 in
theorem law (l0 l1 : List PTo.S34) (A0 A1 : Option Addr) (c0 c1 : Nat) (w : World) (hr0 : Kd.C PTo.k34 w A0 l0.length l0) (hc0 : l0.length ≤ c0) (hr1 : Kd.C PTo.k34 w A1 l1.length l1) (hc1 : l1.length ≤ c1) (ht : Tab w) :
    Calls Tryz.prog 3 #[.slice A0 l0.length c0, .slice A1 l1.length c1] w fun e w' => e = .returned (.bool true) ∧ Below w.heap.size w w' := by
  have HB := Aside0.mk (Below.refl w.heap.size w)
  by_cases z0 : (l0.length : Int) > 2147483647
  · have d0 := decide_eq_true z0
    have d1 := eq_true z0
    clear hr0 hc0 hr1 hc1 ht z0
    go_enter Tryz.func3, Tryz.ntmps3
    go_wp2
    go_ret
    exact ⟨rfl, HB.out⟩
  have d0 := decide_eq_false z0
  have d1 := eq_false z0
  clear z0
  by_cases z1 : (l1.length : Int) > 2147483647
  · have d2 := decide_eq_true z1
    have d3 := eq_true z1
    clear hr0 hc0 hr1 hc1 ht z1
    go_enter Tryz.func3, Tryz.ntmps3
    go_wp2
    go_ret
    exact ⟨rfl, HB.out⟩
  have d2 := decide_eq_false z1
  have d3 := eq_false z1
  clear z1
  obtain ⟨ins, hgi, hci⟩ := apartCall l0
  obtain ⟨outs, hgo, hco⟩ := apartCall l1
  have HGI := Aside0.mk hgi
  have HGO := Aside0.mk hgo
  have HT := Aside0.mk ht
  have HC0 := Aside0.mk (fun W (hW : Below w.heap.size w W) => hci A0 c0 W (Kd.C_below hr0 hW) hc0)
  have HC1 := Aside0.mk (fun W (hW : Below w.heap.size w W) => hco A1 c1 W (Kd.C_below hr1 hW) hc1)
  clear hgi hgo hci hco hr0 hc0 hr1 hc1 ht
  generalize l0.length = n0 at *
  generalize l1.length = n1 at *
  go_enter Tryz.func3, Tryz.ntmps3
  go_upto_region 4 with (first
    | (go_at_call 4; (with_reducible refine (HC0.out _ HB.out).mono ?_); rintro e w2 ⟨A2, c2, rfl, hC, hc, hb⟩; have HI := Aside0.mk (And.intro hC hc); have n0_ := Aside0.mk (below_step HB.out hb); clear HB HC0 hC hc hb; have HB := n0_; clear n0_)
    | (go_at_call 4; (with_reducible refine (HC1.out _ HB.out).mono ?_); rintro e w3 ⟨A3, c3, rfl, hC, hc, hb⟩; have HO := Aside0.mk (And.intro hC hc); have n0_ := Aside0.mk (below_step HB.out hb); have n1_ := Aside0.mk (And.intro (Kd.C_below HI.out.1 hb) HI.out.2); clear HB HC1 HI hC hc hb; have HB := n0_; have HI := n1_; clear n0_ n1_))
  obtain ⟨m4, hm4⟩ : ∃ m, m = ins.length := ⟨_, rfl⟩
  obtain ⟨m5, hm5⟩ : ∃ m, m = outs.length := ⟨_, rfl⟩
  rw [← hm4] at HI ⊢
  rw [← hm5] at HO ⊢
  have HM4 := Aside0.mk hm4
  have HM5 := Aside0.mk hm5
  clear hm4 hm5
  by_cases e4 : m4 = 0
  · subst e4
    go_wp2_with (go_at_call 5; (with_reducible refine (livesCall _).mono ?_); rintro e w9 ⟨rfl, hb⟩; have n0_ := Aside0.mk (below_step HB.out hb); clear HB hb; have HB := n0_; clear n0_)
    go_ret
    exact ⟨rfl, HB.out⟩
  have q4 := eq_false (show ¬ (m4 : Int) = 0 by omega)
  have q4' := decide_eq_false (show ¬ (m4 : Int) = 0 by omega)
  have q4'' := eq_false e4
  have q4b : ((m4 : Int) == 0) = false := beq_eq_false_iff_ne.2 (by omega)
  by_cases e5 : m5 = 0
  · subst e5
    go_wp2_with (go_at_call 5; (with_reducible refine (livesCall _).mono ?_); rintro e w9 ⟨rfl, hb⟩; have n0_ := Aside0.mk (below_step HB.out hb); clear HB hb; have HB := n0_; clear n0_)
    go_ret
    exact ⟨rfl, HB.out⟩
  have q5 := eq_false (show ¬ (m5 : Int) = 0 by omega)
  have q5' := decide_eq_false (show ¬ (m5 : Int) = 0 by omega)
  have q5'' := eq_false e5
  have q5b : ((m5 : Int) == 0) = false := beq_eq_false_iff_ne.2 (by omega)
  obtain ⟨s1, hs1⟩ : ∃ s, s = words (ins.map tx) := ⟨_, rfl⟩
  obtain ⟨s2, hs2⟩ : ∃ s, s = words (outs.map tx) := ⟨_, rfl⟩
  have HX1 := Aside0.mk (fun W (hC : Kd.C PTo.k34 W A2 m4 (ins.map toS) ∧ m4 ≤ c2) => textCall ins HGI.out m4 HM4.out A2 c2 W hC.1 hC.2)
  have HX2 := Aside0.mk (fun W (hC : Kd.C PTo.k34 W A3 m5 (outs.map toS) ∧ m5 ≤ c3) => textCall outs HGO.out m5 HM5.out A3 c3 W hC.1 hC.2)
  have HX6 := Aside0.mk (fun W (hW : Below w.heap.size w W) => takeOut (zipA ins) (zipA outs) (zipA_ok HGI.out.ok) (zipA_ok HGO.out.ok) (by unfold zipA; rw [List.length_map]; exact HGI.out.top) (by unfold zipA; rw [List.length_map]; exact HGO.out.top) (by rw [zipA_ars]; exact flats_nodup ins HGI.out.apart) W (HT.out.below hW))
  rw [zipA_ws, zipA_ws, zipA_ars, zipA_ars] at HX6
  rw [← hs1] at HX1 HX6
  rw [← hs2] at HX2 HX6
  clear hs1 hs2 e4 e5
  go_wp2_with (first
    | (go_at_call 7; (with_reducible refine (HX1.out _ HI.out).mono ?_); rintro e w4 ⟨rfl, hb⟩; have n0_ := Aside0.mk (below_step HB.out hb); have n1_ := Aside0.mk (And.intro (Kd.C_below HI.out.1 hb) HI.out.2); have n2_ := Aside0.mk (And.intro (Kd.C_below HO.out.1 hb) HO.out.2); clear HB HI HO hb; have HB := n0_; have HI := n1_; have HO := n2_; clear n0_ n1_ n2_)
    | (go_at_call 7; (with_reducible refine (HX2.out _ HO.out).mono ?_); rintro e w5 ⟨rfl, hb⟩; have n0_ := Aside0.mk (below_step HB.out hb); have n1_ := Aside0.mk (And.intro (Kd.C_below HI.out.1 hb) HI.out.2); have n2_ := Aside0.mk (And.intro (Kd.C_below HO.out.1 hb) HO.out.2); clear HB HI HO hb; have HB := n0_; have HI := n1_; have HO := n2_; clear n0_ n1_ n2_)
    | (go_at_call 6; (with_reducible refine (HX6.out _ HB.out).mono ?_); rintro e w6 ⟨Z, A6, c6, rfl, hZ, hzl, hC, hcp, hmem, hb⟩; (obtain ⟨m6, hm6⟩ : ∃ m, m = Z.length := ⟨_, rfl⟩); rw [← hm6] at hC hcp hzl ⊢; have HZ := Aside0.mk (And.intro hZ (And.intro hzl hmem)); have HS := Aside0.mk (And.intro hC hcp); have HM6 := Aside0.mk hm6; clear hZ hzl hmem hC hcp hm6; have n0_ := Aside0.mk (below_step HB.out hb); have n1_ := Aside0.mk (And.intro (Kd.C_below HI.out.1 hb) HI.out.2); have n2_ := Aside0.mk (And.intro (Kd.C_below HO.out.1 hb) HO.out.2); clear HB HI HO hb; have HB := n0_; have HI := n1_; have HO := n2_; clear n0_ n1_ n2_))
  have HW0 := Aside0.mk (show (⟨#[]⟩ : ByteArray) = words ((ws Z).take 0) from rfl)
  have HC6 := Aside0.mk HS.out.1
  have HCP := Aside0.mk HS.out.2
  clear HS
  go_loopg [9, 10] (m6) (fun kq v9 v10 w' => ∃ (i : Nat) (s : ByteArray), v9 = .string s ∧ v10 = .int .i64 (i : Int) ∧ Aside0 (i ≤ m6 ∧ kq = m6 - i) ∧ Aside0 (s = words ((ws Z).take i)) ∧ Aside0 (Kd.C Kd.string w' A6 m6 (ws Z)) ∧ Aside0 (Kd.C PTo.k34 w' A2 m4 (ins.map toS) ∧ m4 ≤ c2) ∧ Aside0 (Kd.C PTo.k34 w' A3 m5 (outs.map toS) ∧ m5 ≤ c3) ∧ Aside0 (Below w.heap.size w w'))
  case atStart => exact ⟨0, _, rfl, rfl, ⟨⟨Nat.zero_le _, rfl⟩⟩, HW0, HC6, HI, HO, HB⟩
  case round =>
    clear HC6 HI HO HB HW0
    obtain ⟨i, s, rfl, rfl, HII, HW, HC6, HI, HO, HB⟩ := hrel
    have HSZ := Aside0.mk (show s.size ≤ 18000 by
      have h1 := words_size ((ws Z).take i) (fun p hp => (HZ.out.1.words p (List.mem_of_mem_take hp)).top)
      rw [← HW.out, List.length_take] at h1
      have h2 := HZ.out.2.1
      have h3 := HII.out
      omega)
    by_cases hi : i < m6
    · have k1 : decide ((i : Int) < (m6 : Int)) = true := decide_eq_true (by omega)
      have k2 := eq_true (show (i : Int) < (m6 : Int) by omega)
      have k3 := eq_true (show (0 : Int) ≤ (i : Int) by omega)
      have e1 : ((i : Int)).toNat = i := by omega
      have hiw : i < (ws Z).length := by rw [ws_len, ← HM6.out]; exact hi
      obtain ⟨p, hp⟩ : ∃ p, (ws Z)[i]? = some p := ⟨_, List.getElem?_eq_getElem hiw⟩
      obtain ⟨ad, rfl, hcell⟩ := strAt HC6.out i p hp
      have HPW := Aside0.mk (HZ.out.1.words p (List.mem_of_getElem? hp))
      have HTK := Aside0.mk (show (ws Z).take (i + 1) = (ws Z).take i ++ [p] by rw [List.take_add_one, hp]; rfl)
      have hwi : wrap64 ((i : Int) + 1) = ((i + 1 : Nat) : Int) := by have := HZ.out.2.1; unfold wrap64; omega
      have l1 := eq_false (show ¬ 9223372036854775807 < s.size + 1 by have := HSZ.out; omega)
      have l2 := eq_false (show ¬ 9223372036854775807 < s.size + p.size by have := HSZ.out; have := HPW.out.top; omega)
      have l3 := eq_false (show ¬ 9223372036854775807 < s.size + 1 + p.size by have := HSZ.out; have := HPW.out.top; omega)
      have l4 := eq_false (show ¬ 9223372036854775807 < (s ++ (⟨#[32]⟩ : ByteArray)).size + p.size by
        have h1 := HSZ.out
        have h2 := HPW.out.top
        rw [ByteArray.size_append, show (⟨#[32]⟩ : ByteArray).size = 1 from rfl]
        omega)
      have HHI := Aside0.mk hi
      clear hi hiw hp
      rcases Nat.eq_zero_or_pos i with e0 | e0
      · have HN := Aside0.mk (show s ++ p = words ((ws Z).take (i + 1)) by
          have h1 : s = ⟨#[]⟩ := by rw [HW.out, e0]; rfl
          rw [HTK.out, e0, List.take_zero, List.nil_append, words_one, h1]
          apply bytes_inj
          rw [bytes_append]
          rfl)
        have k4 := eq_false (show ¬ (0 : Int) < (i : Int) by omega)
        have k5 := decide_eq_false (show ¬ (i : Int) > 0 by omega)
        have k6 := eq_false (show ¬ 0 < i by omega)
        have k7 := decide_eq_false (show ¬ 0 < i by omega)
        clear e0
        go_wp2
        go_roundg (m6 - (i + 1))
        case measure => have := HHI.out; have := HII.out; omega
        case rel => exact ⟨i + 1, s ++ p, rfl, by first | rfl | rw [hwi], ⟨⟨by have := HHI.out; omega, rfl⟩⟩, HN, HC6, HI, HO, HB⟩
      · have HN := Aside0.mk (show s ++ ⟨#[32]⟩ ++ p = words ((ws Z).take (i + 1)) by
          have hne : (ws Z).take i ≠ [] := fun e => by
            have h1 := congrArg List.length e
            rw [List.length_take, ws_len, ← HM6.out, List.length_nil] at h1
            have := HHI.out
            omega
          rw [HTK.out, words_snoc _ _ hne, HW.out])
        have k4 := eq_true (show (0 : Int) < (i : Int) by omega)
        have k5 := decide_eq_true (show (i : Int) > 0 by omega)
        have k6 := eq_true (show 0 < i by omega)
        have k7 := decide_eq_true (show 0 < i by omega)
        go_wp2
        go_roundg (m6 - (i + 1))
        case measure => have := HHI.out; have := HII.out; omega
        case rel => exact ⟨i + 1, s ++ ⟨#[32]⟩ ++ p, rfl, by first | rfl | rw [hwi], ⟨⟨by have := HHI.out; omega, rfl⟩⟩, HN, HC6, HI, HO, HB⟩
    · have k1 : decide ((i : Int) < (m6 : Int)) = false := decide_eq_false (by omega)
      have k2 := eq_false (show ¬ (i : Int) < (m6 : Int) by omega)
      obtain rfl : i = m6 := by have := HII.out; omega
      have hsw : s = words (ws Z) := by rw [HW.out, HM6.out, ← ws_len, List.take_length]
      have HEQ := Aside0.mk (show ∀ c r : Int, decide (r ∈ flats (ars Z) c) = (ins.any (within c r) && !outs.any (within c r)) from fun c r => by
        rw [any_within, any_within]
        have h1 := HZ.out.2.2 c r
        by_cases x1 : r ∈ flats ins c <;> by_cases x2 : r ∈ flats outs c
        · rw [decide_eq_true x1, decide_eq_true x2, decide_eq_false (fun h => (h1.1 h).2 x2)]; rfl
        · rw [decide_eq_true x1, decide_eq_false x2, decide_eq_true (h1.2 ⟨x1, x2⟩)]; rfl
        · rw [decide_eq_false x1, decide_eq_true x2, decide_eq_false (fun h => x1 (h1.1 h).1)]; rfl
        · rw [decide_eq_false x1, decide_eq_false x2, decide_eq_false (fun h => x1 (h1.1 h).1)]; rfl)
      clear hi
      rcases Z with _ | ⟨z, Zt⟩
      · obtain rfl : s = ⟨#[]⟩ := hsw
        have HCV := Aside0.mk (fun W (hI : Kd.C PTo.k34 W A2 m4 (ins.map toS) ∧ m4 ≤ c2) (hO : Kd.C PTo.k34 W A3 m5 (outs.map toS) ∧ m5 ≤ c3) => coversCall [] ins outs 0 m4 m5 rfl HM4.out HM5.out (Nat.zero_le _) (fun x hx => (List.not_mem_nil hx).elim) HGI.out HGO.out (fun c r => by rw [← HEQ.out c r]; rfl) none A2 A3 0 c2 c3 W ⟨rfl, by omega, fun h => absurd h (by simp)⟩ (Nat.le_refl _) hI.1 hI.2 hO.1 hO.2)
        go_wp2_with (first
          | (go_at_call 8; (with_reducible refine (HCV.out _ HI.out HO.out).mono ?_); rintro e w8 ⟨rfl, hb⟩; have n0_ := Aside0.mk (below_step HB.out hb); have n1_ := Aside0.mk (And.intro (Kd.C_below HI.out.1 hb) HI.out.2); have n2_ := Aside0.mk (And.intro (Kd.C_below HO.out.1 hb) HO.out.2); clear HB HI HO hb; have HB := n0_; have HI := n1_; have HO := n2_; clear n0_ n1_ n2_)
          | (go_at_call 5; (with_reducible refine (livesCall _).mono ?_); rintro e w9 ⟨rfl, hb⟩; have n0_ := Aside0.mk (below_step HB.out hb); clear HB hb; have HB := n0_; clear n0_))
        go_ret
        exact ⟨rfl, HB.out⟩
      · obtain ⟨Z0, hZ0⟩ : ∃ Z0, Z0 = z :: Zt := ⟨_, rfl⟩
        rw [← hZ0] at hsw HZ HEQ
        have q6 := not_empty (show s ≠ ⟨#[]⟩ by rw [hsw]; exact words_ne _ HZ.out.1.words (by rw [hZ0]; simp [ws]))
        have HX9 := Aside0.mk (fun W (hW : Below w.heap.size w W) => implFlat Z0 HZ.out.1 (by have := HZ.out.2.1; have := HM6.out; rw [hZ0]; omega) W (HT.out.below hW))
        rw [← hsw] at HX9
        clear hsw hZ0
        go_wp2_with (first
          | (go_at_call 9; (with_reducible refine (HX9.out _ HB.out).mono ?_); rintro e w7 ⟨vis, l, L, A7, c7, rfl, hC7, hc7, hpm, hvn, hlp, hll, hvl, hb⟩; (obtain ⟨m7, hm7⟩ : ∃ m, m = L.length := ⟨_, rfl⟩); rw [← hm7] at hC7 hc7 ⊢; have HL := Aside0.mk (And.intro hpm (And.intro hvn (And.intro hlp (And.intro hll hvl)))); have HC7 := Aside0.mk (And.intro hC7 hc7); have HM7 := Aside0.mk hm7; clear hC7 hc7 hpm hvn hlp hll hvl hm7; have n0_ := Aside0.mk (below_step HB.out hb); have n1_ := Aside0.mk (And.intro (Kd.C_below HI.out.1 hb) HI.out.2); have n2_ := Aside0.mk (And.intro (Kd.C_below HO.out.1 hb) HO.out.2); clear HB HI HO hb; have HB := n0_; have HI := n1_; have HO := n2_; clear n0_ n1_ n2_)
          | (go_at_call 8; (with_reducible refine (coversCall L ins outs m7 m4 m5 HM7.out HM4.out HM5.out ?_ ?_ HGI.out HGO.out ?_ A7 A2 A3 c7 c2 c3 _ HC7.out.1 HC7.out.2 HI.out.1 HI.out.2 HO.out.1 HO.out.2).mono ?_); (· rw [HL.out.1.length_eq, List.length_map]; exact HL.out.2.2.2.2); (· intro x hx; obtain ⟨c', _, rfl⟩ := List.mem_map.1 (HL.out.1.mem_iff.1 hx); exact HL.out.2.2.2.1 c'); (· intro c r; rw [has_iff vis l L HL.out.1 HL.out.2.1 c r, ← HEQ.out c r]; exact decide_eq_decide.2 (HL.out.2.2.1 c).mem_iff); rintro e w8 ⟨rfl, hb⟩; have n0_ := Aside0.mk (below_step HB.out hb); have n1_ := Aside0.mk (And.intro (Kd.C_below HI.out.1 hb) HI.out.2); have n2_ := Aside0.mk (And.intro (Kd.C_below HO.out.1 hb) HO.out.2); clear HB HI HO hb; have HB := n0_; have HI := n1_; have HO := n2_; clear n0_ n1_ n2_)
          | (go_at_call 5; (with_reducible refine (livesCall _).mono ?_); rintro e w9 ⟨rfl, hb⟩; have n0_ := Aside0.mk (below_step HB.out hb); clear HB hb; have HB := n0_; clear n0_))
        go_ret
        exact ⟨rfl, HB.out⟩
end Go.Proofs.YtmcppajgfhmpaaaGreatDoor.FtI
