/- FnTakeOut, walks: the doors of flat and of taking out, and impl's functions over them. Conditions: the texts are words that name areas. -/
import Derived.Test.YtmcppajgfhmpaaaGreatDoorFtG
import Derived.Lib.AppendIntMem
namespace Go.Proofs.YtmcppajgfhmpaaaGreatDoor.FtH
open Go.RowKit Go.Proofs.YtmcppajgfhmpaaaGreatDoorW.PrintWords Go.Proofs.YtmcppajgfhmpaaaGreatDoorW.PrintLast Go.Proofs.YtmcppajgfhmpaaaGreatDoorW.PrintMore Go.Proofs.YtmcppajgfhmpaaaGreatDoor.Str Go.Proofs.YtmcppajgfhmpaaaGreatDoor.CellB Go.Proofs.YtmcppajgfhmpaaaGreatDoor.CellC Go.Proofs.YtmcppajgfhmpaaaGreatDoor.FtA Go.Proofs.YtmcppajgfhmpaaaGreatDoor.FtB Go.Proofs.YtmcppajgfhmpaaaGreatDoor.FtP Go.Proofs.YtmcppajgfhmpaaaGreatDoor.FtS Go.Proofs.YtmcppajgfhmpaaaGreatDoor.FtQ Go.Proofs.YtmcppajgfhmpaaaGreatDoor.FtC Go.Proofs.YtmcppajgfhmpaaaGreatDoor.FtE Go.Proofs.YtmcppajgfhmpaaaGreatDoor.FtF Go.Proofs.YtmcppajgfhmpaaaGreatDoor.FtD Go.Proofs.YtmcppajgfhmpaaaGreatDoor.FtG
open Go.Shelf Go.Lib Go.Sort
set_option linter.unusedVariables false
set_option linter.unusedSimpArgs false
/-- Words, each with the area that it names. -/
structure Zs (Z : List (ByteArray × Ar)) : Prop where
  piece : ∀ z ∈ Z, Piece z.1 z.2
  word : ∀ z ∈ Z, Word z.1
def ws (Z : List (ByteArray × Ar)) : List ByteArray := Z.map Prod.fst
def ars (Z : List (ByteArray × Ar)) : List Ar := Z.map Prod.snd
theorem ws_len (Z : List (ByteArray × Ar)) : (ws Z).length = Z.length := List.length_map _
theorem ars_len (Z : List (ByteArray × Ar)) : (ars Z).length = Z.length := List.length_map _
theorem Zs.hps {Z : List (ByteArray × Ar)} (h : Zs Z) : ∀ (i : Nat) p a, (ws Z)[i]? = some p → (ars Z)[i]? = some a → Piece p a := by
  intro i p a h1 h2
  unfold ws at h1
  unfold ars at h2
  rw [List.getElem?_map] at h1 h2
  cases e : Z[i]? with
  | none => rw [e] at h1; cases h1
  | some z =>
    rw [e] at h1 h2
    cases h1
    cases h2
    exact h.piece z (List.mem_of_getElem? e)
theorem Zs.words {Z : List (ByteArray × Ar)} (h : Zs Z) : ∀ p ∈ ws Z, Word p := fun p hp => by
  obtain ⟨z, hz, rfl⟩ := List.mem_map.1 hp
  exact h.word z hz
theorem Zs.ok {Z : List (ByteArray × Ar)} (h : Zs Z) : ∀ a ∈ ars Z, a.Ok := fun a ha => by
  obtain ⟨z, hz, rfl⟩ := List.mem_map.1 ha
  exact (h.piece z hz).ok
/-- The table of white space that strings.Fields reads. -/
abbrev Tab (w : World) : Prop := Lib.TabIs Tryz.prog w "strings.asciiSpace" .u8 Lib.asciiSpaceTab
theorem Tab.below {w W : World} (h : Tab w) (hb : Below w.heap.size w W) : Tab W := Lib.tabBelow_of_tabIs h W hb
theorem fields (Z : List (ByteArray × Ar)) (hZ : Zs Z) (hn : Z.length ≤ 2000) (w : World) (ht : Tab w) :
    Calls Tryz.prog 15 #[.string (words (ws Z))] w fun e w' => e = .returned (.slice (some ⟨w.heap.size, 0, none⟩) Z.length Z.length) ∧ w' = w.alloc (.cells ((ws Z).map Value.string).toArray 9) := by
  have hw := hZ.words
  have hs : (words (ws Z)).size ≤ 10 * (ws Z).length := words_size _ (fun p hp => (hw p hp).top)
  rw [ws_len] at hs
  have h := Tryz.strings_Fields (words (ws Z)) w (by omega) (fun j b hb => words_ascii _ hw b (List.mem_of_getElem? hb)) ht
  rw [fields_words _ hw, List.length_map, ws_len] at h
  refine h.mono ?_
  rintro e w' ⟨rfl, rfl⟩
  refine ⟨rfl, ?_⟩
  rw [List.map_map]
  rfl
theorem hF (Z : List (ByteArray × Ar)) (hZ : Zs Z) (hn : Z.length ≤ 2000) (w : World) (ht : Tab w) : ∀ W : World, Below w.heap.size w W → Calls Tryz.prog 15 #[.string (words (ws Z))] W fun e w' => ∃ g c, e = .returned (.slice (some ⟨g, 0, none⟩) (ws Z).length c) ∧ Kd.C Kd.string w' (some ⟨g, 0, none⟩) (ws Z).length (ws Z) ∧ Below W.heap.size W w' ∧ W.heap.size ≤ g ∧ g < w'.heap.size := by
  intro W hW
  refine (fields Z hZ hn W (ht.below hW)).mono ?_
  rintro e w' ⟨rfl, rfl⟩
  rw [ws_len]
  exact ⟨_, _, rfl, by have h := texts_new W (ws Z) (by rw [ws_len]; omega); rw [ws_len] at h; exact h, below_alloc (Below.refl _ _) _, Nat.le_refl _, Nat.lt_of_lt_of_eq (Nat.lt_succ_self _) (World.size_alloc _ _).symm⟩
set_option maxHeartbeats 4000000 in
set_option maxRecDepth 100000 in
theorem doorFlat (Z : List (ByteArray × Ar)) (hZ : Zs Z) (hn : Z.length ≤ 2000) (w : World) (ht : Tab w) :
    Calls Tryz.prog 13 #[.string (words (ws Z))] w fun e w' => ∃ B b0 n D g l h S, e = .returned (.tuple #[.map (some B), .bool true]) ∧ w.heap.size ≤ b0 ∧ Cols w' B b0 n D g l h S ∧ (∀ c, (l c).Perm (flats (ars Z) c) ∧ (l c).Pairwise (· ≤ ·)) ∧ (∀ c, (l c).length ≤ 1800 * Z.length ∧ (h c = true → 1 ≤ c ∧ c ≤ 30)) ∧ Below w.heap.size w w' := by
  have h0 := flat (words (ws Z)) (ws Z) (ars Z) (by rw [ws_len, ars_len]) hZ.hps (by rw [ws_len]; exact hn) w (hF Z hZ hn w ht)
  rw [ws_len] at h0
  have HF := Aside0.mk h0
  clear h0
  generalize words (ws Z) = s at HF ⊢
  clear hZ hn ht
  have HB := Aside0.mk (Below.refl w.heap.size w)
  go_enter Tryz.func13, Tryz.ntmps13
  go_wp2_with (go_at_call 24; go_loud ((with_reducible refine HF.out.mono ?_); rintro e w1 ⟨B, b0, n, D, g, l, h, S, rfl, hb0, hK, hl, hln, hnn, hb⟩; have HK := Aside0.mk hK; have HL := Aside0.mk (And.intro hb0 (And.intro hl (And.intro hln hb))); clear hK hl hln hnn hb0 hb))
  go_quiet (fail)
  go_wp2
  go_ret2
  exact ⟨B, b0, n, D, g, l, h, S, rfl, HL.out.1, HK.out.below (by apply pw_below_drewN; exact Below.refl _ _), HL.out.2.1, HL.out.2.2.1, by apply pw_below_drewN; exact HB.out.trans HL.out.2.2.2⟩
set_option maxHeartbeats 4000000 in
set_option maxRecDepth 100000 in
theorem doorTake (Z : List (ByteArray × Ar)) (hZ : Zs Z) (hn : Z.length ≤ 5) (hND : ∀ c, (flats (ars Z) c).Nodup) (w : World) (ht : Tab w)
    {B2 b2 n2 : Nat} {D2 : DataW Value} {g2 : Int → Value} {l2 : Int → List Int} {h2 : Int → Bool} {S2 : Int → Nat → Prop} (hK2 : Cols w B2 b2 n2 D2 g2 l2 h2 S2) (hL2 : ∀ c, (l2 c).length ≤ 1000000 ∧ (h2 c = true → 1 ≤ c ∧ c ≤ 30)) :
    Calls Tryz.prog 14 #[.string (words (ws Z)), .map (some B2)] w fun e w' => ∃ (vis : List Int) (R : Int → List Int), e = .returned (.tuple #[.string (words (vis.flatMap fun c => sqT c (R c))), .bool true]) ∧ vis.Nodup ∧ (∀ c ∈ vis, 1 ≤ c ∧ c ≤ 30) ∧ (∀ c, c ∉ vis → R c = []) ∧
      (∀ c, (R c).Pairwise (· < ·) ∧ (∀ x, x ∈ R c ↔ x ∈ flats (ars Z) c ∧ x ∉ l2 c)) ∧ Below w.heap.size w w' := by
  have HD := Aside0.mk (delete (words (ws Z)) (ws Z) (ars Z) (by rw [ws_len, ars_len]) hZ.hps (by rw [ws_len]; exact hn) hND w (hF Z hZ (by omega) w ht) hK2 hL2)
  generalize words (ws Z) = s at HD ⊢
  clear hZ hn hND ht hK2 hL2
  go_enter Tryz.func14, Tryz.ntmps14
  go_wp2_with (go_at_call 25; go_loud ((with_reducible refine HD.out.mono ?_); rintro e w1 ⟨vis, R, rfl, h1⟩; have H1 := Aside0.mk h1; clear h1; (obtain ⟨T, hT⟩ : ∃ T, T = words (vis.flatMap fun c => sqT c (R c)) := ⟨_, rfl⟩); rw [← hT]; have HT := Aside0.mk hT; clear hT))
  go_quiet (fail)
  go_wp2
  go_ret2
  exact ⟨vis, R, by rw [← HT.out]; rfl, H1.out.1, H1.out.2.1, H1.out.2.2.1, H1.out.2.2.2.1, by apply pw_below_drewN; exact H1.out.2.2.2.2⟩
/-! ### a column's rows as words -/
def sqZ (c : Int) : List Int → List (ByteArray × Ar)
  | [] => []
  | a :: rest => (runs a 1 rest).map fun p => (txr c p, ⟨c, p.1, c, p.1 + p.2 - 1⟩)
theorem ws_sqZ (c : Int) (rows : List Int) : ws (sqZ c rows) = sqT c rows := by
  cases rows with
  | nil => rfl
  | cons a rest => unfold ws sqZ sqT; rw [List.map_map]; rfl
theorem ars_sqZ (c : Int) (rows : List Int) : ars (sqZ c rows) = sqA c rows := by
  cases rows with
  | nil => rfl
  | cons a rest => unfold ars sqZ sqA; rw [List.map_map]; rfl
theorem sqZ_ok (c : Int) (hc : 1 ≤ c ∧ c ≤ 30) (rows : List Int) (hb : ∀ x ∈ rows, 1 ≤ x ∧ x ≤ 60) (hp : rows.Pairwise (· < ·)) : Zs (sqZ c rows) := by
  obtain ⟨_, h1, h2, _, _⟩ := sq_pieces c hc rows hb hp
  constructor
  · intro z hz
    obtain ⟨i, hi, e⟩ := List.mem_iff_getElem.1 hz
    refine h1 i z.1 z.2 ?_ ?_
    · rw [← ws_sqZ]; unfold ws; rw [List.getElem?_map, List.getElem?_eq_getElem hi, e]; rfl
    · rw [← ars_sqZ]; unfold ars; rw [List.getElem?_map, List.getElem?_eq_getElem hi, e]; rfl
  · intro z hz
    refine h2 z.1 ?_
    rw [← ws_sqZ]
    exact List.mem_map.2 ⟨z, hz, rfl⟩
theorem rest_Z (vis : List Int) (R : Int → List Int) (hv : ∀ c ∈ vis, 1 ≤ c ∧ c ≤ 30) (hvn : vis.Nodup) (hR : ∀ c, c ∉ vis → R c = []) (hb : ∀ c, ∀ x ∈ R c, 1 ≤ x ∧ x ≤ 60) (hp : ∀ c, (R c).Pairwise (· < ·)) :
    ∃ Z, Zs Z ∧ ws Z = (vis.flatMap fun c => sqT c (R c)) ∧ Z.length ≤ 1800 ∧ ∀ c x, x ∈ flats (ars Z) c ↔ x ∈ R c := by
  refine ⟨vis.flatMap fun c => sqZ c (R c), ⟨fun z hz => ?_, fun z hz => ?_⟩, ?_, ?_, fun c x => ?_⟩
  · obtain ⟨c, hc, hz⟩ := List.mem_flatMap.1 hz
    exact (sqZ_ok c (hv c hc) (R c) (hb c) (hp c)).piece z hz
  · obtain ⟨c, hc, hz⟩ := List.mem_flatMap.1 hz
    exact (sqZ_ok c (hv c hc) (R c) (hb c) (hp c)).word z hz
  · unfold ws
    rw [List.map_flatMap]
    congr 1
    funext c
    exact ws_sqZ c (R c)
  · have h1 := nodup_len 30 vis hvn (fun c hc => by have := hv c hc; omega)
    have h2 : (vis.flatMap fun c => sqT c (R c)).length ≤ 60 * vis.length := flat_len 60 vis (fun c _ => Nat.le_trans (sqT_len c _) (sorted_len _ (hp c) (hb c)))
    have h3 : (vis.flatMap fun c => sqZ c (R c)).length = (vis.flatMap fun c => sqT c (R c)).length := by
      rw [← ws_len]
      unfold ws
      rw [List.map_flatMap]
      congr 2
      funext c
      exact ws_sqZ c (R c)
    omega
  · rw [mem_flats]
    constructor
    · rintro ⟨a, ha, h1, h2, h3, h4⟩
      obtain ⟨z, hz, rfl⟩ := List.mem_map.1 ha
      obtain ⟨c', hc', hz⟩ := List.mem_flatMap.1 hz
      have hm : z.2 ∈ sqA c' (R c') := by rw [← ars_sqZ]; exact List.mem_map.2 ⟨z, hz, rfl⟩
      have h5 := (sq_pieces c' (hv c' hc') (R c') (hb c') (hp c')).2.2.2.1 z.2 hm
      obtain rfl : c = c' := by omega
      exact (sq_mem c (R c) (hb c) (hp c) x).2 ⟨z.2, hm, h3, h4⟩
    · intro hx
      have hc : c ∈ vis := by
        refine Classical.byContradiction fun h => ?_
        rw [hR c h] at hx
        exact List.not_mem_nil hx
      obtain ⟨a, ha, h1, h2⟩ := (sq_mem c (R c) (hb c) (hp c) x).1 hx
      have h5 := (sq_pieces c (hv c hc) (R c) (hb c) (hp c)).2.2.2.1 a ha
      rw [← ars_sqZ] at ha
      obtain ⟨z, hz, rfl⟩ := List.mem_map.1 ha
      exact ⟨z.2, List.mem_map.2 ⟨z, List.mem_flatMap.2 ⟨c, hc, hz⟩, rfl⟩, by omega, by omega, h1, h2⟩
theorem perm_lift {α β : Type} (f : α → β) {l1 l2 : List β} (h : l1.Perm l2) : ∀ Z : List α, Z.map f = l1 → ∃ Z' : List α, Z'.Perm Z ∧ Z'.map f = l2 := by
  induction h with
  | nil => exact fun Z hz => ⟨Z, List.Perm.refl _, hz⟩
  | cons x _ ih =>
    intro Z hz
    match Z, hz with
    | z :: Zt, hz =>
      rw [List.map_cons] at hz
      injection hz with h1 h2
      obtain ⟨Z', hp, hm⟩ := ih Zt h2
      exact ⟨z :: Z', hp.cons z, by rw [List.map_cons, h1, hm]⟩
  | swap x y l =>
    intro Z hz
    match Z, hz with
    | [], hz => cases hz
    | [_], hz => rw [List.map_cons] at hz; injection hz with _ h2; cases h2
    | z1 :: z2 :: Zt, hz =>
      rw [List.map_cons, List.map_cons] at hz
      injection hz with h1 h2
      injection h2 with h2 h3
      exact ⟨z2 :: z1 :: Zt, List.Perm.swap _ _ _, by rw [List.map_cons, List.map_cons, h1, h2, h3]⟩
  | trans _ _ ih1 ih2 =>
    intro Z hz
    obtain ⟨Z1, hp1, hm1⟩ := ih1 Z hz
    obtain ⟨Z2, hp2, hm2⟩ := ih2 Z1 hm1
    exact ⟨Z2, hp2.trans hp1, hm2⟩
theorem Zs.perm {Z Z' : List (ByteArray × Ar)} (h : Zs Z) (hp : Z'.Perm Z) : Zs Z' := ⟨fun z hz => h.piece z (hp.mem_iff.1 hz), fun z hz => h.word z (hp.mem_iff.1 hz)⟩
theorem flats_perm {Z Z' : List (ByteArray × Ar)} (hp : Z'.Perm Z) (c x : Int) : x ∈ flats (ars Z') c ↔ x ∈ flats (ars Z) c := by
  have h1 : ∀ a, a ∈ ars Z' ↔ a ∈ ars Z := fun a => (hp.map Prod.snd).mem_iff
  rw [mem_flats, mem_flats]
  exact ⟨fun ⟨a, ha, h⟩ => ⟨a, (h1 a).1 ha, h⟩, fun ⟨a, ha, h⟩ => ⟨a, (h1 a).2 ha, h⟩⟩
/-! ### the words sorted -/
theorem texts_at {W : World} {g : Nat} {xs : List ByteArray} (hb : W.heap[g]? = some (.cells (xs.map Value.string).toArray 9 (0, 0))) (hm : xs.length ≤ 1000000) : Kd.C Kd.string W (some ⟨g, 0, none⟩) xs.length xs := by
  refine ⟨rfl, by omega, fun _ => ⟨_, rfl, fun j p hj => ⟨[.string p], rfl, rfl, fun i u hu => ?_⟩⟩⟩
  have hi : i = 0 := by have := (List.getElem?_eq_some_iff.1 hu).1; simp at this; exact this
  subst hi
  obtain rfl : Value.string p = u := by simpa using hu
  have ha : (⟨g, 0, none⟩ : Addr).add (j * 1 + 0) = ⟨g, j, none⟩ := by
    rw [Nat.mul_one, Nat.add_zero]
    unfold Addr.add
    by_cases h : j = 0
    · simp [h]
    · simp [h]
  show World.cell? _ ((⟨g, 0, none⟩ : Addr).add (j * 1 + 0)) = _
  rw [ha]
  refine (blk_cell hb j).trans ?_
  rw [List.getElem?_toArray, List.getElem?_map, hj]
  rfl
theorem enc_self (p : ByteArray) : encStr p.data.toList = .string p := rfl
theorem sortWords (T : List ByteArray) (hn : T.length ≤ 2000) (w : World) :
    Calls Tryz.prog 16 #[.slice (some ⟨w.heap.size, 0, none⟩) T.length T.length] (w.alloc (.cells (T.map Value.string).toArray 9)) fun e w' => e = .returned (.tuple #[]) ∧ ∃ T' : List ByteArray, T.Perm T' ∧ Kd.C Kd.string w' (some ⟨w.heap.size, 0, none⟩) T.length T' ∧ Below w.heap.size w w' := by
  obtain ⟨ss, hss⟩ : ∃ ss : List (List UInt8), ss = T.map (·.data.toList) := ⟨_, rfl⟩
  have hsl : ss.length = T.length := by rw [hss, List.length_map]
  have hbk := blk_new w (.cells (T.map Value.string).toArray 9)
  have hlt : w.heap.size < (w.alloc (.cells (T.map Value.string).toArray 9)).heap.size := Nat.lt_of_lt_of_eq (Nat.lt_succ_self _) (World.size_alloc _ _).symm
  have hb0 : Below w.heap.size w (w.alloc (.cells (T.map Value.string).toArray 9)) := below_alloc (Below.refl _ _) _
  generalize w.alloc (.cells (T.map Value.string).toArray 9) = W at hbk hlt hb0 ⊢
  generalize w.heap.size = g at hbk hlt hb0 ⊢
  have hH : Holds encStr W g 0 ss.toArray := by
    intro j hj
    have hj2 : j < T.length := by rw [← hsl]; simpa using hj
    refine ⟨?_, blk_frozen hbk (0 + j)⟩
    refine (blk_cell hbk (0 + j)).trans ?_
    have he : ss.toArray[j]! = (T[j]).data.toList := by
      rw [getElem!_pos ss.toArray j hj]
      simp [hss]
    rw [he, Nat.zero_add, List.getElem?_toArray, List.getElem?_map, List.getElem?_eq_getElem hj2]
    rfl
  have h := Tryz.sort_Strings g 0 T.length ss W hH hlt (by omega)
  rw [hsl] at h
  refine h.mono ?_
  rintro e w' ⟨rfl, m, os, rfl⟩
  obtain ⟨ds, hds⟩ : ∃ ds, ds = ss.mergeSort (fun x y => decide (x ≤ y)) := ⟨_, rfl⟩
  have hpm : ds.Perm ss := by rw [hds]; exact List.mergeSort_perm _ _
  have hdl : ds.length = T.length := hpm.length_eq.trans hsl
  rw [← hds]
  have hkp := keep_sort W m g encStr ds.toArray os
  have hblk := heap_sorted (enc := encStr) (d := ds.toArray) (os := os) (m := m) hbk
  refine ⟨rfl, ds.map (fun l => ⟨l.toArray⟩), ?_, ?_, below_grow hb0 (Nat.le_of_lt hlt) hkp (fun q e => by have h7 : g = q := (by injection e); omega)⟩
  · have h3 := (hpm.symm).map (fun l : List UInt8 => (⟨l.toArray⟩ : ByteArray))
    have h4 : ss.map (fun l : List UInt8 => (⟨l.toArray⟩ : ByteArray)) = T := by
      rw [hss, List.map_map]
      exact List.map_id'' (fun p => rfl) T
    rw [h4] at h3
    exact h3
  · have hl2 : (ds.map (fun l : List UInt8 => (⟨l.toArray⟩ : ByteArray))).length = T.length := by rw [List.length_map, hdl]
    rw [← hl2]
    refine texts_at ?_ (by omega)
    rw [hblk]
    congr 2
    have h5 := take_put (T.map Value.string).toArray encStr ds (by simp; omega)
    have h6 : (putCells encStr 0 ds.toArray (T.map Value.string).toArray).toList.length = ds.length := by simp [putCells]; omega
    rw [← h6, List.take_length] at h5
    rw [← Array.toArray_toList (xs := putCells encStr 0 ds.toArray (T.map Value.string).toArray), h5, List.map_map]
    rfl
theorem rest_bound {Z : List (ByteArray × Ar)} (hZ : Zs Z) {c x : Int} (h : x ∈ flats (ars Z) c) : 1 ≤ x ∧ x ≤ 60 := by
  obtain ⟨a, ha, _, _, h3, h4⟩ := (mem_flats _ _ _).1 h
  have h := hZ.ok a ha
  have := h.h3
  have := h.h5
  omega
theorem not_empty {s : ByteArray} (h : s ≠ ⟨#[]⟩) : s.toList.isEmpty = false := by
  rw [ByteArray.toList_eq]
  cases e : s.data.toList with
  | nil => exact absurd (ba_ext (b := ⟨#[]⟩) e) h
  | cons _ _ => rfl
theorem C_none (w : World) : Kd.C Kd.string w none 0 [] := ⟨rfl, by omega, fun h => absurd h (by simp)⟩
set_option maxHeartbeats 4000000 in
set_option maxRecDepth 100000 in
theorem takeOut (Z1 Z2 : List (ByteArray × Ar)) (hZ1 : Zs Z1) (hZ2 : Zs Z2) (hn1 : Z1.length ≤ 5) (hn2 : Z2.length ≤ 5) (hND : ∀ c, (flats (ars Z1) c).Nodup) (w : World) (ht : Tab w) :
    Calls Tryz.prog 6 #[.string (words (ws Z1)), .string (words (ws Z2))] w fun e w' => ∃ (Z : List (ByteArray × Ar)) (A : Option Addr) (cp : Nat), e = .returned (.tuple #[.slice A Z.length cp, .bool true]) ∧ Zs Z ∧ Z.length ≤ 1800 ∧ Kd.C Kd.string w' A Z.length (ws Z) ∧ Z.length ≤ cp ∧
      (∀ c x, x ∈ flats (ars Z) c ↔ x ∈ flats (ars Z1) c ∧ x ∉ flats (ars Z2) c) ∧ Below w.heap.size w w' := by
  have HF := Aside0.mk (doorFlat Z2 hZ2 (by omega) w ht)
  have HD := Aside0.mk (fun W hW => @doorTake Z1 hZ1 hn1 hND W (ht.below hW))
  have HT := Aside0.mk ht
  have HN2 := Aside0.mk hn2
  have HZ1 := Aside0.mk hZ1
  generalize words (ws Z2) = s2 at HF ⊢
  generalize words (ws Z1) = s1 at HD ⊢
  clear hZ1 hZ2 hn1 hn2 hND ht
  go_enter Tryz.func6, Tryz.ntmps6
  go_upto_region 5 with (first
    | (go_at_call 13; (with_reducible refine HF.out.mono ?_); rintro e w1 ⟨B, b0, n, D, g, l, h, S, rfl, hb0, hK, hl, hln, hb⟩; have HD1 := Aside0.mk (HD.out w1 hb hK (fun c => ⟨by have := (hln c).1; have := HN2.out; omega, (hln c).2⟩)); have HL := Aside0.mk hl; have HB := Aside0.mk hb; clear HD hK hl hln hb hb0)
    | (go_at_call 14; (with_reducible refine HD1.out.mono ?_); rintro e w2 ⟨vis, R, rfl, hvn, hv, hR, hRR, hb2⟩; (obtain ⟨Z0, hZ0, hws, hz0, hmem⟩ := rest_Z vis R hv hvn hR (fun c x hx => rest_bound HZ1.out (((hRR c).2 x).1 hx).1) (fun c => (hRR c).1)); (obtain ⟨s3, hs3⟩ : ∃ s3, s3 = words (ws Z0) := ⟨_, rfl⟩); rw [← hws, ← hs3]; have HS3 := Aside0.mk hs3; have HZ0 := Aside0.mk (And.intro hZ0 hz0); have HM := Aside0.mk (show ∀ c x, x ∈ flats (ars Z0) c ↔ x ∈ flats (ars Z1) c ∧ x ∉ flats (ars Z2) c from fun c x => by rw [hmem c x, (hRR c).2 x, (HL.out c).1.mem_iff]); have n0_ := Aside0.mk (below_step HB.out hb2); clear HB hb2 hvn hv hR hRR hZ0 hws hz0 hmem hs3 HD1; have HB := n0_; clear n0_))
  rcases Z0 with _ | ⟨z, Zt⟩
  · obtain rfl : s3 = ⟨#[]⟩ := HS3.out
    go_wp2
    go_ret2
    exact ⟨[], none, 0, rfl, HZ0.out.1, Nat.zero_le _, C_none _, Nat.le_refl _, HM.out, HB.out⟩
  · obtain ⟨Z0, hZ0⟩ : ∃ Z0, Z0 = z :: Zt := ⟨_, rfl⟩
    rw [← hZ0] at HS3 HZ0 HM
    have hne : s3 ≠ ⟨#[]⟩ := by rw [HS3.out]; exact words_ne _ HZ0.out.1.words (by rw [hZ0]; simp [ws])
    have q1 := not_empty hne
    have q2 := eq_false hne
    have hf := fields Z0 HZ0.out.1 (by have := HZ0.out.2; omega) w2 (HT.out.below HB.out)
    rw [← HS3.out] at hf
    have HFd := Aside0.mk hf
    have hso := sortWords (ws Z0) (by rw [ws_len]; have := HZ0.out.2; omega) w2
    rw [ws_len] at hso
    have HSo := Aside0.mk hso
    clear hf hso hne hZ0
    go_wp2_with (first
      | (go_at_call 15; (with_reducible refine HFd.out.mono ?_); rintro e w3 ⟨rfl, hw3⟩; rw [← hw3] at HSo; clear hw3)
      | (go_at_call 16; (with_reducible refine HSo.out.mono ?_); rintro e w4 ⟨rfl, T', hp, hC, hb4⟩; have HP := Aside0.mk hp; have HC := Aside0.mk hC; have n0_ := Aside0.mk (below_step HB.out hb4); clear HB hb4 hp hC; have HB := n0_; clear n0_))
    go_ret2
    obtain ⟨Z', hp', hm'⟩ := perm_lift Prod.fst HP.out Z0 rfl
    have hl := hp'.length_eq
    refine ⟨Z', some ⟨w2.heap.size, 0, none⟩, Z0.length, by rw [hl]; rfl, HZ0.out.1.perm hp', by rw [hl]; exact HZ0.out.2, ?_, Nat.le_of_eq hl, fun c x => (flats_perm hp' c x).trans (HM.out c x), HB.out⟩
    show Kd.C Kd.string w4 _ Z'.length (Z'.map Prod.fst)
    rw [hm', hl]
    exact HC.out
set_option maxHeartbeats 4000000 in
set_option maxRecDepth 100000 in
theorem implFlat (Z : List (ByteArray × Ar)) (hZ : Zs Z) (hn : Z.length ≤ 2000) (w : World) (ht : Tab w) :
    Calls Tryz.prog 9 #[.string (words (ws Z))] w fun e w' => ∃ (vis : List Int) (l : Int → List Int) (L : List PTo.S63) (A : Option Addr) (cp : Nat), e = .returned (.tuple #[.slice A L.length cp, .bool true]) ∧ Kd.C PTo.k63 w' A L.length L ∧ L.length ≤ cp ∧ L.Perm (vis.map (col l)) ∧ (∀ c, c ∉ vis → l c = []) ∧
      (∀ c, (l c).Perm (flats (ars Z) c)) ∧ (∀ c, (l c).length ≤ 1000000 * 10) ∧ vis.length ≤ 30 ∧ Below w.heap.size w w' := by
  have HF := Aside0.mk (doorFlat Z hZ hn w ht)
  have HN := Aside0.mk hn
  generalize words (ws Z) = s at HF ⊢
  clear hZ hn ht
  go_enter Tryz.func9, Tryz.ntmps9
  go_wp2_with (first
    | (go_at_call 13; (with_reducible refine HF.out.mono ?_); rintro e w1 ⟨B, b0, n, D, g, l, h, S, rfl, hb0, hK, hl, hln, hb⟩; have HC := Aside0.mk (columns w1 hK (fun c => ⟨by have := (hln c).1; have := HN.out; omega, (hln c).2⟩)); have HL := Aside0.mk (And.intro hl (And.intro hln (fun c => cols_none hK c))); have HB := Aside0.mk hb; clear hK hl hln hb hb0)
    | (go_at_call 20; (with_reducible refine HC.out.mono ?_); rintro e w2 ⟨vis, L, A, cp, rfl, hC2, hcp, hpm, hvn, hvh, hb2⟩; have H2 := Aside0.mk (And.intro hC2 (And.intro hcp (And.intro hpm (And.intro hvn hvh)))); have n0_ := Aside0.mk (below_step HB.out hb2); clear HB HC hb2 hC2 hcp hpm hvn hvh; have HB := n0_; clear n0_))
  go_ret2
  refine ⟨vis, l, L, A, cp, rfl, H2.out.1, H2.out.2.1, H2.out.2.2.1, fun c hc => ?_, fun c => (HL.out.1 c).1, fun c => by have := (HL.out.2.1 c).1; have := HN.out; omega, ?_, HB.out⟩
  · cases e : h c with
    | false => exact HL.out.2.2 c e
    | true => exact absurd ((H2.out.2.2.2.2 c).2 e) hc
  · exact nodup_len 30 vis H2.out.2.2.2.1 (fun c hc => by have h1 := (HL.out.2.1 c).2 ((H2.out.2.2.2.2 c).1 hc); omega)
end Go.Proofs.YtmcppajgfhmpaaaGreatDoor.FtH
