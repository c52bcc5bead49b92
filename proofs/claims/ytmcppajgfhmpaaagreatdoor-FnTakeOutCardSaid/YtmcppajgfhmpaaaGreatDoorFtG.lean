/- FnTakeOut, walks: the columns of a map as a sorted list (columnsOf). Conditions: the columns' numbers. -/
import Derived.Test.YtmcppajgfhmpaaaGreatDoorFtD
import Derived.Test.YtmcppajgfhmpaaaGreatDoorFlt
namespace Go.Proofs.YtmcppajgfhmpaaaGreatDoor.FtG
open Go.RowKit Go.Proofs.YtmcppajgfhmpaaaGreatDoorW.PrintWords Go.Proofs.YtmcppajgfhmpaaaGreatDoorW.PrintLast Go.Proofs.YtmcppajgfhmpaaaGreatDoorW.PrintMore Go.Proofs.YtmcppajgfhmpaaaGreatDoor.Str Go.Proofs.YtmcppajgfhmpaaaGreatDoor.CellB Go.Proofs.YtmcppajgfhmpaaaGreatDoor.CellC Go.Proofs.YtmcppajgfhmpaaaGreatDoor.FtA Go.Proofs.YtmcppajgfhmpaaaGreatDoor.FtB Go.Proofs.YtmcppajgfhmpaaaGreatDoor.FtP Go.Proofs.YtmcppajgfhmpaaaGreatDoor.FtS Go.Proofs.YtmcppajgfhmpaaaGreatDoor.FtC Go.Proofs.YtmcppajgfhmpaaaGreatDoor.FtD
open Go.Shelf Go.Lib Go.Sort
set_option linter.unusedVariables false
set_option linter.unusedSimpArgs false
theorem info63 : (Tryz.prog.info? 63).map (fun i => (i.zero, i.size, i.bytes)) = some (some (.agg #[.int .i64 0, .slice none 0 0]), 2, 32) := by kernel_rfl
theorem grown_setCell (W : World) (p : Addr) (v : Value) : W.grownBy (W.setCell p v) (some p.block) := by
  refine ⟨rfl, rfl, rfl, by simp [World.setCell], fun i hi hne => Below.heap_setCell W p v i (fun e => hne (by rw [e]))⟩
theorem grown_sets' (W : World) (g : Nat) : ∀ (vs : List Value) (w : World) (i : Nat), W.grownBy w (some g) → W.grownBy (Flt.sets w g i vs) (some g)
  | [], _, _, h => h
  | v :: vs, w, i, h => grown_sets' W g vs _ _ ⟨h.os, h.tape, h.output, Nat.le_trans h.size (by simp [World.setCell]), fun k hk hne => (Below.heap_setCell w _ _ k (fun e => hne (by rw [e]))).trans (h.block k hk hne)⟩
theorem grown_sets (W : World) (g : Nat) (vs : List Value) : W.grownBy (Flt.sets W g 0 vs) (some g) := grown_sets' W g vs W 0 ⟨rfl, rfl, rfl, Nat.le_refl _, fun _ _ _ => rfl⟩
def col (l : Int → List Int) (c : Int) : PTo.S63 := ⟨c, l c⟩
set_option maxHeartbeats 4000000 in
set_option maxRecDepth 100000 in
theorem less31 (gb q n cap : Nat) (W : World) (G : Nat → Int) (hs : W.cell? ⟨q, 0, none⟩ = some (.slice (some ⟨gb, 0, none⟩) n cap)) (hc : ∀ t, t < n → W.cell? ⟨gb, t * 2, none⟩ = some (.int .i64 (G t))) (i j : Nat) (hi : i < n) (hj : j < n) (hn : n < 1000000) :
    Calls Tryz.prog 31 #[.int .i64 i, .int .i64 j, .pointer (some ⟨q, 0, none⟩)] W fun e w' => e = .returned (.bool (decide (G i < G j))) ∧ ∃ k, w' = W.drewN k := by
  have ci := hc i hi
  have cj := hc j hj
  generalize G i = gi at ci ⊢
  generalize G j = gj at cj ⊢
  clear hc
  go_enter Tryz.func31, Tryz.ntmps31
  go_wp2
  go_quiet (fail)
  go_wp2
  go_ret
  exact ⟨rfl, nq, rfl⟩
noncomputable def tcT : TypeInfo := (Tryz.prog.info? 30).get (by kernel_rfl)
noncomputable def tcE : TypeInfo := (Tryz.prog.info? 63).get (by kernel_rfl)
theorem tcK (n : Nat) (h2 : 2 ≤ n) : Lib.swapperK n tcE 25 = 9 := by
  have a : tcE.hasPointers = true := by kernel_rfl
  have b : tcE.bytes = 32 := by kernel_rfl
  have c : (n == 0) = false := by simp; omega
  have d : (n == 1) = false := by simp; omega
  simp [Lib.swapperK, a, b, c, d]
theorem keep_sortK {α : Type} [Inhabited α] (w : World) (m g : Nat) (enc : α → List Value) (d : Array α) (os : Array Obj) : w.grownBy (grow (putRowK enc 2 (Sort.ahead w m) g 0 d) os) (some g) := by
  refine ⟨rfl, rfl, rfl, by simp [grow, putRowK, putRow, mapBlock, Sort.ahead], fun i hi hne => ?_⟩
  rw [heap_grow_old _ _ (by simpa [putRowK, putRow, mapBlock, Sort.ahead] using hi)]
  have : g ≠ i := fun e => hne (by rw [e])
  simp [putRowK, putRow, mapBlock, Sort.ahead, Array.getElem?_modify, this]
theorem off_add (g j i : Nat) : (⟨g, 0, none⟩ : Addr).add (j * 2 + i) = ⟨g, 0 + j * 2 + i, none⟩ := by
  unfold Addr.add
  by_cases hz : j * 2 + i = 0
  · simp [hz]
  · simp [hz]; omega
set_option maxHeartbeats 4000000 in
theorem sort_list (T : List PTo.S63) (A : Option Addr) (c q base : Nat) (ok : Nat → Prop) (w : World) (hR : PTo.k63.R 63 w base ok (.slice A T.length c) T) (hT : T.length ≤ 1000) (hq : w.cell? ⟨q, 0, none⟩ = some (.slice A T.length c)) (hne : ¬ ok q) :
    Calls Tryz.prog 30 #[.iface 30 (.slice A T.length c), .func (.func 31) #[] #[.pointer (some ⟨q, 0, none⟩)]] w fun e w' => e = .returned (.tuple #[]) ∧ ∃ L : List PTo.S63, L.Perm T ∧ Kd.C PTo.k63 w' A T.length L ∧ w.grownBy w' (Value.slice A T.length c).ownBlock := by
  rcases Nat.lt_or_ge T.length 2 with h1 | h2
  · have hf : ∃ f, Array.findIdx? (fun x => x.name == "internal/reflectlite" ++ ".Swapper$" ++ toString (Go.Lib.swapperK T.length tcE 25)) Tryz.prog.funcs = some f := by
      rcases (by omega : T.length = 0 ∨ T.length = 1) with h | h
      · exact ⟨73, by rw [h]; kernel_rfl⟩
      · exact ⟨74, by rw [h]; kernel_rfl⟩
    obtain ⟨f, hf⟩ := hf
    refine (Any.sort_Slice_tiny Tryz.laysGg6 30 63 tcT tcE (by kernel_rfl) (by kernel_rfl) (by kernel_rfl) (by kernel_rfl) 25 (fun _ => by kernel_rfl) A T.length c (by omega) f hf (.func 31) #[] #[.pointer (some ⟨q, 0, none⟩)] w).mono ?_
    rintro e w' ⟨rfl, os, rfl⟩
    exact ⟨rfl, T, List.Perm.refl _, Kd.C_below (Kd.R_reads' hR).2.2 (below_grow' w os), grown_of_below (below_grow' w os) _⟩
  · obtain ⟨g, cap, eg, hgb, hgl, _⟩ := Kd.R_form hR (by omega)
    obtain ⟨rfl, rfl⟩ : A = some ⟨g, 0, none⟩ ∧ c = cap := by injection eg with ea _ ec; exact ⟨ea, ec⟩
    clear eg
    have hqg : q ≠ g := fun e => hne (e ▸ hR.1 g rfl)
    obtain ⟨m, hm⟩ : ∃ m, m = T.length := ⟨_, rfl⟩
    rw [← hm] at hR hT hq h2 ⊢
    have hR := Kd.R_mono (ok' := fun b => ok b ∧ b < w.heap.size) (Kd.R_bound hR) (fun b hb => ⟨hb.1, hb.2.2.1⟩)
    have el : ∃ V : Nat → Value, ∀ i, i < m → PTo.k63.M w base (fun k => (ok k ∧ k < w.heap.size) ∧ k ≠ g) (T.getD i PTo.z63) [.int .i64 (T.getD i PTo.z63).f0, V i] ∧ (V i).oneCell' = true ∧ (∀ j, j < 2 → w.cell? ⟨g, 0 + i * 2 + j, none⟩ = some ([Value.int .i64 (T.getD i PTo.z63).f0, V i][j]!) ∧ w.frozen? ⟨g, 0 + i * 2 + j, none⟩ = false) := by
      have one : ∀ i, i < m → ∃ v, PTo.k63.M w base (fun k => (ok k ∧ k < w.heap.size) ∧ k ≠ g) (T.getD i PTo.z63) [.int .i64 (T.getD i PTo.z63).f0, v] ∧ v.oneCell' = true ∧ (∀ j, j < 2 → w.cell? ⟨g, 0 + i * 2 + j, none⟩ = some ([Value.int .i64 (T.getD i PTo.z63).f0, v][j]!) ∧ w.frozen? ⟨g, 0 + i * 2 + j, none⟩ = false) := by
        intro i hi
        obtain ⟨cs, hl, hM, hcc, hf⟩ := Kd.R_elem hR PTo.z63 (i : Int) (by omega) (by omega)
        have ei : ((i : Int)).toNat = i := by omega
        have hs : PTo.k63.sz = 2 := rfl
        rw [ei, hs] at hcc hf
        rw [ei] at hM
        obtain ⟨v1, e1, hv1⟩ := PTo.k63_openM hM
        obtain ⟨A1, c1, e2⟩ := Kd.R_slice hv1
        subst e1
        refine ⟨v1, hM, by rw [e2]; rfl, fun j hj => ?_⟩
        have hcj := hcc j _ (List.getElem?_eq_getElem (by simpa using hj))
        have hfj := hf j
        rw [show i * 2 + j = 0 + i * 2 + j by omega] at hcj hfj
        refine ⟨?_, hfj⟩
        rw [hcj]
        simp [getElem!_pos, hj]
      exact ⟨fun i => if hi : i < m then Classical.choose (one i hi) else .nilIface, fun i hi => by simp only [dif_pos hi]; exact Classical.choose_spec (one i hi)⟩
    obtain ⟨V, el⟩ := el
    haveI : Inhabited (Fin m) := ⟨⟨0, by omega⟩⟩
    obtain ⟨enc, henc⟩ : ∃ enc : Fin m → List Value, enc = fun i => [.int .i64 (T.getD i.1 PTo.z63).f0, V i.1] := ⟨_, rfl⟩
    have hk : ∀ x, (enc x).length = 2 := fun x => by rw [henc]; rfl
    obtain ⟨lt, hlt⟩ : ∃ lt : Fin m → Fin m → Bool, lt = fun i j => decide ((T.getD i.1 PTo.z63).f0 < (T.getD j.1 PTo.z63).f0) := ⟨_, rfl⟩
    have hO : SWO lt := by
      subst hlt
      exact ⟨fun x => by simp, fun x y z h1 h2 => by simp at *; omega, fun x y z h1 h2 => by simp at *; omega⟩
    obtain ⟨d, hd⟩ : ∃ d : Array (Fin m), d = (List.finRange m).toArray := ⟨_, rfl⟩
    have hds : d.size = m := by rw [hd]; simp
    have hdx : ∀ j (hj : j < m), d[j]! = ⟨j, hj⟩ := fun j hj => by
      rw [getElem!_pos d j (by omega)]
      subst hd
      simp
    have hH : HoldsK enc 2 w g 0 d := by
      intro t ht
      rw [size_flatK] at ht
      rw [get_flatK _ _ _ _ ht]
      have ht2 : t / 2 < m := by omega
      have hj : t % 2 < 2 := Nat.mod_lt _ (by decide)
      have h7 := (el (t / 2) ht2).2.2 (t % 2) hj
      rw [show 0 + t / 2 * 2 + t % 2 = 0 + t by omega] at h7
      rw [hdx _ ht2, henc]
      exact h7
    have hless : LessReadsK Tryz.prog 31 #[.pointer (some ⟨q, 0, none⟩)] enc 2 lt g 0 d.size w := by
      intro mm os dk hs i j hi hj
      have e : sortWorldK enc 2 w g 0 mm dk os = putRowK enc 2 (grow (Sort.ahead w mm) os) g 0 dk := by
        unfold sortWorldK; rw [putRowK_grow _ _ (Sort.ahead w mm) _ g 0 _ hgl]
      have hHg : HoldsK enc 2 (grow (Sort.ahead w mm) os) g 0 d := holdsK_grow _ _ _ _ g 0 _ hgl (holdsK_ahead _ _ _ _ _ _ _ hH)
      have h5 := less31 g q d.size c (sortWorldK enc 2 w g 0 mm dk os) (fun t => (T.getD (dk[t]!).1 PTo.z63).f0) (by
          rw [e, cell?_putRowK_other _ _ _ g 0 dk _ (by exact hqg), cell?_grow _ _ _ (by exact World.block_lt_of_cell? w _ hq), hds]; exact hq) (fun t ht => by
          have h8 := ((holdsK_putRowK _ _ _ g 0 d dk hHg hs).cell (i := t) (c := 0) (by omega) (by omega)).1
          rw [e, show t * 2 = 0 + t * 2 + 0 by omega, h8, henc]
          rfl) i j hi hj (by omega)
      rw [hlt]
      exact h5
    have hS := Any.sort_Slice_cells_sorted Tryz.laysGg6 30 63 tcT tcE (by kernel_rfl) (by kernel_rfl) (by kernel_rfl) (by kernel_rfl) 25 (fun _ => by kernel_rfl) enc 2 hk (by kernel_rfl) (fun _ => by kernel_rfl)
      (fun x v hv => by
        rw [henc] at hv
        rcases List.mem_cons.1 hv with rfl | hv
        · rfl
        · rw [List.mem_singleton.1 hv]; exact (el x.1 x.2).2.1) lt hO 31 #[.pointer (some ⟨q, 0, none⟩)]
      (enters_of Tryz.func31 (by kernel_rfl) rfl) g 0 c d (by omega) (by omega) 81 (by rw [tcK _ (by omega)]; kernel_rfl) false
      (fun args W => run_callFunc_extern Tryz.func81 (by kernel_rfl) (by kernel_rfl) (by kernel_rfl) (e := Extern.ReflectliteSwapper.swap false) (by kernel_rfl) args W) w hless hH hgl
    change Calls Tryz.prog 30 _ _ _ at hS
    rw [hds] at hS
    refine hS.mono ?_
    rintro e w' ⟨rfl, d', n, os, hp, hso, rfl⟩
    have hkp := keep_sortK w n g enc d' os
    have hsz' : d'.size = m := hp.1.trans hds
    have hH' : HoldsK enc 2 (grow (putRowK enc 2 (Sort.ahead w n) g 0 d') os) g 0 d' := holdsK_grow _ _ _ _ g 0 _ (by simpa [putRowK, putRow, mapBlock, Sort.ahead] using hgl) (holdsK_putRowK _ _ _ g 0 d d' (holdsK_ahead _ _ _ _ _ _ _ hH) (by rw [hsz', hds]))
    have hperm : d'.toList.Perm (List.finRange m) := by
      have h3 := hp.2.2
      have e1 : d'.extract 0 m = d' := by have := @Array.extract_size _ d'; rw [hsz'] at this; exact this
      have e2 : d.extract 0 m = d := by have := @Array.extract_size _ d; rw [hds] at this; exact this
      rw [e1, e2, hd] at h3
      simpa using h3
    have hfin : (List.finRange m).map (fun i : Fin m => T.getD i.1 PTo.z63) = T := by
      apply List.ext_getElem
      · simp [hm]
      · intro j h1 h2
        simp [List.getD_eq_getElem?_getD, h2]
    refine ⟨rfl, d'.toList.map (fun i : Fin m => T.getD i.1 PTo.z63), ?_, ?_, hkp⟩
    · have h3 := hperm.map (fun i : Fin m => T.getD i.1 PTo.z63)
      rw [hfin] at h3
      exact h3
    · refine ⟨by rw [List.length_map]; simpa using hsz', by omega, fun hn => ⟨_, rfl, fun j p hj => ?_⟩⟩
      have hjl : j < d'.toList.length := by have := (List.getElem?_eq_some_iff.1 hj).1; simpa using this
      have hjs : j < d'.size := by simpa using hjl
      obtain ⟨t, ht⟩ : ∃ t, t = d'[j]! := ⟨_, rfl⟩
      have hp2 : p = T.getD t.1 PTo.z63 := by
        rw [List.getElem?_map, List.getElem?_eq_getElem hjl] at hj
        have h9 := Option.some.inj hj
        rw [← h9, ht, getElem!_pos d' j hjs]
        simp
      refine ⟨enc t, hk t, ?_, fun i u hu => ?_⟩
      · have hee : enc t = [.int .i64 (T.getD t.1 PTo.z63).f0, V t.1] := by rw [henc]
        rw [hp2, hee]
        exact PTo.k63.K_of_M (PTo.k63.M_move (fun b hb => hkp.block b hb.1.2 (fun e => hb.2 (by injection e))) (PTo.k63.M_mono (fun b hb => hb) (el t.1 t.2).1))
      · have hi : i < 2 := by have := (List.getElem?_eq_some_iff.1 hu).1; rw [hk] at this; exact this
        have h1 := (hH'.cell hjs hi).1
        rw [← ht] at h1
        have hu2 : (enc t)[i]! = u := by
          rw [getElem!_pos (enc t) i (by rw [hk]; exact hi)]
          exact (List.getElem?_eq_some_iff.1 hu).2
        rw [hu2] at h1
        rw [show PTo.k63.sz = 2 from rfl, off_add]
        exact h1
set_option maxHeartbeats 4000000 in
set_option maxRecDepth 100000 in
theorem columns (w : World) {B b n : Nat} {D : DataW Value} {g : Int → Value} {l : Int → List Int} {h : Int → Bool} {S : Int → Nat → Prop} (hK : Cols w B b n D g l h S) (hL : ∀ c, (l c).length ≤ 10000000 ∧ (h c = true → 1 ≤ c ∧ c ≤ 30)) :
    Calls Tryz.prog 20 #[.map (some B)] w fun e w' => ∃ (vis : List Int) (L : List PTo.S63) (A : Option Addr) (cp : Nat), e = .returned (.slice A L.length cp) ∧ Kd.C PTo.k63 w' A L.length L ∧ L.length ≤ cp ∧ L.Perm (vis.map (col l)) ∧ vis.Nodup ∧ (∀ c, c ∈ vis ↔ h c = true) ∧ Below w.heap.size w w' := by
  have HK := Aside0.mk hK
  have HL := Aside0.mk hL
  have HBL := Aside0.mk hK.lt
  clear hK hL
  have HB := Aside0.mk (Below.refl w.heap.size w)
  go_enter Tryz.func20, Tryz.ntmps20
  go_upto_region 2 with fail
  have BO := Aside0.mk (blk_new w (.cells #[.slice none 0 0] 30))
  have n0_ := Aside0.mk (below_alloc HB.out (.cells #[.slice none 0 0] 30))
  have HSA := Aside0.mk (show (w.alloc (.cells #[.slice none 0 0] 30)).heap.size = w.heap.size + 1 from World.size_alloc _ _)
  clear HB
  have HB := n0_
  clear n0_
  generalize w.alloc (.cells #[.slice none 0 0] 30) = wA at BO HB HSA ⊢
  go_wp2_with (at_range; refine wpList_range_own _ rfl _ 39 rfl 3 64 law Tryz.underlying39 RV B n D rfl (HK.out.below HB.out).own ?_; intro w5 hrg0 hg0 hs0)
  go_frame
  have HRG := Aside0.mk hrg0
  have n0_ := Aside0.mk (blk_grown BO.out hg0 (by simp))
  have n1_ := Aside0.mk (below_grow HB.out (below_size HB.out) hg0 (fun _ e => by cases e))
  have HRQ := Aside0.mk (show wA.heap.size = w.heap.size + 1 ∧ w5.heap.size = w.heap.size + 2 from ⟨HSA.out, by have := HSA.out; omega⟩)
  clear BO HB HSA hrg0 hg0 hs0
  have BO := n0_
  have HB := n1_
  clear n0_ n1_
  have HRL := HRQ.out.1
  rw [HRL] at HRG ⊢
  have HT := Aside0.mk (Kd.R_nil PTo.k63 63 w5 (w.heap.size + 2) (fun b => w.heap.size + 2 ≤ b))
  have HZ := Aside0.mk (Nat.le_of_eq HRQ.out.2.symm)
  clear HRQ HRL
  go_loopg [12] (Maps.size D) (fun kq v12 w' => ∃ (left : Lit → Bool) (cnt : Nat) (vis : List Int) (A3 : Option Addr) (c3 : Nat) (T : List PTo.S63), Aside0 (w'.ranges Tryz.prog 3 RV B (w.heap.size + 1) n D left cnt ∧ cnt ≤ kq) ∧ Aside0 (T = vis.map (col l)) ∧ Aside0 (PTo.k63.R 63 w' (w.heap.size + 2) (fun b => w.heap.size + 2 ≤ b) (.slice A3 T.length c3) T) ∧ Aside0 (w'.heap[w.heap.size]? = some (.cells #[.slice A3 T.length c3] 30 (0, 0))) ∧ Aside0 (vis.Nodup ∧ (∀ c ∈ vis, h c = true ∧ left (.int .i64 c) = false) ∧ (∀ c, h c = true → left (.int .i64 c) = false → c ∈ vis)) ∧ Aside0 (∀ kl, left kl = true → Maps.has D kl = true) ∧ Aside0 (Below w.heap.size w w' ∧ w.heap.size + 2 ≤ w'.heap.size))
  case atStart => exact ⟨_, _, [], none, 0, [], ⟨⟨HRG.out, Nat.le_refl _⟩⟩, ⟨rfl⟩, HT, BO, ⟨⟨List.nodup_nil, fun c hc => (List.not_mem_nil hc).elim, fun c h1 h2 => by rw [HK.out.says.2 c, h1] at h2; cases h2⟩⟩, ⟨fun _ h => h⟩, ⟨⟨HB.out, HZ.out⟩⟩⟩
  case round =>
    clear HB HRG HT HZ BO
    obtain ⟨left, cnt, vis, A3, c3, T, HRG, HTE, HT, BO, HV, HLD, HBZ⟩ := hrel
    have hrg := HRG.out.1
    have HVB := Aside0.mk (show ∀ c ∈ vis, 1 ≤ c ∧ c ≤ 30 from fun c hc => (HL.out c).2 (HV.out.2.1 c hc).1)
    have HVL := Aside0.mk (show T.length ≤ 30 from by
      rw [HTE.out, List.length_map]
      exact nodup_len 30 vis HV.out.1 (fun c hc => by have := HVB.out c hc; omega))
    go_wp2_with (at_next; refine wpList_next_ranges _ rfl _ rfl 3 law RV (Value.int .i64) (fun v => v) (fun key kl hk => by obtain ⟨x, rfl, _⟩ := Maps.keyOf_int_inv Tryz.underlying3 hk; exact ⟨x, rfl⟩) (fun v y hv => ⟨v, rfl⟩) B (w.heap.size + 1) n _ _ _ rfl hrg ?_ ?_)
    · intro hc0 hl0
      have HL0 := Aside0.mk hl0
      have HCQ := Aside0.mk (show wr.cell? ⟨w.heap.size, 0, none⟩ = some (.slice A3 T.length c3) from (blk_cell BO.out 0).trans rfl)
      have hcq := HCQ.out
      have HVO := Aside0.mk (show ∀ q, some q = (Value.slice A3 T.length c3).ownBlock → w.heap.size + 2 ≤ q from fun q e => HT.out.1 q e.symm)
      clear hrg hc0 hl0
      go_wp2_with (go_at_call 30; (with_reducible refine (sort_list T A3 c3 w.heap.size _ _ wr HT.out (by have := HVL.out; omega) HCQ.out (fun h => by have h7 : w.heap.size + 2 ≤ w.heap.size := h; omega)).mono ?_); rintro e w9 ⟨rfl, L, hp9, hC9, hg9⟩; have hcq9 : w9.cell? ⟨w.heap.size, 0, none⟩ = some (.slice A3 T.length c3) := hg9.cell HCQ.out (fun e => by have h7 : w.heap.size + 2 ≤ w.heap.size := HVO.out _ e; omega))
      go_ret
      have hle : T.length = L.length := hp9.length_eq.symm
      refine ⟨vis, L, A3, c3, by rw [← hle]; rfl, by rw [← hle]; exact hC9, by rw [← hle]; exact (Kd.R_reads' HT.out).2.1, by rw [← HTE.out]; exact hp9, HV.out.1, fun c => ⟨fun hc => (HV.out.2.1 c hc).1, fun hc => HV.out.2.2 c hc (HL0.out _)⟩, below_grow HBZ.out.1 (below_size HBZ.out.1) hg9 (fun q e => by have h7 := HVO.out q e.symm; omega)⟩
    · intro x v kl y1 y2 w6 cnt6 hkx hlx hRc hRd hat hrg6 hlt6 hg6 hs6 hen
      have hxx : kl = .int .i64 x := by
        obtain ⟨x', ex, rfl, _⟩ := Maps.keyOf_int_inv Tryz.underlying3 hkx
        cases ex
        rfl
      subst hxx
      have hhx : h x = true := by rw [← HK.out.says.2 x]; exact HLD.out _ hlx
      have HXR := Aside0.mk ((HL.out x).2 hhx)
      have HHX := Aside0.mk hhx
      have hvg : v = g x := value_at HK.out x v y1 hRc hat
      have n0_ := Aside0.mk (below_grow HBZ.out.1 (below_size HBZ.out.1) hg6 (fun q e => by cases e; omega))
      have n1_ := Aside0.mk (And.intro hrg6 hlt6)
      have n2_ := Aside0.mk (Kd.R_grown HT.out hg6 (fun b hb e => by have h7 : b = w.heap.size + 1 := (by injection e); have h8 : w.heap.size + 2 ≤ b := hb; omega))
      have n3_ := Aside0.mk (blk_grown BO.out hg6 (fun e => by have h7 : w.heap.size = w.heap.size + 1 := (by injection e); omega))
      have HZW := Aside0.mk (show w.heap.size + 2 ≤ w6.heap.size by rw [hs6]; exact HBZ.out.2)
      have HLX := Aside0.mk hlx
      clear HBZ HT BO hrg hRc hRd hat hrg6 hlt6 hg6 hs6 hkx hhx hlx
      have HB := n0_
      have HRG6 := n1_
      have HT := n2_
      have BO := n3_
      clear n0_ n1_ n2_ n3_
      obtain ⟨A2, cap2, eg2⟩ := Kd.R_slice (HK.out.rows x)
      rw [prs_len] at eg2
      rw [hvg, eg2] at hen
      have HEG := Aside0.mk eg2
      clear hvg eg2
      go_upto_region 5 with fail
      go_wp2_with ((with_reducible refine gate_dst (N := 6) rfl ?_); refine box_event ?hg (N := 6) ?hd (cs := #[.int .i64 0, .slice none 0 0]) (t := 63) ?hr ?_; (case hd => rfl); (case hg => rfl); (case hr => first | (go_simp; done) | (go_simp; rfl)); intro gb hgb w7 hbox hb; have HGB := Aside0.mk hgb; clear hgb; have hbc0 : w7.cell? ⟨gb, 0, none⟩ = some (.int .i64 0) := (blk_cell hbox 0).trans rfl; have hbc1 : w7.cell? ⟨gb, 1, none⟩ = some (.slice none 0 0) := (blk_cell hbox 1).trans rfl; have hbf0 := blk_frozen hbox 0; have hbf1 := blk_frozen hbox 1)
      have hs8 := grown_sets w7 gb [.int .i64 x, .slice none 0 0]
      have BC := Aside0.mk (show (Flt.sets w7 gb 0 [.int .i64 x, .slice none 0 0]).heap[gb]? = some (.cells #[.int .i64 x, .slice none 0 0] 63 (0, 0)) from Flt.sets_all [.int .i64 x, .slice none 0 0] hbox rfl)
      have hb8 : Below w6.heap.size w6 (Flt.sets w7 gb 0 [.int .i64 x, .slice none 0 0]) := below_grow hb (below_size hb) hs8 (fun q e => by have h7 : gb = q := (by injection e); have := HGB.out; omega)
      have hgl : gb < w7.heap.size := blk_lt hbox
      change Code.wp _ _ _ _ (Flt.sets w7 gb 0 [.int .i64 x, .slice none 0 0])
      have HGZ := Aside0.mk (show w.heap.size + 2 ≤ gb ∧ gb < (Flt.sets w7 gb 0 [.int .i64 x, .slice none 0 0]).heap.size from ⟨by have h7 := HZW.out; have h8 := HGB.out; omega, Nat.lt_of_lt_of_le hgl hs8.size⟩)
      have n0_ := Aside0.mk (below_step HB.out hb8)
      have n1_ := Aside0.mk (And.intro (HRG6.out.1.kept (grown_of_below hb8 none) (by simp) (by simp)) HRG6.out.2)
      have n2_ := Aside0.mk (Kd.R_below (Kd.R_mono (ok' := fun b => w.heap.size + 2 ≤ b ∧ b < gb) (Kd.R_bound HT.out) (fun b hb => ⟨hb.1, by have h7 := hb.2.2.1; rw [HGB.out]; exact h7⟩)) hb8)
      have n3_ := Aside0.mk (blk_below BO.out hb8)
      clear HB HRG6 HT BO hb hbox hbc0 hbc1 hbf0 hbf1 hs8 hb8 hgl hen
      have HB := n0_
      have HRG6 := n1_
      have HT := n2_
      have BO := n3_
      clear n0_ n1_ n2_ n3_
      generalize Flt.sets w7 gb 0 [.int .i64 x, .slice none 0 0] = w8 at BC HGZ HB HRG6 HT BO ⊢
      obtain ⟨z6, hz6⟩ : ∃ z, z = w8.heap.size := ⟨_, rfl⟩
      rw [← hz6] at HGZ
      have HBZ := Aside0.mk (And.intro HB.out (Nat.le_of_eq hz6))
      have HO := Aside0.mk (Kd.R_nil (Kd.int .i64) 3 w8 z6 (fun b => z6 ≤ b))
      have HTN := Aside0.mk (show ([] : List Int) = (l x).take 0 from rfl)
      clear HB hz6
      obtain ⟨kp, hkp⟩ : ∃ kp, kp = gk := ⟨_, rfl⟩
      subst hkp
      go_loopg [20] ((l x).length) (fun kq v20 w' => ∃ (i : Nat) (A6 : Option Addr) (c6 : Nat) (rows : List Int), v20 = .int .i64 (i : Int) ∧ Aside0 (i ≤ (l x).length ∧ kq = (l x).length - i ∧ rows = (l x).take i) ∧ Aside0 ((Kd.int .i64).R 3 w' z6 (fun b => z6 ≤ b) (.slice A6 rows.length c6) rows) ∧ Aside0 (w'.heap[gb]? = some (.cells #[.int .i64 x, .slice A6 rows.length c6] 63 (0, 0))) ∧ Aside0 (w'.ranges Tryz.prog 3 RV B (w.heap.size + 1) n D (fun z => left z && !z.sameKey (.int .i64 x)) cnt6 ∧ cnt6 < cnt) ∧ Aside0 (PTo.k63.R 63 w' (w.heap.size + 2) (fun b => w.heap.size + 2 ≤ b ∧ b < gb) (.slice A3 T.length c3) T) ∧ Aside0 (w'.heap[w.heap.size]? = some (.cells #[.slice A3 T.length c3] 30 (0, 0))) ∧ Aside0 (Below w.heap.size w w' ∧ z6 ≤ w'.heap.size))
      case atStart => exact ⟨0, none, 0, [], rfl, ⟨⟨Nat.zero_le _, rfl, rfl⟩⟩, HO, BC, HRG6, HT, BO, HBZ⟩
      case round =>
        clear HBZ HO BC HRG6 HT BO HTN
        obtain ⟨i, A6, c6, rows, rfl, HI, HO, BC, HRG6, HT, BO, HBZ⟩ := hrel
        by_cases hi : i < (l x).length
        · have c1 : decide ((i : Int) < ((l x).length : Int)) = true := decide_eq_true (by omega)
          have q1 := eq_true (show (i : Int) < ((l x).length : Int) by omega)
          have p1 := eq_true (show (0 : Int) ≤ (i : Int) by omega)
          have e1 : ((i : Int)).toNat = i := by omega
          have hRx := HK.out.rows x
          obtain ⟨ga, capa, ega, _, hga, _⟩ := Kd.R_form hRx (by rw [prs_len]; omega)
          rw [prs_len, HEG.out] at ega
          obtain ⟨rfl, rfl⟩ : A2 = some ⟨ga, 0, none⟩ ∧ cap2 = capa := by injection ega with ea _ ec; exact ⟨ea, ec⟩
          rw [HEG.out] at hRx
          obtain ⟨gi, _, _, _, hgi, _, hcy, hcg, _⟩ := elem_at hRx i hi rfl
          obtain ⟨y, hy⟩ : ∃ y, y = (l x).getD i 0 := ⟨_, rfl⟩
          rw [← hy] at hcy
          have HW := Aside0.mk (show rows ++ [y] = (l x).take (i + 1) by rw [HI.out.2.2, List.take_add_one, List.getElem?_eq_getElem hi, hy, List.getD_eq_getElem?_getD, List.getElem?_eq_getElem hi]; rfl)
          have HGI := Aside0.mk hgi
          have HCY := Aside0.mk hcy
          have hcell : wr.cell? ⟨ga, i, none⟩ = some (.slice (some ⟨gi, 0, none⟩) 2 2) := (HBZ.out.1.cell (World.block_lt_of_cell? w _ hcg)).trans hcg
          have hS1 : wr.cell? ⟨gi, 1, none⟩ = some (.int .i64 y) := (HBZ.out.1.cell (World.block_lt_of_cell? w _ hcy)).trans hcy
          have hS0 : wr.cell? ⟨gb, 1, none⟩ = some (.slice A6 rows.length c6) := (blk_cell BC.out 1).trans rfl
          have HII := Aside0.mk hi
          have hwi : wrap64 ((i : Int) + 1) = ((i + 1 : Nat) : Int) := by have := (HL.out x).1; unfold wrap64; omega
          clear hi hRx ega hga hgi hcy hcg hy
          go_upto_region 9 with fail
          have hb := below_drew1 (Below.refl wr.heap.size wr)
          have n0_ := Aside0.mk (show Below w.heap.size w wr.drew ∧ z6 ≤ wr.drew.heap.size from ⟨below_step HBZ.out.1 hb, HBZ.out.2⟩)
          have n1_ := Aside0.mk (Kd.R_drew HO.out)
          have n2_ := Aside0.mk (blk_drew BC.out)
          have n3_ := Aside0.mk (And.intro (HRG6.out.1.kept (grown_of_below hb none) (by simp) (by simp)) HRG6.out.2)
          have n4_ := Aside0.mk (Kd.R_drew HT.out)
          have n5_ := Aside0.mk (blk_drew BO.out)
          clear HBZ HO BC HRG6 HT BO hb
          have HBZ := n0_
          have HO := n1_
          have BC := n2_
          have HRG6 := n3_
          have HT := n4_
          have BO := n5_
          clear n0_ n1_ n2_ n3_ n4_ n5_
          refine start_ (n := 9) (S := fun w' => w'.cell? ⟨gb, 1, none⟩ = some (.slice A6 rows.length c6) ∧ w'.cell? ⟨gi, 1, none⟩ = some (.int .i64 y)) (ds := [8]) #[false, false, false, false, false, false, false, false, false] (by kernel_rfl) rfl rfl ⟨hS0, hS1⟩ (fun hHeld => ?_)
          clear hS0 hS1
          generalize wr.drew = w5 at HBZ HO BC HRG6 HT BO hHeld ⊢
          refine pure_ (i := 0) (N := some 24) (v := ?_) (a' := ?_) #[true, false, false, false, false, false, false, false, false] rfl rfl (by kernel_rfl) (fun _ _ _ h => h) (Or.inl ⟨by rfl, ?_⟩) ?_ ?_
          rotate_left
          · intro w'
            go_simp
            with_reducible rfl
          rotate_left
          · simp only [Act.put, List.setIfInBounds_toArray, List.set_cons_zero, List.set_cons_succ, i64_w, i32_w]
            rfl
          refine pure_ (i := 2) (N := some 26) (v := ?_) (a' := ?_) #[true, false, true, false, false, false, false, false, false] rfl rfl (by kernel_rfl) (fun _ _ _ h => h) (Or.inl ⟨by rfl, ?_⟩) ?_ ?_
          rotate_left
          · intro w'
            go_simp
            with_reducible rfl
          rotate_left
          · simp only [Act.put, List.setIfInBounds_toArray, List.set_cons_zero, List.set_cons_succ, i64_w, i32_w]
            rfl
          refine pure_ (i := 3) (N := some 27) (v := ?_) (a' := ?_) #[true, false, true, true, false, false, false, false, false] rfl rfl (by kernel_rfl) (fun _ _ _ h => h) (Or.inl ⟨by rfl, ?_⟩) ?_ ?_
          rotate_left
          · intro w'
            go_simp
            with_reducible rfl
          rotate_left
          · simp only [Act.put, List.setIfInBounds_toArray, List.set_cons_zero, List.set_cons_succ, i64_w, i32_w]
            rfl
          refine take_ (i := 1) (N := some 25) (v := ?_) (a' := ?_) #[true, true, true, true, false, false, false, false, false] rfl rfl (by kernel_rfl) (fun _ _ _ h => h) (Or.inl ⟨by rfl, ?_⟩) hHeld ?_ ?_
          rotate_left
          · rintro w' ⟨s0, s1⟩
            go_simp
            with_reducible rfl
          rotate_left
          · simp only [Act.put, List.setIfInBounds_toArray, List.set_cons_zero, List.set_cons_succ, i64_w, i32_w]
            rfl
          refine take_ (i := 4) (N := some 28) (v := ?_) (a' := ?_) #[true, true, true, true, true, false, false, false, false] rfl rfl (by kernel_rfl) (fun _ _ _ h => h) (Or.inl ⟨by rfl, ?_⟩) hHeld ?_ ?_
          rotate_left
          · rintro w' ⟨s0, s1⟩
            go_simp
            with_reducible rfl
          rotate_left
          · simp only [Act.put, List.setIfInBounds_toArray, List.set_cons_zero, List.set_cons_succ, i64_w, i32_w]
            rfl
          refine one_ (i := 5) (N := some 29) #[true, true, true, true, true, true, false, false, false] rfl rfl (by kernel_rfl) (by decide) (fun K hK => ?_)
          refine value_ (w1 := ?_) (v := ?_) (by rfl) rfl ?_ ?_
          rotate_left 2
          · go_simp
            constructor
            · rfl
            · rfl
          refine hK.out _ _ ⟨(Below.cell (below_alloc (Below.refl _ _) _) (World.block_lt_of_cell? _ _ (hHeld.1))).trans (hHeld.1), (Below.cell (below_alloc (Below.refl _ _) _) (World.block_lt_of_cell? _ _ (hHeld.2))).trans (hHeld.2)⟩ (fun hHeld => ?_)
          clear hK K
          refine norm_ (a' := ?_) ?_ ?_
          rotate_left
          · show Act.put _ (some 29) _ = _
            simp only [Act.put, List.setIfInBounds_toArray, List.set_cons_zero, List.set_cons_succ, i64_w, i32_w]
            rfl
          refine one_ (i := 6) (N := some 30) #[true, true, true, true, true, true, true, false, false] rfl rfl (by kernel_rfl) (by decide) (fun K hK => ?_)
          refine Kd.R_append_step (Kd.int .i64) (w0 := w5) z6 (by rfl) (.tmp 25) (.tmp 29) 36 3 (.int .i64 0) 8 rfl Tryz.underlying36 PTo.info3 rfl (by decide) (by omega) (.slice A6 rows.length c6) rows y [.int .i64 y] (fun b => z6 ≤ b) (fun _ => False) rfl rfl rfl (fun _ h => h.elim) (fun k hk => Nat.le_trans HBZ.out.2 hk) HO.out (Below.refl _ _) HBZ.out.2 (by have h7 := HI.out; have h8 := (HL.out x).1; have h9 := (congrArg List.length h7.2.2).trans List.length_take; omega) ?_
          intro v9 w9 ho hbx hg hat
          clear hbx hat
          have hvo : ∀ q, some q = (Value.slice A6 rows.length c6).ownBlock → z6 ≤ q := fun q e => HO.out.1 q e.symm
          have BC9 := Aside0.mk (blk_grown BC.out hg (fun e => by have h7 := hvo _ e; have h8 := HGZ.out.2; omega))
          refine hK.out _ _ ⟨(blk_cell BC9.out 1).trans rfl, hg.cell ((HBZ.out.1.cell (World.block_lt_of_cell? w _ HCY.out)).trans HCY.out) (fun e => by have h7 : z6 ≤ gi := hvo _ e; have h8 := HGI.out; have h9 := HGZ.out; omega)⟩ (fun hHeld => ?_)
          clear hK K
          refine norm_ (a' := ?_) ?_ ?_
          rotate_left
          · show Act.put _ (some 30) _ = _
            simp only [Act.put, List.setIfInBounds_toArray, List.set_cons_zero, List.set_cons_succ, i64_w, i32_w]
            rfl
          refine pure_ (i := 7) (N := some 31) (v := ?_) (a' := ?_) #[true, true, true, true, true, true, true, true, false] rfl rfl (by kernel_rfl) (fun _ _ _ h => h) (Or.inl ⟨by rfl, ?_⟩) ?_ ?_
          rotate_left
          · intro w'
            go_simp
            with_reducible rfl
          rotate_left
          · simp only [Act.put, List.setIfInBounds_toArray, List.set_cons_zero, List.set_cons_succ, i64_w, i32_w]
            rfl
          refine last_ (i := 8) (N := none) #[true, true, true, true, true, true, true, true, true] rfl rfl (by kernel_rfl) (by decide) (fun K hK => ?_)
          obtain ⟨A9, c9, e9⟩ := Kd.R_slice ho
          obtain ⟨m9, hm9⟩ : ∃ m, m = (rows ++ [y]).length := ⟨_, rfl⟩
          rw [← hm9] at e9
          subst e9
          have HM9 := Aside0.mk hm9
          clear hm9
          have cz : w9.cell? ⟨gb, 1, none⟩ = some (.slice A6 rows.length c6) := (blk_cell BC9.out 1).trans rfl
          have fz := blk_frozen BC9.out 1
          refine skip_ (w1 := ?_) (by rfl) rfl ?_ ?_
          rotate_left
          · go_simp
            rfl
          refine hK.out _ _ ?_
          clear hK K
          refine done_ (by kernel_rfl) ?_
          
          have hs9 := grown_setCell w9 ⟨gb, 1, none⟩ (Value.slice A9 m9 c9)
          have n0_ := Aside0.mk (show Below w.heap.size w (w9.setCell ⟨gb, 1, none⟩ (Value.slice A9 m9 c9)) ∧ z6 ≤ (w9.setCell ⟨gb, 1, none⟩ (Value.slice A9 m9 c9)).heap.size from ⟨below_grow (below_grow HBZ.out.1 (below_size HBZ.out.1) hg (fun q e => by have h7 := hvo q e.symm; have h8 := HGZ.out; omega)) (Nat.le_trans (below_size HBZ.out.1) hg.size) hs9 (fun q e => by have h7 : gb = q := (by injection e); have h8 := HGZ.out; omega), Nat.le_trans HBZ.out.2 (Nat.le_trans hg.size hs9.size)⟩)
          have n1_ := Aside0.mk (Kd.R_far ho (p := ⟨gb, 1, none⟩) (fun k hk e => by have h7 : k = gb := e; have h8 := HGZ.out; have h9 : z6 ≤ k := hk; omega) (Value.slice A9 m9 c9))
          have n2_ := Aside0.mk (blk_put (cs' := #[.int .i64 x, (Value.slice A9 m9 c9)]) BC9.out 1 (Value.slice A9 m9 c9) rfl)
          have n3_ := Aside0.mk (And.intro ((HRG6.out.1.kept hg (fun e => by have h7 := hvo _ e; have h8 := HGZ.out; have h9 := HBL.out; omega) (fun e => by have h7 := hvo _ e; have h8 := HGZ.out; omega)).kept hs9 (fun e => by have h7 : B = gb := (by injection e); have h8 := HGZ.out; have h9 := HBL.out; omega) (fun e => by have h7 : w.heap.size + 1 = gb := (by injection e); have h8 := HGZ.out; omega)) HRG6.out.2)
          have n4_ := Aside0.mk (Kd.R_grown (Kd.R_grown HT.out hg (fun b hb e => by have h7 := hvo _ e; have h8 := HGZ.out; have h9 := hb.2; omega)) hs9 (fun b hb e => by have h7 : b = gb := (by injection e); have h9 := hb.2; omega))
          have n5_ := Aside0.mk (blk_grown (blk_grown BO.out hg (fun e => by have h7 := hvo _ e; have h8 := HGZ.out; omega)) hs9 (fun e => by have h7 : w.heap.size = gb := (by injection e); have h8 := HGZ.out; omega))
          clear HBZ HO BC BC9 HRG6 HT BO ho hg hs9 hvo cz fz
          have HBZ := n0_
          have HO := n1_
          have BC := n2_
          have HRG6 := n3_
          have HT := n4_
          have BO := n5_
          clear n0_ n1_ n2_ n3_ n4_ n5_
          go_wp2
          go_roundg ((l x).length - (i + 1))
          case measure => have := HII.out; have := HI.out; omega
          case rel => have hm9 := HM9.out; subst hm9; exact ⟨i + 1, A9, c9, rows ++ [y], by first | rfl | rw [hwi], ⟨⟨by have := HII.out; omega, rfl, HW.out⟩⟩, HO, BC, HRG6, HT, BO, HBZ⟩
        · have c1 : decide ((i : Int) < ((l x).length : Int)) = false := decide_eq_false (by omega)
          have q1 := eq_false (show ¬ (i : Int) < ((l x).length : Int) by omega)
          obtain rfl : i = (l x).length := by have := HI.out.1; omega
          obtain rfl : rows = l x := by rw [HI.out.2.2, List.take_length]
          have hcq : wr.cell? ⟨w.heap.size, 0, none⟩ = some (.slice A3 T.length c3) := (blk_cell BO.out 0).trans rfl
          have hcb0 : wr.cell? ⟨gb, 0, none⟩ = some (.int .i64 x) := (blk_cell BC.out 0).trans rfl
          have hcb1 : wr.cell? ⟨gb, 1, none⟩ = some (.slice A6 (l x).length c6) := (blk_cell BC.out 1).trans rfl
          have HM := Aside0.mk (show PTo.k63.M wr (w.heap.size + 2) (fun b => z6 ≤ b) (col l x) [.int .i64 x, .slice A6 (l x).length c6] from PTo.k63_mkM wr _ _ (col l x) (Kd.R_lower HO.out (by have := HGZ.out; omega)))
          have HVO := Aside0.mk (show ∀ q, some q = (Value.slice A3 T.length c3).ownBlock → w.heap.size + 2 ≤ q ∧ q < gb from fun q e => HT.out.1 q e.symm)
          clear hi
          go_wp2_with ((with_reducible refine gate_builtin (b := .append) (xs := #[.tmp 33, .tmp 35]) rfl ?_); at_builtin; refine Kd.R_append PTo.k63 (w0 := wr) (w.heap.size + 2) rfl (.tmp 33) (.tmp 35) 30 63 (.agg #[.int .i64 0, .slice none 0 0]) 32 rfl Tryz.underlying30 info63 rfl (by decide) (by omega) (.slice A3 T.length c3) T (col l x) [.int .i64 x, .slice A6 (l x).length c6] (fun b => w.heap.size + 2 ≤ b) (fun b => z6 ≤ b) rfl rfl HM.out (fun k hk => ⟨by have h7 := HGZ.out; have h8 : z6 ≤ k := hk; omega, fun e => by have h7 := HVO.out k e; have h8 := HGZ.out; have h9 : z6 ≤ k := hk; omega⟩) (fun k hk => by have h7 := HGZ.out; have h8 := HBZ.out.2; omega) (Kd.R_mono HT.out (fun b hb => hb.1)) (Below.refl _ _) (by have h7 := HGZ.out; have h8 := HBZ.out.2; omega) (by have h7 := HVL.out; omega) ?_; intro v9 w9 ho hbx hg hat; clear hbx hat; obtain ⟨A9, c9, e9⟩ := Kd.R_slice ho; (obtain ⟨m9, hm9⟩ : ∃ m, m = (T ++ [col l x]).length := ⟨_, rfl⟩); rw [← hm9] at e9; subst e9; have HM9 := Aside0.mk hm9; clear hm9; have BO9 := Aside0.mk (blk_grown BO.out hg (fun e => by have h7 := HVO.out _ e; omega)); (have hcz : w9.cell? ⟨w.heap.size, 0, none⟩ = some (.slice A3 T.length c3) := (blk_cell BO9.out 0).trans rfl); have hfz := blk_frozen BO9.out 0)
          have hs9 := grown_setCell w9 ⟨w.heap.size, 0, none⟩ (.slice A9 m9 c9)
          have hnx : x ∉ vis := fun hx => by have h1 := (HV.out.2.1 x hx).2; rw [HLX.out] at h1; cases h1
          go_roundg cnt6
          case measure => have := HRG6.out.2; have := HRG.out.2; omega
          case rel =>
            have hm9 := HM9.out
            subst hm9
            have hsz : w.heap.size + 2 ≤ wr.heap.size := by have h7 := HGZ.out; have h8 := HBZ.out.2; omega
            refine ⟨_, cnt6, vis ++ [x], A9, c9, T ++ [col l x], ⟨⟨(HRG6.out.1.kept hg (fun e => by have h7 := HVO.out _ e; have h9 := HBL.out; omega) (fun e => by have h7 := HVO.out _ e; omega)).kept hs9 (fun e => by have h7 : B = w.heap.size := (by injection e); have h9 := HBL.out; omega) (fun e => by have h7 : w.heap.size + 1 = w.heap.size := (by injection e); omega), Nat.le_refl _⟩⟩, ⟨by rw [HTE.out, List.map_append]; rfl⟩, ⟨Kd.R_far ho (p := ⟨w.heap.size, 0, none⟩) (fun k hk e => by have h7 : k = w.heap.size := e; have h9 : w.heap.size + 2 ≤ k := hk; omega) _⟩, ⟨blk_put (cs' := #[.slice A9 (T ++ [col l x]).length c9]) BO9.out 0 _ rfl⟩, ⟨⟨?_, ?_, ?_⟩⟩, ⟨fun kl hkl => HLD.out kl (by simp only [Bool.and_eq_true] at hkl; exact hkl.1)⟩, ⟨⟨below_grow (below_grow HBZ.out.1 (below_size HBZ.out.1) hg (fun q e => by have h7 := HVO.out q e.symm; omega)) (Nat.le_trans (below_size HBZ.out.1) hg.size) hs9 (fun q e => by have h7 : w.heap.size = q := (by injection e); omega), Nat.le_trans hsz (Nat.le_trans hg.size hs9.size)⟩⟩⟩
            · rw [List.nodup_append]
              exact ⟨HV.out.1, List.pairwise_singleton _ _, fun a ha b hb e => by rw [List.mem_singleton.1 hb] at e; subst e; exact hnx ha⟩
            · intro c hc
              rcases List.mem_append.1 hc with hc | hc
              · exact ⟨(HV.out.2.1 c hc).1, by rw [(HV.out.2.1 c hc).2]; rfl⟩
              · rw [List.mem_singleton.1 hc]
                have hs : (Lit.int .i64 x).sameKey (.int .i64 x) = true := by simp [Lit.sameKey]
                exact ⟨HHX.out, by rw [hs, Bool.not_true, Bool.and_false]⟩
            · intro c hc1 hc2
              by_cases e : c = x
              · subst e; exact List.mem_append.2 (.inr (List.mem_singleton.2 rfl))
              · have hs : (Lit.int .i64 c).sameKey (.int .i64 x) = false := by simp [Lit.sameKey, e]
                rw [hs, Bool.not_false, Bool.and_true] at hc2
                exact List.mem_append.2 (.inl (HV.out.2.2 c hc1 hc2))
end Go.Proofs.YtmcppajgfhmpaaaGreatDoor.FtG
