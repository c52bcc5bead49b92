/- FnFrequency, walks: sort.Slice as the package calls it, on items of a place and a small whole number: they are permuted and ascend by the number. Conditions: the numbers' sizes. -/
import Derived.Test.YtjefbpfpobgmaaaFrL
import Derived.Test.YtjefbpfpobgmaaaFrE
import Derived.Test.YtjefbpfpobgmaaaShSort
namespace Go.Proofs.Ytjefbpfpobgmaaa.FrT
open Go.RowKit Go.Proofs.YtjefbpfpobgmaaaW.PrintWords Go.Proofs.YtjefbpfpobgmaaaW.PrintLast Go.Proofs.YtjefbpfpobgmaaaW.PrintMore Go.Proofs.Ytjefbpfpobgmaaa.FrA Go.Proofs.Ytjefbpfpobgmaaa.FrB Go.Proofs.Ytjefbpfpobgmaaa.FrK Go.Proofs.Ytjefbpfpobgmaaa.FrL Go.Proofs.Ytjefbpfpobgmaaa.FrE
set_option linter.unusedVariables false
set_option linter.unusedSimpArgs false
attribute [local go_sem] Flt.run_store_float
open Go.Shelf Go.Lib Go.Sort
abbrev Sm : Type := {n : Int // -500 ≤ n ∧ n ≤ 500}
instance : Inhabited Sm := ⟨⟨0, by decide⟩⟩
abbrev El : Type := Int × Sm
abbrev encT (p : El) : List Value := [.int .i64 p.1, .float .f64 (fl p.2.1)]
def kT2 : Kd El := kc 2 encT (fun _ => rfl) (fun x u hu => by simp only [encT, List.mem_cons, List.not_mem_nil, or_false] at hu; rcases hu with h | h <;> (rw [h]; rfl))
def ltT (p q : El) : Bool := decide (p.2.1 < q.2.1)
theorem swo_ltT : SWO ltT where
  irrefl := fun x => by simp [ltT]
  trans := fun x y z h1 h2 => by simp [ltT] at *; omega
  ntrans := fun x y z h1 h2 => by simp [ltT] at *; omega
set_option maxHeartbeats 4000000 in
set_option maxRecDepth 100000 in
theorem less (blk off c Bs size : Nat) (W : World) (G : Nat → Sm) (hs : W.cell? ⟨Bs, 0, none⟩ = some (.slice (some ⟨blk, off, none⟩) size c))
    (hc : ∀ t, t < size → W.cell? ⟨blk, off + t * 2 + 1, none⟩ = some (.float .f64 (fl (G t).1))) (i j : Nat) (hi : i < size) (hj : j < size) (_hsz : size < 4611686018427387904) :
    Calls Try.prog 61 #[.int .i64 i, .int .i64 j, .pointer (some ⟨Bs, 0, none⟩)] W fun e w' => e = .returned (.bool (decide ((G i).1 < (G j).1))) ∧ ∃ q, w' = W.drewN q := by
  have ci := hc i hi
  have cj := hc j hj
  have o := order_lt (G i).1 (G j).1 (G i).2 (G j).2
  generalize (G i).1 = gi at ci o ⊢
  generalize (G j).1 = gj at cj o ⊢
  clear hc
  go_enter Try.func61, Try.ntmps61
  go_wp2
  go_quiet (fail)
  go_wp2
  go_ret
  exact ⟨rfl, nq, rfl⟩
noncomputable def svT : TypeInfo := (Try.prog.info? 118).get (by kernel_rfl)
noncomputable def svE : TypeInfo := (Try.prog.info? 123).get (by kernel_rfl)
theorem svK (n : Nat) (h2 : 2 ≤ n) : Lib.swapperK n svE 25 = 9 := by
  have a : svE.hasPointers = false := by kernel_rfl
  have b : svE.bytes = 16 := by kernel_rfl
  have c : (n == 0) = false := by simp; omega
  have d : (n == 1) = false := by simp; omega
  simp [Lib.swapperK, a, b, c, d]
theorem below_grow (w : World) (os : Array Obj) : RowKit.Below w.heap.size w (grow w os) := ⟨rfl, rfl, rfl, by simp [grow], fun k hk => heap_grow_old w os hk⟩
theorem keep_sort (w : World) (n blk off : Nat) (d : Array El) (os : Array Obj) : KeepBut w (grow (putRowK encT 2 (Sort.ahead w n) blk off d) os) blk none := by
  refine ⟨by simp [grow, putRowK, putRow, mapBlock, Sort.ahead], fun i hi hne _ => ?_⟩
  rw [heap_grow_old _ _ (by simpa [putRowK, putRow, mapBlock, Sort.ahead] using hi)]
  simp [putRowK, putRow, mapBlock, Sort.ahead, Array.getElem?_modify, Ne.symm hne]
theorem below_sort {w0 w : World} (hB : RowKit.Below w0.heap.size w0 w) (n blk off : Nat) (d : Array El) (os : Array Obj) (hg : w0.heap.size ≤ blk) : RowKit.Below w0.heap.size w0 (grow (putRowK encT 2 (Sort.ahead w n) blk off d) os) := by
  refine ⟨hB.os, hB.tape, hB.output, Nat.le_trans hB.size (keep_sort w n blk off d os).1, fun k hk => ?_⟩
  exact ((keep_sort w n blk off d os).2 k (Nat.lt_of_lt_of_le hk hB.size) (by omega) (by simp)).trans (hB.block k hk)
theorem holds_of_R {g c base : Nat} {ok : Nat → Prop} {w : World} {d : List El} (h : kT2.R 123 w base ok (.slice (some ⟨g, 0, none⟩) d.length c) d) : HoldsK encT 2 w g 0 d.toArray := by
  intro t ht
  rw [size_flatK] at ht
  have ht2 : t < d.length * 2 := by simpa using ht
  rw [get_flatK _ _ _ _ ht]
  obtain ⟨cs, hl, hM, hc, hf⟩ := Kd.R_elem h default (t / 2 : Nat) (by omega) (by omega)
  have hM' : cs = encT (d.getD (t / 2) default) := hM
  have e : ((t / 2 : Nat) : Int).toNat = t / 2 := by omega
  have hd : d.toArray[t / 2]! = d.getD (t / 2) default := by
    have : t / 2 < d.length := by omega
    simp [List.getD_eq_getElem?_getD, this]
  have hj : t % 2 < 2 := Nat.mod_lt _ (by decide)
  have hs : 0 + t = (t / 2 : Nat) * 2 + t % 2 := by omega
  have hsz : kT2.sz = 2 := rfl
  rw [e, hsz] at hc
  have hf2 := hf (t % 2)
  rw [e, hsz] at hf2
  rw [hs]
  refine ⟨hc _ _ ?_, hf2⟩
  rw [hM', hd]
  generalize d.getD (t / 2) default = x
  rcases (by omega : t % 2 = 0 ∨ t % 2 = 1) with h0 | h0 <;> rw [h0] <;> rfl
theorem C_of_holds {g : Nat} {w : World} {d : Array El} (h : HoldsK encT 2 w g 0 d) (hm : d.size ≤ 9223372036854775807) : kT2.C w (some ⟨g, 0, none⟩) d.size d.toList := by
  refine ⟨by simp, hm, fun hn => ⟨_, rfl, fun j p hj => ⟨encT p, rfl, rfl, fun i u hu => ?_⟩⟩⟩
  have hlt : j < d.size := by have := (List.getElem?_eq_some_iff.1 hj).1; simpa using this
  have hi : i < 2 := (List.getElem?_eq_some_iff.1 hu).1
  have h1 := (h.cell hlt hi).1
  have hp : d[j]! = p := by
    rw [getElem!_pos d j hlt]
    have := List.getElem?_eq_some_iff.1 hj
    obtain ⟨_, h2⟩ := this
    simpa using h2
  rw [hp] at h1
  have hu2 : (encT p)[i]! = u := by
    rw [getElem!_pos (encT p) i (by simpa using hi)]
    exact (List.getElem?_eq_some_iff.1 hu).2
  rw [hu2] at h1
  have ha : (⟨g, 0, none⟩ : Addr).add (j * kT2.sz + i) = ⟨g, 0 + j * 2 + i, none⟩ := by
    rw [show kT2.sz = 2 from rfl]
    unfold Addr.add
    by_cases hz : j * 2 + i = 0
    · simp [hz]
    · simp [hz]; omega
  rw [ha]
  exact h1
set_option maxHeartbeats 4000000 in
set_option maxRecDepth 100000 in
theorem sort_ (d : List El) (g c Bs base : Nat) (ok : Nat → Prop) (w : World) (hR : kT2.R 123 w base ok (.slice (some ⟨g, 0, none⟩) d.length c) d) (hg : g < w.heap.size) (hsz : d.length ≤ 100)
    (hBs : w.cell? ⟨Bs, 0, none⟩ = some (.slice (some ⟨g, 0, none⟩) d.length c)) (hne : Bs ≠ g) :
    Calls Try.prog 60 #[.iface 118 (.slice (some ⟨g, 0, none⟩) d.length c), .func (.func 61) #[] #[.pointer (some ⟨Bs, 0, none⟩)]] w fun e w' => e = .returned (.tuple #[]) ∧ ∃ ds : List El, ds.Perm d ∧ ds.Pairwise (fun p q => p.2.1 ≤ q.2.1) ∧ kT2.C w' (some ⟨g, 0, none⟩) d.length ds ∧ KeepBut w w' g none ∧ ∀ w0 : World, RowKit.Below w0.heap.size w0 w → w0.heap.size ≤ g → RowKit.Below w0.heap.size w0 w' := by
  rcases Nat.lt_or_ge d.length 2 with h1 | h2
  · have hf : ∃ f, Array.findIdx? (fun x => x.name == "internal/reflectlite" ++ ".Swapper$" ++ toString (Go.Lib.swapperK d.length svE 25)) Try.prog.funcs = some f := by
      rcases (by omega : d.length = 0 ∨ d.length = 1) with h | h
      · exact ⟨75, by rw [h]; kernel_rfl⟩
      · exact ⟨76, by rw [h]; kernel_rfl⟩
    obtain ⟨f, hf⟩ := hf
    refine (Any.sort_Slice_tiny Try.laysGg6 118 123 svT svE (by kernel_rfl) (by kernel_rfl) (by kernel_rfl) (by kernel_rfl) 25 (fun _ => by kernel_rfl) (some ⟨g, 0, none⟩) d.length c (by omega) f hf (.func 61) #[] #[.pointer (some ⟨Bs, 0, none⟩)] w).mono ?_
    rintro e w' ⟨rfl, os, rfl⟩
    refine ⟨rfl, d, List.Perm.refl _, ?_, Kd.C_below (Kd.R_reads' hR).2.2 (below_grow w os), KeepBut.of_below (below_grow w os) _ _, fun w0 hB _ => below_step hB (below_grow w os)⟩
    match d, h1 with
    | [], _ => exact List.Pairwise.nil
    | [x], _ => exact List.pairwise_singleton _ _
    | _ :: _ :: _, h => simp at h; omega
  · have hH := holds_of_R hR
    have hless : LessReadsK Try.prog 61 #[.pointer (some ⟨Bs, 0, none⟩)] encT 2 ltT g 0 d.toArray.size w := by
      intro m os dk hs i j hi hj
      have e : sortWorldK encT 2 w g 0 m dk os = putRowK encT 2 (grow (Sort.ahead w m) os) g 0 dk := by
        unfold sortWorldK; rw [putRowK_grow _ _ (Sort.ahead w m) _ g 0 _ hg]
      have hHg : HoldsK encT 2 (grow (Sort.ahead w m) os) g 0 d.toArray := holdsK_grow _ _ _ _ g 0 _ hg (holdsK_ahead _ _ _ _ _ _ _ hH)
      refine less g 0 c Bs d.toArray.size _ (fun t => dk[t]!.2) ?_ (fun t ht => ?_) i j hi hj (by simp; omega)
      · rw [e, cell?_putRowK_other _ _ _ g 0 dk _ (by exact hne), cell?_grow _ _ _ (by exact World.block_lt_of_cell? w _ hBs)]; exact hBs
      · rw [e]; exact ((holdsK_putRowK _ _ _ g 0 d.toArray dk hHg hs).cell (i := t) (c := 1) (by omega) (by omega)).1
    have hs2 : d.toArray.size = d.length := by simp
    refine (Any.sort_Slice_cells_sorted Try.laysGg6 118 123 svT svE (by kernel_rfl) (by kernel_rfl) (by kernel_rfl) (by kernel_rfl) 25 (fun _ => by kernel_rfl) encT 2 (fun _ => rfl) (by kernel_rfl) (fun _ => by kernel_rfl)
      (fun x v hv => by simp [encT] at hv; rcases hv with rfl | rfl <;> rfl) ltT swo_ltT 61 #[.pointer (some ⟨Bs, 0, none⟩)]
      (enters_of Try.func61 (by kernel_rfl) rfl) g 0 c d.toArray (by rw [hs2]; exact h2) (by rw [hs2]; omega) 83 (by rw [svK _ (by rw [hs2]; exact h2)]; kernel_rfl) false
      (fun args W => run_callFunc_extern Try.func83 (by kernel_rfl) (by kernel_rfl) (by kernel_rfl) (e := Extern.ReflectliteSwapper.swap false) (by kernel_rfl) args W) w hless hH hg).mono ?_
    rintro e w' ⟨rfl, d', n, os, hp, hso, rfl⟩
    have hsz' : d'.size = d.length := hp.1.trans hs2
    have hH' : HoldsK encT 2 (grow (putRowK encT 2 (Sort.ahead w n) g 0 d') os) g 0 d' := holdsK_grow _ _ _ _ g 0 _ (by simpa [putRowK, putRow, mapBlock, Sort.ahead] using hg) (holdsK_putRowK _ _ _ g 0 d.toArray d' (holdsK_ahead _ _ _ _ _ _ _ hH) (by rw [hsz', hs2]))
    refine ⟨rfl, d'.toList, ?_, ?_, ?_, keep_sort w n g 0 d' os, fun w0 hB h0 => below_sort hB n g 0 d' os h0⟩
    · have h3 := hp.2.2
      rw [hs2] at h3
      have e1 : d'.extract 0 d.length = d' := by rw [← hsz']; exact Array.extract_size
      have e2 : d.toArray.extract 0 d.length = d.toArray := by rw [← hs2]; exact Array.extract_size
      rw [e1, e2] at h3
      simpa using h3
    · rw [List.pairwise_iff_getElem]
      intro i j hi hj hij
      have h3 := hso i j (Nat.zero_le _) hij (by rw [hs2, ← hsz']; simpa using hj)
      have hi' : i < d'.size := by simpa using hi
      have hj' : j < d'.size := by simpa using hj
      rw [getElem!_pos d' i hi', getElem!_pos d' j hj'] at h3
      unfold ltT at h3
      have h4 := of_decide_eq_false h3
      simpa using Int.not_lt.1 h4
    · have h3 := C_of_holds hH' (by rw [hsz']; omega)
      rw [hsz'] at h3
      exact h3
end Go.Proofs.Ytjefbpfpobgmaaa.FrT
