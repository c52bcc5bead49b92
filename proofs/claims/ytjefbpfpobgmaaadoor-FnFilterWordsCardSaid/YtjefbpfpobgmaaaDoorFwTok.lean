/- The package's parseFilterTokens: an operator by its name, of a map of twelve; a value. It says nothing of texts that are not ASCII, of operators that are not in the map, and of what ends in an error. -/
import Derived.Test.YtjefbpfpobgmaaaDoorFwLow
import Derived.Test.YtjefbpfpobgmaaaDoorPFvx2
import Derived.Test.YtjefbpfpobgmaaaDoorPFvx3
import Derived.Maps.OwnSet
import Derived.WalkKit
import Derived.KernelRfl
namespace Go.Proofs.YtjefbpfpobgmaaaDoor.FwTok
open Go.RowKit Go.Proofs.YtjefbpfpobgmaaaDoorW.PrintWords Go.Proofs.YtjefbpfpobgmaaaDoorW.PrintLast Go.Proofs.YtjefbpfpobgmaaaDoorW.PrintMore Go.Proofs.YtjefbpfpobgmaaaDoor.FwLow Go.Proofs.YtjefbpfpobgmaaaDoor.PFv
open Go.Maps Go.ChangeMaps Go.MapKept Go.WideMaps
set_option linter.unusedVariables false
set_option linter.unusedSimpArgs false

section
variable {H : Type} {P : Program}
/-- A store of a map's literal. -/
theorem wpList_insert_own (w : World) {ops : Array Oper} {rest : List Oper} {o : Oper} {a : Act} {Q : Exit → Act → World → Prop}
    (hg : o.guard = none) (m x v : Operand) (t : TypeId) (hop : o.op = Op.insert t m x v)
    (k e : TypeId) (K : Keyed P k) (ht : P.underlying t = some (.map k e)) (R : Value → Option (DataW H × List MemPlace)) (b n : Nat) (D : DataW H)
    (hm : a.eval m = .map (some b)) (hown : w.ownsMap P k R b n D) (hn : n < maxLen) (key val : Value) (kl : Lit) (hx : a.eval x = key) (hv : a.eval v = val) (hkey : keyOf P k key = some kl)
    (d : DataW H) (ps : List MemPlace) (hval : R val = some (d, ps))
    (hK : ∀ w', w'.ownsMap P k R b (n + 1) (D.put kl d) → w.grownBy w' (some b) → wpList P ops Q rest (a.put o.dst undef) w') :
    wpList P ops Q (o :: rest) a w := by
  refine wpList_plain hg fun K' hK' => ?_
  obtain ⟨w', hrun, r1, r2⟩ := hown.update K ht hn hkey hval
  unfold Oper.wp
  simp [execOp, hop, hm, hx, hv, hrun, Result.andThen]
  exact hK' _ _ (hK w' r1 r2)
theorem own_below {w w' : World} {k : TypeId} {R : Value → Option (DataW H × List MemPlace)} {b n : Nat} {D : DataW H} (h : w.ownsMap P k R b n D) (hb : Below w.heap.size w w') : w'.ownsMap P k R b n D := by
  have hlt := h.lt
  obtain ⟨es, clock, he, r⟩ := h
  exact ⟨es, clock, (hb.block b hlt).trans he, r⟩
end
theorem law : Keyed Tryd.prog 9 := string_keyed Tryd.underlying9
theorem zeroE (w : World) : (zeroValue 3).run Tryd.prog w = .ok (.int .i64 0) w := by kernel_rfl
theorem gate_ins {P : Program} {ops : Array Oper} {Q : Exit → Act → World → Prop} {rest : List Oper} {o : Oper} {a : Act} {W : World} {t : TypeId} {m x v : Operand} (_h : o.op = .insert t m x v) (h : wpList P ops Q (o :: rest) a W) : wpList P ops Q (o :: rest) a W := h
theorem ins1 {H : Type} (w : World) {ops : Array Oper} {rest : List Oper} {o : Oper} {a : Act} {Q : Exit → Act → World → Prop} (s : ByteArray) (c : Int) (b n : Nat) (D : DataW H) (hg : o.guard = none)
    (hop : o.op = Op.insert 76 (.tmp 14) (.const (.string s)) (.const (.int .i64 c))) (hm : a.eval (.tmp 14) = .map (some b)) (hown : w.ownsMap Tryd.prog 9 (plainElem Tryd.prog 3) b n D) (hn : n < 100) (hs : s.size ≤ 100) (hc : 0 ≤ c ∧ c ≤ 100)
    (hK : ∀ w', w'.ownsMap Tryd.prog 9 (plainElem Tryd.prog 3) b (n + 1) (D.put (.string s.data.toList) (.lit (.int .i64 c))) → w.grownBy w' (some b) → wpList Tryd.prog ops Q rest (a.put o.dst undef) w') : wpList Tryd.prog ops Q (o :: rest) a w :=
  wpList_insert_own w hg _ _ _ 76 hop 9 3 law Tryd.underlying76 (plainElem Tryd.prog 3) b n D hm hown (by unfold maxLen; omega) _ _ _ rfl rfl (keyOf_string_mk Tryd.underlying9 (by unfold maxLen; omega)) _ [] (plainElem_int Tryd.underlying3 (WalkArith.wf_i64 (by omega))) hK
def tab : DataW Unit := (DataW.put (DataW.put (DataW.put (DataW.put (DataW.put (DataW.put (DataW.put (DataW.put (DataW.put (DataW.put (DataW.put (DataW.put (.map []) (.string [61, 61]) (.lit (.int .i64 2))) (.string [61]) (.lit (.int .i64 2))) (.string [61, 126]) (.lit (.int .i64 2))) (.string [101, 113]) (.lit (.int .i64 2))) (.string [33, 61]) (.lit (.int .i64 5))) (.string [33, 126]) (.lit (.int .i64 5))) (.string [110, 101]) (.lit (.int .i64 5))) (.string [60, 62]) (.lit (.int .i64 5))) (.string [60]) (.lit (.int .i64 1))) (.string [60, 61]) (.lit (.int .i64 3))) (.string [62]) (.lit (.int .i64 4))) (.string [62, 61]) (.lit (.int .i64 6)))
def known (t : ByteArray) : Bool := Maps.has tab (.string t.data.toList)
def num (t : ByteArray) : Int := match DataW.atKey tab (.string t.data.toList) (.lit (.int .i64 0)) with
  | .lit (.int _ c) => c
  | _ => 0
abbrev blanks : ByteArray := ⟨#[98, 108, 97, 110, 107, 115]⟩
abbrev gap : ByteArray := ⟨#[32]⟩
def fin2 (k : Nat) (n : Int) (t : ByteArray) : Option (List Int × ByteArray × Option Int) := (excelize_zzContainsAny.f k t (⟨#[42, 63]⟩ : ByteArray)).bind fun q => some (([if n = 2 ∧ q = true then 22 else n] : List Int), t, none)
def fin (k : Nat) (n : Int) (s t : ByteArray) : Option (List Int × ByteArray × Option Int) := (excelize_zzContains.f k t blanks).bind fun re =>
  if re = true then (if n = 2 then (if (t.toList == ([98, 108, 97, 110, 107, 115] : List UInt8)) = true then fin2 k 2 t else fin2 k 5 gap) else if n = 5 then (if (t.toList == ([98, 108, 97, 110, 107, 115] : List UInt8)) = true then fin2 k 5 gap else fin2 k 2 blanks) else none) else fin2 k n s
def excelize_File_parseFilterTokens.f (k : Nat) (a0 : Value) (a1 : ByteArray) (l2 : List ByteArray) : Option (List Int × ByteArray × Option Int) :=
  if 2 < (l2.length : Int) then (strings_ToLower.f (rdOf ByteArray.empty l2 1)).bind fun t1 => if known t1 = true ∧ t1.size ≤ 1000000 then (strings_ToLower.f (rdOf ByteArray.empty l2 2)).bind fun t2 => fin k (num t1) (rdOf ByteArray.empty l2 2) t2 else none else none
theorem fin2_mono (n : Int) (t : ByteArray) (k : Nat) : LeO (fin2 k n t) (fin2 (k + 1) n t) := LeO.bind (excelize_zzContainsAny.mono _ _ _) (fun _ => LeO.refl _)
theorem excelize_File_parseFilterTokens.mono : ∀ a0 a1 l2 k, LeO (excelize_File_parseFilterTokens.f k a0 a1 l2) (excelize_File_parseFilterTokens.f (k + 1) a0 a1 l2) := by
  intro a0 a1 l2 k
  unfold excelize_File_parseFilterTokens.f
  refine LeO.ite (LeO.bind (LeO.refl _) (fun _ => LeO.ite (LeO.bind (LeO.refl _) (fun _ => ?_)) (LeO.none _))) (LeO.none _)
  unfold fin
  refine LeO.bind (excelize_zzContains.mono _ _ _) (fun _ => LeO.ite (LeO.ite (LeO.ite (fin2_mono _ _ _) (fin2_mono _ _ _)) (LeO.ite (LeO.ite (fin2_mono _ _ _) (fin2_mono _ _ _)) (LeO.none _))) (fin2_mono _ _ _))
theorem el {w W : World} {ad : Addr} {xs : List ByteArray} (h : Kd.C Kd.string w (some ad) xs.length xs) (hb : Below w.heap.size w W) (i : Nat) (hi : i < xs.length) : W.cell? (ad.add i) = some (.string (rdOf ByteArray.empty xs (i : Int))) := by
  obtain ⟨ad', e, hx⟩ := Kd.at_string (Kd.C_below h hb) (i : Int) (by omega) (by omega)
  injection e with e
  subst e
  rw [show ((i : Nat) : Int).toNat = i by omega] at hx
  exact hx
theorem gate_look {P : Program} {ops : Array Oper} {Q : Exit → Act → World → Prop} {rest : List Oper} {o : Oper} {a : Act} {W : World} {t : TypeId} {m x : Operand} (_h : o.op = .lookup t m x true) (h : wpList P ops Q (o :: rest) a W) : wpList P ops Q (o :: rest) a W := h
theorem look1 (w : World) {ops : Array Oper} {rest : List Oper} {o : Oper} {a : Act} {Q : Exit → Act → World → Prop} (t : ByteArray) (n : Int) (b : Nat) (hg : o.guard = none) (m x : Operand)
    (hop : o.op = Op.lookup 76 m x true) (hm : a.eval m = .map (some b)) (hx : a.eval x = .string t) (hown : w.ownsMap Tryd.prog 9 (plainElem Tryd.prog 3) b 12 tab) (hk : known t = true) (hs : t.size ≤ 1000000) (hn : num t = n)
    (hK : wpList Tryd.prog ops Q rest (a.put o.dst (.tuple #[.int .i64 n, .bool true])) w) : wpList Tryd.prog ops Q (o :: rest) a w := by
  refine wpList_lookup_own_ok_int w hg m x 76 hop 9 3 .i64 law Tryd.underlying76 Tryd.underlying3 (zeroE _) b 12 tab hm hown _ _ hx (keyOf_string_mk Tryd.underlying9 (by unfold maxLen; omega)) ?_
  intro c hat hwc
  have hc : n = c := by rw [← hn]; unfold num; rw [hat]
  have hk' : Maps.has tab (.string t.data.toList) = true := hk
  rw [hk', ← hc]
  exact hK
theorem tab_of {w : World} {b : Nat} (h : w.ownsMap Tryd.prog 9 (plainElem Tryd.prog 3) b 12 tab) : w.ownsMap Tryd.prog 9 (plainElem Tryd.prog 3) b 12 tab := h
theorem el1 {w W : World} {ad : Addr} {xs : List ByteArray} (h : Kd.C Kd.string w (some ad) xs.length xs) (hb : Below w.heap.size w W) (hi : 2 < (xs.length : Int)) : W.cell? ⟨ad.block, ad.off + 1, none⟩ = some (.string (rdOf ByteArray.empty xs 1)) := el h hb 1 (by omega)
theorem el2 {w W : World} {ad : Addr} {xs : List ByteArray} (h : Kd.C Kd.string w (some ad) xs.length xs) (hb : Below w.heap.size w W) (hi : 2 < (xs.length : Int)) : W.cell? ⟨ad.block, ad.off + 2, none⟩ = some (.string (rdOf ByteArray.empty xs 2)) := el h hb 2 (by omega)

set_option maxHeartbeats 4000000 in
set_option maxRecDepth 100000 in
theorem tok_a (k : Nat) (a0 : Value) (a1 : ByteArray) (ad : Addr) (c2 : Nat) (l2 : List ByteArray) (t1 t2 : ByteArray) (w : World) (hr : Kd.C Kd.string w (some ad) l2.length l2) (hl : 2 < (l2.length : Int)) (e1 : strings_ToLower.f (rdOf ByteArray.empty l2 1) = some t1) (e2 : strings_ToLower.f (rdOf ByteArray.empty l2 2) = some t2)
    (hk : known t1 = true ∧ t1.size ≤ 1000000) (hn : num t1 = 2) (e3 : excelize_zzContains.f k t2 (⟨#[98, 108, 97, 110, 107, 115]⟩ : ByteArray) = some false) (e4 : excelize_zzContainsAny.f k (rdOf ByteArray.empty l2 2) (⟨#[42, 63]⟩ : ByteArray) = some true) :
    Calls Tryd.prog 33 #[a0, .string a1, .slice (some ad) l2.length c2] w fun e w' => ∃ v, e = .returned (.tuple #[v, .string (rdOf ByteArray.empty l2 2), .nilIface]) ∧ Kd.R (Kd.int .i64) 3 w' w.heap.size (fun _ => True) v [22] ∧ Below w.heap.size w w' := by
  have HR := Aside0.mk hr
  have HL := Aside0.mk hl
  have E1 := Aside0.mk e1
  have E2 := Aside0.mk e2
  have E3 := Aside0.mk e3
  have E4 := Aside0.mk e4
  have HK := Aside0.mk hk
  have HN := Aside0.mk hn
  have l1 : decide (1 < (l2.length : Int)) = true := decide_eq_true (by omega)
  have l2_ : decide (2 < (l2.length : Int)) = true := decide_eq_true (by omega)
  have l3 : decide (1 < l2.length) = true := decide_eq_true (by omega)
  have l4 : decide (2 < l2.length) = true := decide_eq_true (by omega)
  clear hr e1 e2 e3 e4 hk hn
  have HO := Aside0.mk (World.ownsMap_made (H := Unit) w Tryd.prog 9 (plainElem Tryd.prog 3))
  have HB := Aside0.mk (Below.refl w.heap.size w)
  have hmm := @run_makeMap Tryd.prog
  go_enter Tryd.func33, Tryd.ntmps33
  go_upto_region 2 with (first | ((with_reducible refine gate_ins rfl ?_); refine ins1 _ _ _ w.heap.size _ _ rfl rfl rfl HO.out (by omega) (by decide) (by decide) ?_; intro w1 ho hg; have n0_ := Aside0.mk ho; have n1_ := Aside0.mk (Below.grown (by repeat (first | (with_reducible first | exact HB.out | apply below_alloc | apply pw_below_drewN | apply below_drew1) | exact HB.out)) hg (below_size (by repeat (first | (with_reducible first | exact HB.out | apply below_alloc | apply pw_below_drewN | apply below_drew1) | exact HB.out))) (fun j hj => by cases hj; exact Nat.le_refl _)); clear HO HB ho hg; have HO := n0_; have HB := n1_; clear n0_ n1_))
  have HT := Aside0.mk (tab_of HO.out)
  clear HO
  have x1 := el1 HR.out HB.out HL.out
  have x2 := el2 HR.out HB.out HL.out
  go_wp2_with (first | (go_at_call 36; with_reducible refine (strings_ToLower.calls (rdOf ByteArray.empty l2 1) t1 _ E1.out).mono ?_; rintro e w2 ⟨rfl, hb⟩; have n0_ := Aside0.mk (own_below HT.out hb); clear HT; have HT := n0_; clear n0_; (have n0_ := Aside0.mk (below_step (by repeat (first | (with_reducible first | exact HB.out | apply below_alloc | apply pw_below_drewN | apply below_drew1) | exact HB.out)) hb); clear HB hb; have HB := n0_; clear n0_); (clear x1 x2; have x1 := el1 HR.out (by repeat (first | (with_reducible first | exact HB.out | apply below_alloc | apply pw_below_drewN | apply below_drew1) | exact HB.out)) HL.out; have x2 := el2 HR.out (by repeat (first | (with_reducible first | exact HB.out | apply below_alloc | apply pw_below_drewN | apply below_drew1) | exact HB.out)) HL.out)) | ((with_reducible refine gate_look rfl ?_); refine look1 _ t1 (2) w.heap.size rfl _ _ rfl rfl rfl HT.out HK.out.1 HK.out.2 HN.out ?_; clear HT) | (go_at_call 36; with_reducible refine (strings_ToLower.calls (rdOf ByteArray.empty l2 2) t2 _ E2.out).mono ?_; rintro e w2 ⟨rfl, hb⟩; (have n0_ := Aside0.mk (below_step (by repeat (first | (with_reducible first | exact HB.out | apply below_alloc | apply pw_below_drewN | apply below_drew1) | exact HB.out)) hb); clear HB hb; have HB := n0_; clear n0_); (clear x1 x2; have x1 := el1 HR.out (by repeat (first | (with_reducible first | exact HB.out | apply below_alloc | apply pw_below_drewN | apply below_drew1) | exact HB.out)) HL.out; have x2 := el2 HR.out (by repeat (first | (with_reducible first | exact HB.out | apply below_alloc | apply pw_below_drewN | apply below_drew1) | exact HB.out)) HL.out)) | (go_at_call 32; with_reducible refine (excelize_zzContains.calls k t2 (⟨#[98, 108, 97, 110, 107, 115]⟩ : ByteArray) false _ E3.out).mono ?_; rintro e w' ⟨rfl, ⟨nd, rfl⟩⟩) | (go_at_call 37; with_reducible refine (excelize_zzContainsAny.calls k (rdOf ByteArray.empty l2 2) (⟨#[42, 63]⟩ : ByteArray) true _ E4.out).mono ?_; rintro e w' ⟨rfl, ⟨nd, rfl⟩⟩) | ((with_reducible refine gate_dst (N := 62) rfl ?_); refine Kd.R_lit (Kd.int .i64) _ 3 ?hg (N := 62) ?hd (xs := ([22] : List Int)) (inner := [.int .i64 (22)]) (ok := fun _ => True) (okp := fun _ => True) ?hr ?hp (fun _ hk => hk) trivial (Below.refl _ _) (Nat.le_refl _) (by simp) ?_; (case hd => rfl); (case hg => rfl); (case hr => first | (go_simp; done) | (go_simp; rfl)); (case hp => exact (Reps.one (show Kd.M (Kd.int .i64) _ _ _ (22) [.int .i64 (22)] from rfl) (Reps.none _ _))); intro v134 w40 ho41 hb hg_ hnew_; clear hg_ hnew_; have n1_ := Aside0.mk (Kd.R_lower ho41 (below_size (by repeat (first | (with_reducible first | exact HB.out | apply below_alloc | apply pw_below_drewN | apply below_drew1) | exact HB.out)))); have n2_ := Aside0.mk (below_step (by repeat (first | (with_reducible first | exact HB.out | apply below_alloc | apply pw_below_drewN | apply below_drew1) | exact HB.out)) hb); clear HB; have HO135 := n1_; have HB := n2_; clear n1_ n2_; clear hb ho41))
  go_ret3
  exact ⟨_, by first | rfl | (simp <;> rfl) | (simp [*] <;> rfl), by (with_reducible repeat (first | apply Kd.R_alloc | apply Kd.R_drewN | apply Kd.R_drew)); exact HO135.out, by repeat (first | (with_reducible first | exact HB.out | apply below_alloc | apply pw_below_drewN | apply below_drew1) | exact HB.out)⟩

set_option maxHeartbeats 4000000 in
set_option maxRecDepth 100000 in
theorem tok_b (k : Nat) (a0 : Value) (a1 : ByteArray) (ad : Addr) (c2 : Nat) (l2 : List ByteArray) (t1 t2 : ByteArray) (w : World) (hr : Kd.C Kd.string w (some ad) l2.length l2) (hl : 2 < (l2.length : Int)) (e1 : strings_ToLower.f (rdOf ByteArray.empty l2 1) = some t1) (e2 : strings_ToLower.f (rdOf ByteArray.empty l2 2) = some t2)
    (hk : known t1 = true ∧ t1.size ≤ 1000000) (hn : num t1 = 2) (e3 : excelize_zzContains.f k t2 (⟨#[98, 108, 97, 110, 107, 115]⟩ : ByteArray) = some false) (e4 : excelize_zzContainsAny.f k (rdOf ByteArray.empty l2 2) (⟨#[42, 63]⟩ : ByteArray) = some false) :
    Calls Tryd.prog 33 #[a0, .string a1, .slice (some ad) l2.length c2] w fun e w' => ∃ v, e = .returned (.tuple #[v, .string (rdOf ByteArray.empty l2 2), .nilIface]) ∧ Kd.R (Kd.int .i64) 3 w' w.heap.size (fun _ => True) v [2] ∧ Below w.heap.size w w' := by
  have HR := Aside0.mk hr
  have HL := Aside0.mk hl
  have E1 := Aside0.mk e1
  have E2 := Aside0.mk e2
  have E3 := Aside0.mk e3
  have E4 := Aside0.mk e4
  have HK := Aside0.mk hk
  have HN := Aside0.mk hn
  have l1 : decide (1 < (l2.length : Int)) = true := decide_eq_true (by omega)
  have l2_ : decide (2 < (l2.length : Int)) = true := decide_eq_true (by omega)
  have l3 : decide (1 < l2.length) = true := decide_eq_true (by omega)
  have l4 : decide (2 < l2.length) = true := decide_eq_true (by omega)
  clear hr e1 e2 e3 e4 hk hn
  have HO := Aside0.mk (World.ownsMap_made (H := Unit) w Tryd.prog 9 (plainElem Tryd.prog 3))
  have HB := Aside0.mk (Below.refl w.heap.size w)
  have hmm := @run_makeMap Tryd.prog
  go_enter Tryd.func33, Tryd.ntmps33
  go_upto_region 2 with (first | ((with_reducible refine gate_ins rfl ?_); refine ins1 _ _ _ w.heap.size _ _ rfl rfl rfl HO.out (by omega) (by decide) (by decide) ?_; intro w1 ho hg; have n0_ := Aside0.mk ho; have n1_ := Aside0.mk (Below.grown (by repeat (first | (with_reducible first | exact HB.out | apply below_alloc | apply pw_below_drewN | apply below_drew1) | exact HB.out)) hg (below_size (by repeat (first | (with_reducible first | exact HB.out | apply below_alloc | apply pw_below_drewN | apply below_drew1) | exact HB.out))) (fun j hj => by cases hj; exact Nat.le_refl _)); clear HO HB ho hg; have HO := n0_; have HB := n1_; clear n0_ n1_))
  have HT := Aside0.mk (tab_of HO.out)
  clear HO
  have x1 := el1 HR.out HB.out HL.out
  have x2 := el2 HR.out HB.out HL.out
  go_wp2_with (first | (go_at_call 36; with_reducible refine (strings_ToLower.calls (rdOf ByteArray.empty l2 1) t1 _ E1.out).mono ?_; rintro e w2 ⟨rfl, hb⟩; have n0_ := Aside0.mk (own_below HT.out hb); clear HT; have HT := n0_; clear n0_; (have n0_ := Aside0.mk (below_step (by repeat (first | (with_reducible first | exact HB.out | apply below_alloc | apply pw_below_drewN | apply below_drew1) | exact HB.out)) hb); clear HB hb; have HB := n0_; clear n0_); (clear x1 x2; have x1 := el1 HR.out (by repeat (first | (with_reducible first | exact HB.out | apply below_alloc | apply pw_below_drewN | apply below_drew1) | exact HB.out)) HL.out; have x2 := el2 HR.out (by repeat (first | (with_reducible first | exact HB.out | apply below_alloc | apply pw_below_drewN | apply below_drew1) | exact HB.out)) HL.out)) | ((with_reducible refine gate_look rfl ?_); refine look1 _ t1 (2) w.heap.size rfl _ _ rfl rfl rfl HT.out HK.out.1 HK.out.2 HN.out ?_; clear HT) | (go_at_call 36; with_reducible refine (strings_ToLower.calls (rdOf ByteArray.empty l2 2) t2 _ E2.out).mono ?_; rintro e w2 ⟨rfl, hb⟩; (have n0_ := Aside0.mk (below_step (by repeat (first | (with_reducible first | exact HB.out | apply below_alloc | apply pw_below_drewN | apply below_drew1) | exact HB.out)) hb); clear HB hb; have HB := n0_; clear n0_); (clear x1 x2; have x1 := el1 HR.out (by repeat (first | (with_reducible first | exact HB.out | apply below_alloc | apply pw_below_drewN | apply below_drew1) | exact HB.out)) HL.out; have x2 := el2 HR.out (by repeat (first | (with_reducible first | exact HB.out | apply below_alloc | apply pw_below_drewN | apply below_drew1) | exact HB.out)) HL.out)) | (go_at_call 32; with_reducible refine (excelize_zzContains.calls k t2 (⟨#[98, 108, 97, 110, 107, 115]⟩ : ByteArray) false _ E3.out).mono ?_; rintro e w' ⟨rfl, ⟨nd, rfl⟩⟩) | (go_at_call 37; with_reducible refine (excelize_zzContainsAny.calls k (rdOf ByteArray.empty l2 2) (⟨#[42, 63]⟩ : ByteArray) false _ E4.out).mono ?_; rintro e w' ⟨rfl, ⟨nd, rfl⟩⟩) | ((with_reducible refine gate_dst (N := 62) rfl ?_); refine Kd.R_lit (Kd.int .i64) _ 3 ?hg (N := 62) ?hd (xs := ([2] : List Int)) (inner := [.int .i64 (2)]) (ok := fun _ => True) (okp := fun _ => True) ?hr ?hp (fun _ hk => hk) trivial (Below.refl _ _) (Nat.le_refl _) (by simp) ?_; (case hd => rfl); (case hg => rfl); (case hr => first | (go_simp; done) | (go_simp; rfl)); (case hp => exact (Reps.one (show Kd.M (Kd.int .i64) _ _ _ (2) [.int .i64 (2)] from rfl) (Reps.none _ _))); intro v134 w40 ho41 hb hg_ hnew_; clear hg_ hnew_; have n1_ := Aside0.mk (Kd.R_lower ho41 (below_size (by repeat (first | (with_reducible first | exact HB.out | apply below_alloc | apply pw_below_drewN | apply below_drew1) | exact HB.out)))); have n2_ := Aside0.mk (below_step (by repeat (first | (with_reducible first | exact HB.out | apply below_alloc | apply pw_below_drewN | apply below_drew1) | exact HB.out)) hb); clear HB; have HO135 := n1_; have HB := n2_; clear n1_ n2_; clear hb ho41))
  go_ret3
  exact ⟨_, by first | rfl | (simp <;> rfl) | (simp [*] <;> rfl), by (with_reducible repeat (first | apply Kd.R_alloc | apply Kd.R_drewN | apply Kd.R_drew)); exact HO135.out, by repeat (first | (with_reducible first | exact HB.out | apply below_alloc | apply pw_below_drewN | apply below_drew1) | exact HB.out)⟩

set_option maxHeartbeats 4000000 in
set_option maxRecDepth 100000 in
theorem tok_c (k : Nat) (a0 : Value) (a1 : ByteArray) (ad : Addr) (c2 : Nat) (l2 : List ByteArray) (t1 t2 : ByteArray) (w : World) (hr : Kd.C Kd.string w (some ad) l2.length l2) (hl : 2 < (l2.length : Int)) (e1 : strings_ToLower.f (rdOf ByteArray.empty l2 1) = some t1) (e2 : strings_ToLower.f (rdOf ByteArray.empty l2 2) = some t2)
    (hk : known t1 = true ∧ t1.size ≤ 1000000) (n : Int) (hn2 : (n == 2) = false) (q : Bool) (hn : num t1 = n) (e3 : excelize_zzContains.f k t2 (⟨#[98, 108, 97, 110, 107, 115]⟩ : ByteArray) = some false) (e4 : excelize_zzContainsAny.f k (rdOf ByteArray.empty l2 2) (⟨#[42, 63]⟩ : ByteArray) = some q) :
    Calls Tryd.prog 33 #[a0, .string a1, .slice (some ad) l2.length c2] w fun e w' => ∃ v, e = .returned (.tuple #[v, .string (rdOf ByteArray.empty l2 2), .nilIface]) ∧ Kd.R (Kd.int .i64) 3 w' w.heap.size (fun _ => True) v [n] ∧ Below w.heap.size w w' := by
  have HR := Aside0.mk hr
  have HL := Aside0.mk hl
  have E1 := Aside0.mk e1
  have E2 := Aside0.mk e2
  have E3 := Aside0.mk e3
  have E4 := Aside0.mk e4
  have HK := Aside0.mk hk
  have HN := Aside0.mk hn
  have l1 : decide (1 < (l2.length : Int)) = true := decide_eq_true (by omega)
  have l2_ : decide (2 < (l2.length : Int)) = true := decide_eq_true (by omega)
  have l3 : decide (1 < l2.length) = true := decide_eq_true (by omega)
  have l4 : decide (2 < l2.length) = true := decide_eq_true (by omega)
  clear hr e1 e2 e3 e4 hk hn
  have HO := Aside0.mk (World.ownsMap_made (H := Unit) w Tryd.prog 9 (plainElem Tryd.prog 3))
  have HB := Aside0.mk (Below.refl w.heap.size w)
  have hmm := @run_makeMap Tryd.prog
  go_enter Tryd.func33, Tryd.ntmps33
  go_upto_region 2 with (first | ((with_reducible refine gate_ins rfl ?_); refine ins1 _ _ _ w.heap.size _ _ rfl rfl rfl HO.out (by omega) (by decide) (by decide) ?_; intro w1 ho hg; have n0_ := Aside0.mk ho; have n1_ := Aside0.mk (Below.grown (by repeat (first | (with_reducible first | exact HB.out | apply below_alloc | apply pw_below_drewN | apply below_drew1) | exact HB.out)) hg (below_size (by repeat (first | (with_reducible first | exact HB.out | apply below_alloc | apply pw_below_drewN | apply below_drew1) | exact HB.out))) (fun j hj => by cases hj; exact Nat.le_refl _)); clear HO HB ho hg; have HO := n0_; have HB := n1_; clear n0_ n1_))
  have HT := Aside0.mk (tab_of HO.out)
  clear HO
  have x1 := el1 HR.out HB.out HL.out
  have x2 := el2 HR.out HB.out HL.out
  go_wp2_with (first | (go_at_call 36; with_reducible refine (strings_ToLower.calls (rdOf ByteArray.empty l2 1) t1 _ E1.out).mono ?_; rintro e w2 ⟨rfl, hb⟩; have n0_ := Aside0.mk (own_below HT.out hb); clear HT; have HT := n0_; clear n0_; (have n0_ := Aside0.mk (below_step (by repeat (first | (with_reducible first | exact HB.out | apply below_alloc | apply pw_below_drewN | apply below_drew1) | exact HB.out)) hb); clear HB hb; have HB := n0_; clear n0_); (clear x1 x2; have x1 := el1 HR.out (by repeat (first | (with_reducible first | exact HB.out | apply below_alloc | apply pw_below_drewN | apply below_drew1) | exact HB.out)) HL.out; have x2 := el2 HR.out (by repeat (first | (with_reducible first | exact HB.out | apply below_alloc | apply pw_below_drewN | apply below_drew1) | exact HB.out)) HL.out)) | ((with_reducible refine gate_look rfl ?_); refine look1 _ t1 (n) w.heap.size rfl _ _ rfl rfl rfl HT.out HK.out.1 HK.out.2 HN.out ?_; clear HT) | (go_at_call 36; with_reducible refine (strings_ToLower.calls (rdOf ByteArray.empty l2 2) t2 _ E2.out).mono ?_; rintro e w2 ⟨rfl, hb⟩; (have n0_ := Aside0.mk (below_step (by repeat (first | (with_reducible first | exact HB.out | apply below_alloc | apply pw_below_drewN | apply below_drew1) | exact HB.out)) hb); clear HB hb; have HB := n0_; clear n0_); (clear x1 x2; have x1 := el1 HR.out (by repeat (first | (with_reducible first | exact HB.out | apply below_alloc | apply pw_below_drewN | apply below_drew1) | exact HB.out)) HL.out; have x2 := el2 HR.out (by repeat (first | (with_reducible first | exact HB.out | apply below_alloc | apply pw_below_drewN | apply below_drew1) | exact HB.out)) HL.out)) | (go_at_call 32; with_reducible refine (excelize_zzContains.calls k t2 (⟨#[98, 108, 97, 110, 107, 115]⟩ : ByteArray) false _ E3.out).mono ?_; rintro e w' ⟨rfl, ⟨nd, rfl⟩⟩) | (go_at_call 37; with_reducible refine (excelize_zzContainsAny.calls k (rdOf ByteArray.empty l2 2) (⟨#[42, 63]⟩ : ByteArray) q _ E4.out).mono ?_; rintro e w' ⟨rfl, ⟨nd, rfl⟩⟩) | ((with_reducible refine gate_dst (N := 62) rfl ?_); refine Kd.R_lit (Kd.int .i64) _ 3 ?hg (N := 62) ?hd (xs := ([n] : List Int)) (inner := [.int .i64 (n)]) (ok := fun _ => True) (okp := fun _ => True) ?hr ?hp (fun _ hk => hk) trivial (Below.refl _ _) (Nat.le_refl _) (by simp) ?_; (case hd => rfl); (case hg => rfl); (case hr => first | (go_simp; done) | (go_simp; rfl)); (case hp => exact (Reps.one (show Kd.M (Kd.int .i64) _ _ _ (n) [.int .i64 (n)] from rfl) (Reps.none _ _))); intro v134 w40 ho41 hb hg_ hnew_; clear hg_ hnew_; have n1_ := Aside0.mk (Kd.R_lower ho41 (below_size (by repeat (first | (with_reducible first | exact HB.out | apply below_alloc | apply pw_below_drewN | apply below_drew1) | exact HB.out)))); have n2_ := Aside0.mk (below_step (by repeat (first | (with_reducible first | exact HB.out | apply below_alloc | apply pw_below_drewN | apply below_drew1) | exact HB.out)) hb); clear HB; have HO135 := n1_; have HB := n2_; clear n1_ n2_; clear hb ho41))
  go_ret3
  exact ⟨_, by first | rfl | (simp <;> rfl) | (simp [*] <;> rfl), by (with_reducible repeat (first | apply Kd.R_alloc | apply Kd.R_drewN | apply Kd.R_drew)); exact HO135.out, by repeat (first | (with_reducible first | exact HB.out | apply below_alloc | apply pw_below_drewN | apply below_drew1) | exact HB.out)⟩

set_option maxHeartbeats 4000000 in
set_option maxRecDepth 100000 in
theorem tok_d (k : Nat) (a0 : Value) (a1 : ByteArray) (ad : Addr) (c2 : Nat) (l2 : List ByteArray) (t1 t2 : ByteArray) (w : World) (hr : Kd.C Kd.string w (some ad) l2.length l2) (hl : 2 < (l2.length : Int)) (e1 : strings_ToLower.f (rdOf ByteArray.empty l2 1) = some t1) (e2 : strings_ToLower.f (rdOf ByteArray.empty l2 2) = some t2)
    (hk : known t1 = true ∧ t1.size ≤ 1000000) (htb : (t2.toList == ([98, 108, 97, 110, 107, 115] : List UInt8)) = true) (hn : num t1 = 2) (e3 : excelize_zzContains.f k t2 (⟨#[98, 108, 97, 110, 107, 115]⟩ : ByteArray) = some true) (e4 : excelize_zzContainsAny.f k t2 (⟨#[42, 63]⟩ : ByteArray) = some true) :
    Calls Tryd.prog 33 #[a0, .string a1, .slice (some ad) l2.length c2] w fun e w' => ∃ v, e = .returned (.tuple #[v, .string t2, .nilIface]) ∧ Kd.R (Kd.int .i64) 3 w' w.heap.size (fun _ => True) v [22] ∧ Below w.heap.size w w' := by
  have HR := Aside0.mk hr
  have HL := Aside0.mk hl
  have E1 := Aside0.mk e1
  have E2 := Aside0.mk e2
  have E3 := Aside0.mk e3
  have E4 := Aside0.mk e4
  have HK := Aside0.mk hk
  have HN := Aside0.mk hn
  have htb2 : (t2.toList != ([98, 108, 97, 110, 107, 115] : List UInt8)) = false := by rw [bne, htb]; rfl
  have l1 : decide (1 < (l2.length : Int)) = true := decide_eq_true (by omega)
  have l2_ : decide (2 < (l2.length : Int)) = true := decide_eq_true (by omega)
  have l3 : decide (1 < l2.length) = true := decide_eq_true (by omega)
  have l4 : decide (2 < l2.length) = true := decide_eq_true (by omega)
  clear hr e1 e2 e3 e4 hk hn
  have HO := Aside0.mk (World.ownsMap_made (H := Unit) w Tryd.prog 9 (plainElem Tryd.prog 3))
  have HB := Aside0.mk (Below.refl w.heap.size w)
  have hmm := @run_makeMap Tryd.prog
  go_enter Tryd.func33, Tryd.ntmps33
  go_upto_region 2 with (first | ((with_reducible refine gate_ins rfl ?_); refine ins1 _ _ _ w.heap.size _ _ rfl rfl rfl HO.out (by omega) (by decide) (by decide) ?_; intro w1 ho hg; have n0_ := Aside0.mk ho; have n1_ := Aside0.mk (Below.grown (by repeat (first | (with_reducible first | exact HB.out | apply below_alloc | apply pw_below_drewN | apply below_drew1) | exact HB.out)) hg (below_size (by repeat (first | (with_reducible first | exact HB.out | apply below_alloc | apply pw_below_drewN | apply below_drew1) | exact HB.out))) (fun j hj => by cases hj; exact Nat.le_refl _)); clear HO HB ho hg; have HO := n0_; have HB := n1_; clear n0_ n1_))
  have HT := Aside0.mk (tab_of HO.out)
  clear HO
  have x1 := el1 HR.out HB.out HL.out
  have x2 := el2 HR.out HB.out HL.out
  go_wp2_with (first | (go_at_call 36; with_reducible refine (strings_ToLower.calls (rdOf ByteArray.empty l2 1) t1 _ E1.out).mono ?_; rintro e w2 ⟨rfl, hb⟩; have n0_ := Aside0.mk (own_below HT.out hb); clear HT; have HT := n0_; clear n0_; (have n0_ := Aside0.mk (below_step (by repeat (first | (with_reducible first | exact HB.out | apply below_alloc | apply pw_below_drewN | apply below_drew1) | exact HB.out)) hb); clear HB hb; have HB := n0_; clear n0_); (clear x1 x2; have x1 := el1 HR.out (by repeat (first | (with_reducible first | exact HB.out | apply below_alloc | apply pw_below_drewN | apply below_drew1) | exact HB.out)) HL.out; have x2 := el2 HR.out (by repeat (first | (with_reducible first | exact HB.out | apply below_alloc | apply pw_below_drewN | apply below_drew1) | exact HB.out)) HL.out)) | ((with_reducible refine gate_look rfl ?_); refine look1 _ t1 (2) w.heap.size rfl _ _ rfl rfl rfl HT.out HK.out.1 HK.out.2 HN.out ?_; clear HT) | (go_at_call 36; with_reducible refine (strings_ToLower.calls (rdOf ByteArray.empty l2 2) t2 _ E2.out).mono ?_; rintro e w2 ⟨rfl, hb⟩; (have n0_ := Aside0.mk (below_step (by repeat (first | (with_reducible first | exact HB.out | apply below_alloc | apply pw_below_drewN | apply below_drew1) | exact HB.out)) hb); clear HB hb; have HB := n0_; clear n0_); (clear x1 x2; have x1 := el1 HR.out (by repeat (first | (with_reducible first | exact HB.out | apply below_alloc | apply pw_below_drewN | apply below_drew1) | exact HB.out)) HL.out; have x2 := el2 HR.out (by repeat (first | (with_reducible first | exact HB.out | apply below_alloc | apply pw_below_drewN | apply below_drew1) | exact HB.out)) HL.out)) | (go_at_call 32; with_reducible refine (excelize_zzContains.calls k t2 (⟨#[98, 108, 97, 110, 107, 115]⟩ : ByteArray) true _ E3.out).mono ?_; rintro e w' ⟨rfl, ⟨nd, rfl⟩⟩) | (go_at_call 37; with_reducible refine (excelize_zzContainsAny.calls k t2 (⟨#[42, 63]⟩ : ByteArray) true _ E4.out).mono ?_; rintro e w' ⟨rfl, ⟨nd, rfl⟩⟩) | ((with_reducible refine gate_dst (N := 62) rfl ?_); refine Kd.R_lit (Kd.int .i64) _ 3 ?hg (N := 62) ?hd (xs := ([22] : List Int)) (inner := [.int .i64 (22)]) (ok := fun _ => True) (okp := fun _ => True) ?hr ?hp (fun _ hk => hk) trivial (Below.refl _ _) (Nat.le_refl _) (by simp) ?_; (case hd => rfl); (case hg => rfl); (case hr => first | (go_simp; done) | (go_simp; rfl)); (case hp => exact (Reps.one (show Kd.M (Kd.int .i64) _ _ _ (22) [.int .i64 (22)] from rfl) (Reps.none _ _))); intro v134 w40 ho41 hb hg_ hnew_; clear hg_ hnew_; have n1_ := Aside0.mk (Kd.R_lower ho41 (below_size (by repeat (first | (with_reducible first | exact HB.out | apply below_alloc | apply pw_below_drewN | apply below_drew1) | exact HB.out)))); have n2_ := Aside0.mk (below_step (by repeat (first | (with_reducible first | exact HB.out | apply below_alloc | apply pw_below_drewN | apply below_drew1) | exact HB.out)) hb); clear HB; have HO135 := n1_; have HB := n2_; clear n1_ n2_; clear hb ho41))
  go_ret3
  exact ⟨_, by first | rfl | (simp <;> rfl) | (simp [*] <;> rfl), by (with_reducible repeat (first | apply Kd.R_alloc | apply Kd.R_drewN | apply Kd.R_drew)); exact HO135.out, by repeat (first | (with_reducible first | exact HB.out | apply below_alloc | apply pw_below_drewN | apply below_drew1) | exact HB.out)⟩

set_option maxHeartbeats 4000000 in
set_option maxRecDepth 100000 in
theorem tok_e (k : Nat) (a0 : Value) (a1 : ByteArray) (ad : Addr) (c2 : Nat) (l2 : List ByteArray) (t1 t2 : ByteArray) (w : World) (hr : Kd.C Kd.string w (some ad) l2.length l2) (hl : 2 < (l2.length : Int)) (e1 : strings_ToLower.f (rdOf ByteArray.empty l2 1) = some t1) (e2 : strings_ToLower.f (rdOf ByteArray.empty l2 2) = some t2)
    (hk : known t1 = true ∧ t1.size ≤ 1000000) (htb : (t2.toList == ([98, 108, 97, 110, 107, 115] : List UInt8)) = true) (hn : num t1 = 2) (e3 : excelize_zzContains.f k t2 (⟨#[98, 108, 97, 110, 107, 115]⟩ : ByteArray) = some true) (e4 : excelize_zzContainsAny.f k t2 (⟨#[42, 63]⟩ : ByteArray) = some false) :
    Calls Tryd.prog 33 #[a0, .string a1, .slice (some ad) l2.length c2] w fun e w' => ∃ v, e = .returned (.tuple #[v, .string t2, .nilIface]) ∧ Kd.R (Kd.int .i64) 3 w' w.heap.size (fun _ => True) v [2] ∧ Below w.heap.size w w' := by
  have HR := Aside0.mk hr
  have HL := Aside0.mk hl
  have E1 := Aside0.mk e1
  have E2 := Aside0.mk e2
  have E3 := Aside0.mk e3
  have E4 := Aside0.mk e4
  have HK := Aside0.mk hk
  have HN := Aside0.mk hn
  have htb2 : (t2.toList != ([98, 108, 97, 110, 107, 115] : List UInt8)) = false := by rw [bne, htb]; rfl
  have l1 : decide (1 < (l2.length : Int)) = true := decide_eq_true (by omega)
  have l2_ : decide (2 < (l2.length : Int)) = true := decide_eq_true (by omega)
  have l3 : decide (1 < l2.length) = true := decide_eq_true (by omega)
  have l4 : decide (2 < l2.length) = true := decide_eq_true (by omega)
  clear hr e1 e2 e3 e4 hk hn
  have HO := Aside0.mk (World.ownsMap_made (H := Unit) w Tryd.prog 9 (plainElem Tryd.prog 3))
  have HB := Aside0.mk (Below.refl w.heap.size w)
  have hmm := @run_makeMap Tryd.prog
  go_enter Tryd.func33, Tryd.ntmps33
  go_upto_region 2 with (first | ((with_reducible refine gate_ins rfl ?_); refine ins1 _ _ _ w.heap.size _ _ rfl rfl rfl HO.out (by omega) (by decide) (by decide) ?_; intro w1 ho hg; have n0_ := Aside0.mk ho; have n1_ := Aside0.mk (Below.grown (by repeat (first | (with_reducible first | exact HB.out | apply below_alloc | apply pw_below_drewN | apply below_drew1) | exact HB.out)) hg (below_size (by repeat (first | (with_reducible first | exact HB.out | apply below_alloc | apply pw_below_drewN | apply below_drew1) | exact HB.out))) (fun j hj => by cases hj; exact Nat.le_refl _)); clear HO HB ho hg; have HO := n0_; have HB := n1_; clear n0_ n1_))
  have HT := Aside0.mk (tab_of HO.out)
  clear HO
  have x1 := el1 HR.out HB.out HL.out
  have x2 := el2 HR.out HB.out HL.out
  go_wp2_with (first | (go_at_call 36; with_reducible refine (strings_ToLower.calls (rdOf ByteArray.empty l2 1) t1 _ E1.out).mono ?_; rintro e w2 ⟨rfl, hb⟩; have n0_ := Aside0.mk (own_below HT.out hb); clear HT; have HT := n0_; clear n0_; (have n0_ := Aside0.mk (below_step (by repeat (first | (with_reducible first | exact HB.out | apply below_alloc | apply pw_below_drewN | apply below_drew1) | exact HB.out)) hb); clear HB hb; have HB := n0_; clear n0_); (clear x1 x2; have x1 := el1 HR.out (by repeat (first | (with_reducible first | exact HB.out | apply below_alloc | apply pw_below_drewN | apply below_drew1) | exact HB.out)) HL.out; have x2 := el2 HR.out (by repeat (first | (with_reducible first | exact HB.out | apply below_alloc | apply pw_below_drewN | apply below_drew1) | exact HB.out)) HL.out)) | ((with_reducible refine gate_look rfl ?_); refine look1 _ t1 (2) w.heap.size rfl _ _ rfl rfl rfl HT.out HK.out.1 HK.out.2 HN.out ?_; clear HT) | (go_at_call 36; with_reducible refine (strings_ToLower.calls (rdOf ByteArray.empty l2 2) t2 _ E2.out).mono ?_; rintro e w2 ⟨rfl, hb⟩; (have n0_ := Aside0.mk (below_step (by repeat (first | (with_reducible first | exact HB.out | apply below_alloc | apply pw_below_drewN | apply below_drew1) | exact HB.out)) hb); clear HB hb; have HB := n0_; clear n0_); (clear x1 x2; have x1 := el1 HR.out (by repeat (first | (with_reducible first | exact HB.out | apply below_alloc | apply pw_below_drewN | apply below_drew1) | exact HB.out)) HL.out; have x2 := el2 HR.out (by repeat (first | (with_reducible first | exact HB.out | apply below_alloc | apply pw_below_drewN | apply below_drew1) | exact HB.out)) HL.out)) | (go_at_call 32; with_reducible refine (excelize_zzContains.calls k t2 (⟨#[98, 108, 97, 110, 107, 115]⟩ : ByteArray) true _ E3.out).mono ?_; rintro e w' ⟨rfl, ⟨nd, rfl⟩⟩) | (go_at_call 37; with_reducible refine (excelize_zzContainsAny.calls k t2 (⟨#[42, 63]⟩ : ByteArray) false _ E4.out).mono ?_; rintro e w' ⟨rfl, ⟨nd, rfl⟩⟩) | ((with_reducible refine gate_dst (N := 62) rfl ?_); refine Kd.R_lit (Kd.int .i64) _ 3 ?hg (N := 62) ?hd (xs := ([2] : List Int)) (inner := [.int .i64 (2)]) (ok := fun _ => True) (okp := fun _ => True) ?hr ?hp (fun _ hk => hk) trivial (Below.refl _ _) (Nat.le_refl _) (by simp) ?_; (case hd => rfl); (case hg => rfl); (case hr => first | (go_simp; done) | (go_simp; rfl)); (case hp => exact (Reps.one (show Kd.M (Kd.int .i64) _ _ _ (2) [.int .i64 (2)] from rfl) (Reps.none _ _))); intro v134 w40 ho41 hb hg_ hnew_; clear hg_ hnew_; have n1_ := Aside0.mk (Kd.R_lower ho41 (below_size (by repeat (first | (with_reducible first | exact HB.out | apply below_alloc | apply pw_below_drewN | apply below_drew1) | exact HB.out)))); have n2_ := Aside0.mk (below_step (by repeat (first | (with_reducible first | exact HB.out | apply below_alloc | apply pw_below_drewN | apply below_drew1) | exact HB.out)) hb); clear HB; have HO135 := n1_; have HB := n2_; clear n1_ n2_; clear hb ho41))
  go_ret3
  exact ⟨_, by first | rfl | (simp <;> rfl) | (simp [*] <;> rfl), by (with_reducible repeat (first | apply Kd.R_alloc | apply Kd.R_drewN | apply Kd.R_drew)); exact HO135.out, by repeat (first | (with_reducible first | exact HB.out | apply below_alloc | apply pw_below_drewN | apply below_drew1) | exact HB.out)⟩

set_option maxHeartbeats 4000000 in
set_option maxRecDepth 100000 in
theorem tok_g (k : Nat) (a0 : Value) (a1 : ByteArray) (ad : Addr) (c2 : Nat) (l2 : List ByteArray) (t1 t2 : ByteArray) (w : World) (hr : Kd.C Kd.string w (some ad) l2.length l2) (hl : 2 < (l2.length : Int)) (e1 : strings_ToLower.f (rdOf ByteArray.empty l2 1) = some t1) (e2 : strings_ToLower.f (rdOf ByteArray.empty l2 2) = some t2)
    (hk : known t1 = true ∧ t1.size ≤ 1000000) (q : Bool) (htb : (t2.toList == ([98, 108, 97, 110, 107, 115] : List UInt8)) = false) (hn : num t1 = 2) (e3 : excelize_zzContains.f k t2 (⟨#[98, 108, 97, 110, 107, 115]⟩ : ByteArray) = some true) (e4 : excelize_zzContainsAny.f k (⟨#[32]⟩ : ByteArray) (⟨#[42, 63]⟩ : ByteArray) = some q) :
    Calls Tryd.prog 33 #[a0, .string a1, .slice (some ad) l2.length c2] w fun e w' => ∃ v, e = .returned (.tuple #[v, .string (⟨#[32]⟩ : ByteArray), .nilIface]) ∧ Kd.R (Kd.int .i64) 3 w' w.heap.size (fun _ => True) v [5] ∧ Below w.heap.size w w' := by
  have HR := Aside0.mk hr
  have HL := Aside0.mk hl
  have E1 := Aside0.mk e1
  have E2 := Aside0.mk e2
  have E3 := Aside0.mk e3
  have E4 := Aside0.mk e4
  have HK := Aside0.mk hk
  have HN := Aside0.mk hn
  have htb2 : (t2.toList != ([98, 108, 97, 110, 107, 115] : List UInt8)) = true := by rw [bne, htb]; rfl
  have l1 : decide (1 < (l2.length : Int)) = true := decide_eq_true (by omega)
  have l2_ : decide (2 < (l2.length : Int)) = true := decide_eq_true (by omega)
  have l3 : decide (1 < l2.length) = true := decide_eq_true (by omega)
  have l4 : decide (2 < l2.length) = true := decide_eq_true (by omega)
  clear hr e1 e2 e3 e4 hk hn
  have HO := Aside0.mk (World.ownsMap_made (H := Unit) w Tryd.prog 9 (plainElem Tryd.prog 3))
  have HB := Aside0.mk (Below.refl w.heap.size w)
  have hmm := @run_makeMap Tryd.prog
  go_enter Tryd.func33, Tryd.ntmps33
  go_upto_region 2 with (first | ((with_reducible refine gate_ins rfl ?_); refine ins1 _ _ _ w.heap.size _ _ rfl rfl rfl HO.out (by omega) (by decide) (by decide) ?_; intro w1 ho hg; have n0_ := Aside0.mk ho; have n1_ := Aside0.mk (Below.grown (by repeat (first | (with_reducible first | exact HB.out | apply below_alloc | apply pw_below_drewN | apply below_drew1) | exact HB.out)) hg (below_size (by repeat (first | (with_reducible first | exact HB.out | apply below_alloc | apply pw_below_drewN | apply below_drew1) | exact HB.out))) (fun j hj => by cases hj; exact Nat.le_refl _)); clear HO HB ho hg; have HO := n0_; have HB := n1_; clear n0_ n1_))
  have HT := Aside0.mk (tab_of HO.out)
  clear HO
  have x1 := el1 HR.out HB.out HL.out
  have x2 := el2 HR.out HB.out HL.out
  go_wp2_with (first | (go_at_call 36; with_reducible refine (strings_ToLower.calls (rdOf ByteArray.empty l2 1) t1 _ E1.out).mono ?_; rintro e w2 ⟨rfl, hb⟩; have n0_ := Aside0.mk (own_below HT.out hb); clear HT; have HT := n0_; clear n0_; (have n0_ := Aside0.mk (below_step (by repeat (first | (with_reducible first | exact HB.out | apply below_alloc | apply pw_below_drewN | apply below_drew1) | exact HB.out)) hb); clear HB hb; have HB := n0_; clear n0_); (clear x1 x2; have x1 := el1 HR.out (by repeat (first | (with_reducible first | exact HB.out | apply below_alloc | apply pw_below_drewN | apply below_drew1) | exact HB.out)) HL.out; have x2 := el2 HR.out (by repeat (first | (with_reducible first | exact HB.out | apply below_alloc | apply pw_below_drewN | apply below_drew1) | exact HB.out)) HL.out)) | ((with_reducible refine gate_look rfl ?_); refine look1 _ t1 (2) w.heap.size rfl _ _ rfl rfl rfl HT.out HK.out.1 HK.out.2 HN.out ?_; clear HT) | (go_at_call 36; with_reducible refine (strings_ToLower.calls (rdOf ByteArray.empty l2 2) t2 _ E2.out).mono ?_; rintro e w2 ⟨rfl, hb⟩; (have n0_ := Aside0.mk (below_step (by repeat (first | (with_reducible first | exact HB.out | apply below_alloc | apply pw_below_drewN | apply below_drew1) | exact HB.out)) hb); clear HB hb; have HB := n0_; clear n0_); (clear x1 x2; have x1 := el1 HR.out (by repeat (first | (with_reducible first | exact HB.out | apply below_alloc | apply pw_below_drewN | apply below_drew1) | exact HB.out)) HL.out; have x2 := el2 HR.out (by repeat (first | (with_reducible first | exact HB.out | apply below_alloc | apply pw_below_drewN | apply below_drew1) | exact HB.out)) HL.out)) | (go_at_call 32; with_reducible refine (excelize_zzContains.calls k t2 (⟨#[98, 108, 97, 110, 107, 115]⟩ : ByteArray) true _ E3.out).mono ?_; rintro e w' ⟨rfl, ⟨nd, rfl⟩⟩) | (go_at_call 37; with_reducible refine (excelize_zzContainsAny.calls k (⟨#[32]⟩ : ByteArray) (⟨#[42, 63]⟩ : ByteArray) q _ E4.out).mono ?_; rintro e w' ⟨rfl, ⟨nd, rfl⟩⟩) | ((with_reducible refine gate_dst (N := 62) rfl ?_); refine Kd.R_lit (Kd.int .i64) _ 3 ?hg (N := 62) ?hd (xs := ([5] : List Int)) (inner := [.int .i64 (5)]) (ok := fun _ => True) (okp := fun _ => True) ?hr ?hp (fun _ hk => hk) trivial (Below.refl _ _) (Nat.le_refl _) (by simp) ?_; (case hd => rfl); (case hg => rfl); (case hr => first | (go_simp; done) | (go_simp; rfl)); (case hp => exact (Reps.one (show Kd.M (Kd.int .i64) _ _ _ (5) [.int .i64 (5)] from rfl) (Reps.none _ _))); intro v134 w40 ho41 hb hg_ hnew_; clear hg_ hnew_; have n1_ := Aside0.mk (Kd.R_lower ho41 (below_size (by repeat (first | (with_reducible first | exact HB.out | apply below_alloc | apply pw_below_drewN | apply below_drew1) | exact HB.out)))); have n2_ := Aside0.mk (below_step (by repeat (first | (with_reducible first | exact HB.out | apply below_alloc | apply pw_below_drewN | apply below_drew1) | exact HB.out)) hb); clear HB; have HO135 := n1_; have HB := n2_; clear n1_ n2_; clear hb ho41))
  go_ret3
  exact ⟨_, by first | rfl | (simp <;> rfl) | (simp [*] <;> rfl), by (with_reducible repeat (first | apply Kd.R_alloc | apply Kd.R_drewN | apply Kd.R_drew)); exact HO135.out, by repeat (first | (with_reducible first | exact HB.out | apply below_alloc | apply pw_below_drewN | apply below_drew1) | exact HB.out)⟩

set_option maxHeartbeats 4000000 in
set_option maxRecDepth 100000 in
theorem tok_h (k : Nat) (a0 : Value) (a1 : ByteArray) (ad : Addr) (c2 : Nat) (l2 : List ByteArray) (t1 t2 : ByteArray) (w : World) (hr : Kd.C Kd.string w (some ad) l2.length l2) (hl : 2 < (l2.length : Int)) (e1 : strings_ToLower.f (rdOf ByteArray.empty l2 1) = some t1) (e2 : strings_ToLower.f (rdOf ByteArray.empty l2 2) = some t2)
    (hk : known t1 = true ∧ t1.size ≤ 1000000) (q : Bool) (htb : (t2.toList == ([98, 108, 97, 110, 107, 115] : List UInt8)) = true) (hn : num t1 = 5) (e3 : excelize_zzContains.f k t2 (⟨#[98, 108, 97, 110, 107, 115]⟩ : ByteArray) = some true) (e4 : excelize_zzContainsAny.f k (⟨#[32]⟩ : ByteArray) (⟨#[42, 63]⟩ : ByteArray) = some q) :
    Calls Tryd.prog 33 #[a0, .string a1, .slice (some ad) l2.length c2] w fun e w' => ∃ v, e = .returned (.tuple #[v, .string (⟨#[32]⟩ : ByteArray), .nilIface]) ∧ Kd.R (Kd.int .i64) 3 w' w.heap.size (fun _ => True) v [5] ∧ Below w.heap.size w w' := by
  have HR := Aside0.mk hr
  have HL := Aside0.mk hl
  have E1 := Aside0.mk e1
  have E2 := Aside0.mk e2
  have E3 := Aside0.mk e3
  have E4 := Aside0.mk e4
  have HK := Aside0.mk hk
  have HN := Aside0.mk hn
  have htb2 : (t2.toList != ([98, 108, 97, 110, 107, 115] : List UInt8)) = false := by rw [bne, htb]; rfl
  have l1 : decide (1 < (l2.length : Int)) = true := decide_eq_true (by omega)
  have l2_ : decide (2 < (l2.length : Int)) = true := decide_eq_true (by omega)
  have l3 : decide (1 < l2.length) = true := decide_eq_true (by omega)
  have l4 : decide (2 < l2.length) = true := decide_eq_true (by omega)
  clear hr e1 e2 e3 e4 hk hn
  have HO := Aside0.mk (World.ownsMap_made (H := Unit) w Tryd.prog 9 (plainElem Tryd.prog 3))
  have HB := Aside0.mk (Below.refl w.heap.size w)
  have hmm := @run_makeMap Tryd.prog
  go_enter Tryd.func33, Tryd.ntmps33
  go_upto_region 2 with (first | ((with_reducible refine gate_ins rfl ?_); refine ins1 _ _ _ w.heap.size _ _ rfl rfl rfl HO.out (by omega) (by decide) (by decide) ?_; intro w1 ho hg; have n0_ := Aside0.mk ho; have n1_ := Aside0.mk (Below.grown (by repeat (first | (with_reducible first | exact HB.out | apply below_alloc | apply pw_below_drewN | apply below_drew1) | exact HB.out)) hg (below_size (by repeat (first | (with_reducible first | exact HB.out | apply below_alloc | apply pw_below_drewN | apply below_drew1) | exact HB.out))) (fun j hj => by cases hj; exact Nat.le_refl _)); clear HO HB ho hg; have HO := n0_; have HB := n1_; clear n0_ n1_))
  have HT := Aside0.mk (tab_of HO.out)
  clear HO
  have x1 := el1 HR.out HB.out HL.out
  have x2 := el2 HR.out HB.out HL.out
  go_wp2_with (first | (go_at_call 36; with_reducible refine (strings_ToLower.calls (rdOf ByteArray.empty l2 1) t1 _ E1.out).mono ?_; rintro e w2 ⟨rfl, hb⟩; have n0_ := Aside0.mk (own_below HT.out hb); clear HT; have HT := n0_; clear n0_; (have n0_ := Aside0.mk (below_step (by repeat (first | (with_reducible first | exact HB.out | apply below_alloc | apply pw_below_drewN | apply below_drew1) | exact HB.out)) hb); clear HB hb; have HB := n0_; clear n0_); (clear x1 x2; have x1 := el1 HR.out (by repeat (first | (with_reducible first | exact HB.out | apply below_alloc | apply pw_below_drewN | apply below_drew1) | exact HB.out)) HL.out; have x2 := el2 HR.out (by repeat (first | (with_reducible first | exact HB.out | apply below_alloc | apply pw_below_drewN | apply below_drew1) | exact HB.out)) HL.out)) | ((with_reducible refine gate_look rfl ?_); refine look1 _ t1 (5) w.heap.size rfl _ _ rfl rfl rfl HT.out HK.out.1 HK.out.2 HN.out ?_; clear HT) | (go_at_call 36; with_reducible refine (strings_ToLower.calls (rdOf ByteArray.empty l2 2) t2 _ E2.out).mono ?_; rintro e w2 ⟨rfl, hb⟩; (have n0_ := Aside0.mk (below_step (by repeat (first | (with_reducible first | exact HB.out | apply below_alloc | apply pw_below_drewN | apply below_drew1) | exact HB.out)) hb); clear HB hb; have HB := n0_; clear n0_); (clear x1 x2; have x1 := el1 HR.out (by repeat (first | (with_reducible first | exact HB.out | apply below_alloc | apply pw_below_drewN | apply below_drew1) | exact HB.out)) HL.out; have x2 := el2 HR.out (by repeat (first | (with_reducible first | exact HB.out | apply below_alloc | apply pw_below_drewN | apply below_drew1) | exact HB.out)) HL.out)) | (go_at_call 32; with_reducible refine (excelize_zzContains.calls k t2 (⟨#[98, 108, 97, 110, 107, 115]⟩ : ByteArray) true _ E3.out).mono ?_; rintro e w' ⟨rfl, ⟨nd, rfl⟩⟩) | (go_at_call 37; with_reducible refine (excelize_zzContainsAny.calls k (⟨#[32]⟩ : ByteArray) (⟨#[42, 63]⟩ : ByteArray) q _ E4.out).mono ?_; rintro e w' ⟨rfl, ⟨nd, rfl⟩⟩) | ((with_reducible refine gate_dst (N := 62) rfl ?_); refine Kd.R_lit (Kd.int .i64) _ 3 ?hg (N := 62) ?hd (xs := ([5] : List Int)) (inner := [.int .i64 (5)]) (ok := fun _ => True) (okp := fun _ => True) ?hr ?hp (fun _ hk => hk) trivial (Below.refl _ _) (Nat.le_refl _) (by simp) ?_; (case hd => rfl); (case hg => rfl); (case hr => first | (go_simp; done) | (go_simp; rfl)); (case hp => exact (Reps.one (show Kd.M (Kd.int .i64) _ _ _ (5) [.int .i64 (5)] from rfl) (Reps.none _ _))); intro v134 w40 ho41 hb hg_ hnew_; clear hg_ hnew_; have n1_ := Aside0.mk (Kd.R_lower ho41 (below_size (by repeat (first | (with_reducible first | exact HB.out | apply below_alloc | apply pw_below_drewN | apply below_drew1) | exact HB.out)))); have n2_ := Aside0.mk (below_step (by repeat (first | (with_reducible first | exact HB.out | apply below_alloc | apply pw_below_drewN | apply below_drew1) | exact HB.out)) hb); clear HB; have HO135 := n1_; have HB := n2_; clear n1_ n2_; clear hb ho41))
  go_ret3
  exact ⟨_, by first | rfl | (simp <;> rfl) | (simp [*] <;> rfl), by (with_reducible repeat (first | apply Kd.R_alloc | apply Kd.R_drewN | apply Kd.R_drew)); exact HO135.out, by repeat (first | (with_reducible first | exact HB.out | apply below_alloc | apply pw_below_drewN | apply below_drew1) | exact HB.out)⟩

set_option maxHeartbeats 4000000 in
set_option maxRecDepth 100000 in
theorem tok_i (k : Nat) (a0 : Value) (a1 : ByteArray) (ad : Addr) (c2 : Nat) (l2 : List ByteArray) (t1 t2 : ByteArray) (w : World) (hr : Kd.C Kd.string w (some ad) l2.length l2) (hl : 2 < (l2.length : Int)) (e1 : strings_ToLower.f (rdOf ByteArray.empty l2 1) = some t1) (e2 : strings_ToLower.f (rdOf ByteArray.empty l2 2) = some t2)
    (hk : known t1 = true ∧ t1.size ≤ 1000000) (htb : (t2.toList == ([98, 108, 97, 110, 107, 115] : List UInt8)) = false) (hn : num t1 = 5) (e3 : excelize_zzContains.f k t2 (⟨#[98, 108, 97, 110, 107, 115]⟩ : ByteArray) = some true) (e4 : excelize_zzContainsAny.f k (⟨#[98, 108, 97, 110, 107, 115]⟩ : ByteArray) (⟨#[42, 63]⟩ : ByteArray) = some true) :
    Calls Tryd.prog 33 #[a0, .string a1, .slice (some ad) l2.length c2] w fun e w' => ∃ v, e = .returned (.tuple #[v, .string (⟨#[98, 108, 97, 110, 107, 115]⟩ : ByteArray), .nilIface]) ∧ Kd.R (Kd.int .i64) 3 w' w.heap.size (fun _ => True) v [22] ∧ Below w.heap.size w w' := by
  have HR := Aside0.mk hr
  have HL := Aside0.mk hl
  have E1 := Aside0.mk e1
  have E2 := Aside0.mk e2
  have E3 := Aside0.mk e3
  have E4 := Aside0.mk e4
  have HK := Aside0.mk hk
  have HN := Aside0.mk hn
  have htb2 : (t2.toList != ([98, 108, 97, 110, 107, 115] : List UInt8)) = true := by rw [bne, htb]; rfl
  have l1 : decide (1 < (l2.length : Int)) = true := decide_eq_true (by omega)
  have l2_ : decide (2 < (l2.length : Int)) = true := decide_eq_true (by omega)
  have l3 : decide (1 < l2.length) = true := decide_eq_true (by omega)
  have l4 : decide (2 < l2.length) = true := decide_eq_true (by omega)
  clear hr e1 e2 e3 e4 hk hn
  have HO := Aside0.mk (World.ownsMap_made (H := Unit) w Tryd.prog 9 (plainElem Tryd.prog 3))
  have HB := Aside0.mk (Below.refl w.heap.size w)
  have hmm := @run_makeMap Tryd.prog
  go_enter Tryd.func33, Tryd.ntmps33
  go_upto_region 2 with (first | ((with_reducible refine gate_ins rfl ?_); refine ins1 _ _ _ w.heap.size _ _ rfl rfl rfl HO.out (by omega) (by decide) (by decide) ?_; intro w1 ho hg; have n0_ := Aside0.mk ho; have n1_ := Aside0.mk (Below.grown (by repeat (first | (with_reducible first | exact HB.out | apply below_alloc | apply pw_below_drewN | apply below_drew1) | exact HB.out)) hg (below_size (by repeat (first | (with_reducible first | exact HB.out | apply below_alloc | apply pw_below_drewN | apply below_drew1) | exact HB.out))) (fun j hj => by cases hj; exact Nat.le_refl _)); clear HO HB ho hg; have HO := n0_; have HB := n1_; clear n0_ n1_))
  have HT := Aside0.mk (tab_of HO.out)
  clear HO
  have x1 := el1 HR.out HB.out HL.out
  have x2 := el2 HR.out HB.out HL.out
  go_wp2_with (first | (go_at_call 36; with_reducible refine (strings_ToLower.calls (rdOf ByteArray.empty l2 1) t1 _ E1.out).mono ?_; rintro e w2 ⟨rfl, hb⟩; have n0_ := Aside0.mk (own_below HT.out hb); clear HT; have HT := n0_; clear n0_; (have n0_ := Aside0.mk (below_step (by repeat (first | (with_reducible first | exact HB.out | apply below_alloc | apply pw_below_drewN | apply below_drew1) | exact HB.out)) hb); clear HB hb; have HB := n0_; clear n0_); (clear x1 x2; have x1 := el1 HR.out (by repeat (first | (with_reducible first | exact HB.out | apply below_alloc | apply pw_below_drewN | apply below_drew1) | exact HB.out)) HL.out; have x2 := el2 HR.out (by repeat (first | (with_reducible first | exact HB.out | apply below_alloc | apply pw_below_drewN | apply below_drew1) | exact HB.out)) HL.out)) | ((with_reducible refine gate_look rfl ?_); refine look1 _ t1 (5) w.heap.size rfl _ _ rfl rfl rfl HT.out HK.out.1 HK.out.2 HN.out ?_; clear HT) | (go_at_call 36; with_reducible refine (strings_ToLower.calls (rdOf ByteArray.empty l2 2) t2 _ E2.out).mono ?_; rintro e w2 ⟨rfl, hb⟩; (have n0_ := Aside0.mk (below_step (by repeat (first | (with_reducible first | exact HB.out | apply below_alloc | apply pw_below_drewN | apply below_drew1) | exact HB.out)) hb); clear HB hb; have HB := n0_; clear n0_); (clear x1 x2; have x1 := el1 HR.out (by repeat (first | (with_reducible first | exact HB.out | apply below_alloc | apply pw_below_drewN | apply below_drew1) | exact HB.out)) HL.out; have x2 := el2 HR.out (by repeat (first | (with_reducible first | exact HB.out | apply below_alloc | apply pw_below_drewN | apply below_drew1) | exact HB.out)) HL.out)) | (go_at_call 32; with_reducible refine (excelize_zzContains.calls k t2 (⟨#[98, 108, 97, 110, 107, 115]⟩ : ByteArray) true _ E3.out).mono ?_; rintro e w' ⟨rfl, ⟨nd, rfl⟩⟩) | (go_at_call 37; with_reducible refine (excelize_zzContainsAny.calls k (⟨#[98, 108, 97, 110, 107, 115]⟩ : ByteArray) (⟨#[42, 63]⟩ : ByteArray) true _ E4.out).mono ?_; rintro e w' ⟨rfl, ⟨nd, rfl⟩⟩) | ((with_reducible refine gate_dst (N := 62) rfl ?_); refine Kd.R_lit (Kd.int .i64) _ 3 ?hg (N := 62) ?hd (xs := ([22] : List Int)) (inner := [.int .i64 (22)]) (ok := fun _ => True) (okp := fun _ => True) ?hr ?hp (fun _ hk => hk) trivial (Below.refl _ _) (Nat.le_refl _) (by simp) ?_; (case hd => rfl); (case hg => rfl); (case hr => first | (go_simp; done) | (go_simp; rfl)); (case hp => exact (Reps.one (show Kd.M (Kd.int .i64) _ _ _ (22) [.int .i64 (22)] from rfl) (Reps.none _ _))); intro v134 w40 ho41 hb hg_ hnew_; clear hg_ hnew_; have n1_ := Aside0.mk (Kd.R_lower ho41 (below_size (by repeat (first | (with_reducible first | exact HB.out | apply below_alloc | apply pw_below_drewN | apply below_drew1) | exact HB.out)))); have n2_ := Aside0.mk (below_step (by repeat (first | (with_reducible first | exact HB.out | apply below_alloc | apply pw_below_drewN | apply below_drew1) | exact HB.out)) hb); clear HB; have HO135 := n1_; have HB := n2_; clear n1_ n2_; clear hb ho41))
  go_ret3
  exact ⟨_, by first | rfl | (simp <;> rfl) | (simp [*] <;> rfl), by (with_reducible repeat (first | apply Kd.R_alloc | apply Kd.R_drewN | apply Kd.R_drew)); exact HO135.out, by repeat (first | (with_reducible first | exact HB.out | apply below_alloc | apply pw_below_drewN | apply below_drew1) | exact HB.out)⟩

set_option maxHeartbeats 4000000 in
set_option maxRecDepth 100000 in
theorem tok_j (k : Nat) (a0 : Value) (a1 : ByteArray) (ad : Addr) (c2 : Nat) (l2 : List ByteArray) (t1 t2 : ByteArray) (w : World) (hr : Kd.C Kd.string w (some ad) l2.length l2) (hl : 2 < (l2.length : Int)) (e1 : strings_ToLower.f (rdOf ByteArray.empty l2 1) = some t1) (e2 : strings_ToLower.f (rdOf ByteArray.empty l2 2) = some t2)
    (hk : known t1 = true ∧ t1.size ≤ 1000000) (htb : (t2.toList == ([98, 108, 97, 110, 107, 115] : List UInt8)) = false) (hn : num t1 = 5) (e3 : excelize_zzContains.f k t2 (⟨#[98, 108, 97, 110, 107, 115]⟩ : ByteArray) = some true) (e4 : excelize_zzContainsAny.f k (⟨#[98, 108, 97, 110, 107, 115]⟩ : ByteArray) (⟨#[42, 63]⟩ : ByteArray) = some false) :
    Calls Tryd.prog 33 #[a0, .string a1, .slice (some ad) l2.length c2] w fun e w' => ∃ v, e = .returned (.tuple #[v, .string (⟨#[98, 108, 97, 110, 107, 115]⟩ : ByteArray), .nilIface]) ∧ Kd.R (Kd.int .i64) 3 w' w.heap.size (fun _ => True) v [2] ∧ Below w.heap.size w w' := by
  have HR := Aside0.mk hr
  have HL := Aside0.mk hl
  have E1 := Aside0.mk e1
  have E2 := Aside0.mk e2
  have E3 := Aside0.mk e3
  have E4 := Aside0.mk e4
  have HK := Aside0.mk hk
  have HN := Aside0.mk hn
  have htb2 : (t2.toList != ([98, 108, 97, 110, 107, 115] : List UInt8)) = true := by rw [bne, htb]; rfl
  have l1 : decide (1 < (l2.length : Int)) = true := decide_eq_true (by omega)
  have l2_ : decide (2 < (l2.length : Int)) = true := decide_eq_true (by omega)
  have l3 : decide (1 < l2.length) = true := decide_eq_true (by omega)
  have l4 : decide (2 < l2.length) = true := decide_eq_true (by omega)
  clear hr e1 e2 e3 e4 hk hn
  have HO := Aside0.mk (World.ownsMap_made (H := Unit) w Tryd.prog 9 (plainElem Tryd.prog 3))
  have HB := Aside0.mk (Below.refl w.heap.size w)
  have hmm := @run_makeMap Tryd.prog
  go_enter Tryd.func33, Tryd.ntmps33
  go_upto_region 2 with (first | ((with_reducible refine gate_ins rfl ?_); refine ins1 _ _ _ w.heap.size _ _ rfl rfl rfl HO.out (by omega) (by decide) (by decide) ?_; intro w1 ho hg; have n0_ := Aside0.mk ho; have n1_ := Aside0.mk (Below.grown (by repeat (first | (with_reducible first | exact HB.out | apply below_alloc | apply pw_below_drewN | apply below_drew1) | exact HB.out)) hg (below_size (by repeat (first | (with_reducible first | exact HB.out | apply below_alloc | apply pw_below_drewN | apply below_drew1) | exact HB.out))) (fun j hj => by cases hj; exact Nat.le_refl _)); clear HO HB ho hg; have HO := n0_; have HB := n1_; clear n0_ n1_))
  have HT := Aside0.mk (tab_of HO.out)
  clear HO
  have x1 := el1 HR.out HB.out HL.out
  have x2 := el2 HR.out HB.out HL.out
  go_wp2_with (first | (go_at_call 36; with_reducible refine (strings_ToLower.calls (rdOf ByteArray.empty l2 1) t1 _ E1.out).mono ?_; rintro e w2 ⟨rfl, hb⟩; have n0_ := Aside0.mk (own_below HT.out hb); clear HT; have HT := n0_; clear n0_; (have n0_ := Aside0.mk (below_step (by repeat (first | (with_reducible first | exact HB.out | apply below_alloc | apply pw_below_drewN | apply below_drew1) | exact HB.out)) hb); clear HB hb; have HB := n0_; clear n0_); (clear x1 x2; have x1 := el1 HR.out (by repeat (first | (with_reducible first | exact HB.out | apply below_alloc | apply pw_below_drewN | apply below_drew1) | exact HB.out)) HL.out; have x2 := el2 HR.out (by repeat (first | (with_reducible first | exact HB.out | apply below_alloc | apply pw_below_drewN | apply below_drew1) | exact HB.out)) HL.out)) | ((with_reducible refine gate_look rfl ?_); refine look1 _ t1 (5) w.heap.size rfl _ _ rfl rfl rfl HT.out HK.out.1 HK.out.2 HN.out ?_; clear HT) | (go_at_call 36; with_reducible refine (strings_ToLower.calls (rdOf ByteArray.empty l2 2) t2 _ E2.out).mono ?_; rintro e w2 ⟨rfl, hb⟩; (have n0_ := Aside0.mk (below_step (by repeat (first | (with_reducible first | exact HB.out | apply below_alloc | apply pw_below_drewN | apply below_drew1) | exact HB.out)) hb); clear HB hb; have HB := n0_; clear n0_); (clear x1 x2; have x1 := el1 HR.out (by repeat (first | (with_reducible first | exact HB.out | apply below_alloc | apply pw_below_drewN | apply below_drew1) | exact HB.out)) HL.out; have x2 := el2 HR.out (by repeat (first | (with_reducible first | exact HB.out | apply below_alloc | apply pw_below_drewN | apply below_drew1) | exact HB.out)) HL.out)) | (go_at_call 32; with_reducible refine (excelize_zzContains.calls k t2 (⟨#[98, 108, 97, 110, 107, 115]⟩ : ByteArray) true _ E3.out).mono ?_; rintro e w' ⟨rfl, ⟨nd, rfl⟩⟩) | (go_at_call 37; with_reducible refine (excelize_zzContainsAny.calls k (⟨#[98, 108, 97, 110, 107, 115]⟩ : ByteArray) (⟨#[42, 63]⟩ : ByteArray) false _ E4.out).mono ?_; rintro e w' ⟨rfl, ⟨nd, rfl⟩⟩) | ((with_reducible refine gate_dst (N := 62) rfl ?_); refine Kd.R_lit (Kd.int .i64) _ 3 ?hg (N := 62) ?hd (xs := ([2] : List Int)) (inner := [.int .i64 (2)]) (ok := fun _ => True) (okp := fun _ => True) ?hr ?hp (fun _ hk => hk) trivial (Below.refl _ _) (Nat.le_refl _) (by simp) ?_; (case hd => rfl); (case hg => rfl); (case hr => first | (go_simp; done) | (go_simp; rfl)); (case hp => exact (Reps.one (show Kd.M (Kd.int .i64) _ _ _ (2) [.int .i64 (2)] from rfl) (Reps.none _ _))); intro v134 w40 ho41 hb hg_ hnew_; clear hg_ hnew_; have n1_ := Aside0.mk (Kd.R_lower ho41 (below_size (by repeat (first | (with_reducible first | exact HB.out | apply below_alloc | apply pw_below_drewN | apply below_drew1) | exact HB.out)))); have n2_ := Aside0.mk (below_step (by repeat (first | (with_reducible first | exact HB.out | apply below_alloc | apply pw_below_drewN | apply below_drew1) | exact HB.out)) hb); clear HB; have HO135 := n1_; have HB := n2_; clear n1_ n2_; clear hb ho41))
  go_ret3
  exact ⟨_, by first | rfl | (simp <;> rfl) | (simp [*] <;> rfl), by (with_reducible repeat (first | apply Kd.R_alloc | apply Kd.R_drewN | apply Kd.R_drew)); exact HO135.out, by repeat (first | (with_reducible first | exact HB.out | apply below_alloc | apply pw_below_drewN | apply below_drew1) | exact HB.out)⟩

def errV : Option Int → Value
  | none => .nilIface
  | some c => .iface 0 (.int .i64 c)
theorem errV_none : errV none = .nilIface := rfl
theorem errV_some (c : Int) : errV (some c) = .iface 0 (.int .i64 c) := rfl
theorem excelize_File_parseFilterTokens.calls (k : Nat) (a0 : Value) (a1 : ByteArray) (A2 : Option Addr) (c2 : Nat) (l2 : List ByteArray) (r1 : List Int) (r2 : ByteArray) (r3 : Option Int) (w : World) (hr2 : Kd.C Kd.string w A2 l2.length l2) (hc2 : l2.length ≤ c2) (h : excelize_File_parseFilterTokens.f k a0 a1 l2 = some (r1, r2, r3)) :
    Calls Tryd.prog 33 #[a0, .string a1, .slice A2 l2.length c2] w fun e w' => ∃ v, e = .returned (.tuple #[v, .string r2, errV r3]) ∧ Kd.R (Kd.int .i64) 3 w' w.heap.size (fun _ => True) v r1 ∧ Below w.heap.size w w' := by
  unfold excelize_File_parseFilterTokens.f at h
  by_cases hl : 2 < (l2.length : Int)
  · rw [if_pos hl] at h
    obtain ⟨t1, e1, h⟩ := Option.bind_eq_some_iff.mp h
    by_cases hk : known t1 = true ∧ t1.size ≤ 1000000
    · rw [if_pos hk] at h
      obtain ⟨t2, e2, h⟩ := Option.bind_eq_some_iff.mp h
      obtain ⟨ad, rfl, _⟩ := Kd.at_string hr2 1 (by omega) (by omega)
      unfold fin fin2 at h
      obtain ⟨re, e3, h⟩ := Option.bind_eq_some_iff.mp h
      have T : ∀ (n : Int) (t : ByteArray), ((excelize_zzContainsAny.f k t (⟨#[42, 63]⟩ : ByteArray)).bind fun q => some (([if n = 2 ∧ q = true then 22 else n] : List Int), t, (none : Option Int))) = some (r1, r2, r3) → ∃ q, excelize_zzContainsAny.f k t (⟨#[42, 63]⟩ : ByteArray) = some q ∧ r1 = [if n = 2 ∧ q = true then 22 else n] ∧ r2 = t ∧ r3 = none := by
        intro n t h
        obtain ⟨q, e4, h⟩ := Option.bind_eq_some_iff.mp h
        have h := Option.some.inj h
        exact ⟨q, e4, (congrArg Prod.fst h).symm, (congrArg (fun x => x.2.1) h).symm, (congrArg (fun x => x.2.2) h).symm⟩
      cases re
      · rw [if_neg (by decide)] at h
        obtain ⟨q, e4, rfl, rfl, rfl⟩ := T _ _ h
        by_cases hn : num t1 = 2
        · cases q
          · rw [if_neg (by simp), hn]; exact tok_b k a0 a1 ad c2 l2 t1 t2 w hr2 hl e1 e2 hk hn e3 e4
          · rw [if_pos ⟨hn, rfl⟩]; exact tok_a k a0 a1 ad c2 l2 t1 t2 w hr2 hl e1 e2 hk hn e3 e4
        · rw [if_neg (fun h => hn h.1)]; exact tok_c k a0 a1 ad c2 l2 t1 t2 w hr2 hl e1 e2 hk (num t1) (beq_eq_false_iff_ne.mpr hn) q rfl e3 e4
      · rw [if_pos rfl] at h
        by_cases hn : num t1 = 2
        · rw [if_pos hn] at h
          cases hb : (t2.toList == ([98, 108, 97, 110, 107, 115] : List UInt8))
          · rw [hb, if_neg (by decide)] at h
            obtain ⟨q, e4, rfl, rfl, rfl⟩ := T _ _ h
            rw [if_neg (by omega)]; exact tok_g k a0 a1 ad c2 l2 t1 t2 w hr2 hl e1 e2 hk q hb hn e3 e4
          · rw [hb, if_pos rfl] at h
            obtain ⟨q, e4, rfl, rfl, rfl⟩ := T _ _ h
            cases q
            · rw [if_neg (by simp)]; exact tok_e k a0 a1 ad c2 l2 t1 r2 w hr2 hl e1 e2 hk hb hn e3 e4
            · rw [if_pos ⟨rfl, rfl⟩]; exact tok_d k a0 a1 ad c2 l2 t1 r2 w hr2 hl e1 e2 hk hb hn e3 e4
        · rw [if_neg hn] at h
          by_cases hn5 : num t1 = 5
          · rw [if_pos hn5] at h
            cases hb : (t2.toList == ([98, 108, 97, 110, 107, 115] : List UInt8))
            · rw [hb, if_neg (by decide)] at h
              obtain ⟨q, e4, rfl, rfl, rfl⟩ := T _ _ h
              cases q
              · rw [if_neg (by simp)]; exact tok_j k a0 a1 ad c2 l2 t1 t2 w hr2 hl e1 e2 hk hb hn5 e3 e4
              · rw [if_pos ⟨rfl, rfl⟩]; exact tok_i k a0 a1 ad c2 l2 t1 t2 w hr2 hl e1 e2 hk hb hn5 e3 e4
            · rw [hb, if_pos rfl] at h
              obtain ⟨q, e4, rfl, rfl, rfl⟩ := T _ _ h
              rw [if_neg (by omega)]; exact tok_h k a0 a1 ad c2 l2 t1 t2 w hr2 hl e1 e2 hk q hb hn5 e3 e4
          · rw [if_neg hn5] at h; cases h
    · rw [if_neg hk] at h; cases h
  · rw [if_neg hl] at h; cases h
end Go.Proofs.YtjefbpfpobgmaaaDoor.FwTok
