/- The package's adjustFormulaOperand by hand: its loop over the bytes of a reference as steps of a plain machine, the door and the thin package's function. Conditions: the letters' and digits' entries of unicode.properties. -/
import Derived.Test.YtfbenlenihlpbaaDoorPOa
import Derived.Test.YtfbenlenihlpbaaDoorAlnum
import Derived.Test.YtfbenlenihlpbaaDoorGivenC
import Derived.Test.YtfbenlenihlpbaaDoorPFnColsx1
import Derived.Laws.Runes
import Derived.Laws.RangeString
import Derived.Lib.OthersKept
import Derived.Deep.LoopGhost
import Derived.Test.YtfbenlenihlpbaaDoorEx
section
namespace Go.Proofs.YtfbenlenihlpbaaDoor.OpW
open Go.RowKit Go.Proofs.YtfbenlenihlpbaaDoorW.PrintWords Go.Proofs.YtfbenlenihlpbaaDoorW.PrintLast Go.Proofs.YtfbenlenihlpbaaDoorW.PrintMore
open Go.Proofs.YtfbenlenihlpbaaDoor.Str Go.Proofs.YtfbenlenihlpbaaDoor.Tac Go.Proofs.YtfbenlenihlpbaaDoor.POa
set_option linter.unusedVariables false
set_option linter.unusedSimpArgs false

/-- What the loop holds: the column and the row that are being read, what is written, and whether a dollar came before. -/
structure St where
  col : ByteArray
  row : ByteArray
  op : ByteArray
  abs : Bool
def small (s : St) : Prop := s.op.size ≤ 1000 ∧ s.col.size ≤ 1000 ∧ s.row.size ≤ 1000
instance (s : St) : Decidable (small s) := inferInstanceAs (Decidable (_ ∧ _ ∧ _))
def stepF (k : Nat) (rows : Bool) (n o : Int) (c : Int) (s : St) : Option St :=
  if small s then
    if c = 36 then (excelize_adjustFormulaColumnName.f k s.col s.op s.abs false rows n o).bind fun t => if t.2.2.2 = none ∧ t.2.1.size ≤ 2000 then some ⟨t.1, s.row, t.2.1 ++ Utf8.encode c, true⟩ else none
    else if (65 ≤ c ∧ c ≤ 90) ∨ (97 ≤ c ∧ c ≤ 122) then some ⟨s.col ++ Utf8.encode c, s.row, s.op, s.abs⟩
    else if 48 ≤ c ∧ c ≤ 57 then (excelize_adjustFormulaColumnName.f k s.col s.op s.abs false rows n o).bind fun t => if t.2.2.2 = none then some ⟨t.1, s.row ++ Utf8.encode c, t.2.1, t.2.2.1⟩ else none
    else if c = 58 then (excelize_adjustFormulaOperandRef.f k s.row s.col s.op s.abs false rows n o).bind fun t => if t.2.2.2.2 = none ∧ t.2.2.1.size ≤ 2000 then some ⟨t.2.1, t.1, t.2.2.1 ++ Utf8.encode c, t.2.2.2.1⟩ else none
    else none
  else none
def runF (k : Nat) (rows : Bool) (n o : Int) : List Int → St → Option St
  | [], s => some s
  | c :: cs, s => (stepF k rows n o c s).bind (runF k rows n o cs)
theorem enc_size (c : Nat) (h : c < 128) : (Utf8.encode (c : Int)).size = 1 := by
  have : ∀ x : Fin 128, (Utf8.encode (x.val : Int)).size = 1 := by decide +kernel
  exact this ⟨c, h⟩

theorem el {w W : World} {ad : Addr} {xs : List ByteArray} (h : Kd.C Kd.string w (some ad) xs.length xs) (hb : Below w.heap.size w W) (i : Nat) (hi : i < xs.length) : W.cell? (ad.add i) = some (.string (rdOf ByteArray.empty xs (i : Int))) := by
  obtain ⟨ad', e, hx⟩ := Kd.at_string (Kd.C_below h hb) (i : Int) (by omega) (by omega)
  injection e with e
  subst e
  rw [show ((i : Nat) : Int).toNat = i by omega] at hx
  exact hx
theorem el1 {w W : World} {ad : Addr} {xs : List ByteArray} (h : Kd.C Kd.string w (some ad) xs.length xs) (hb : Below w.heap.size w W) (hi : 1 < xs.length) : W.cell? ⟨ad.block, ad.off + 1, none⟩ = some (.string (rdOf ByteArray.empty xs 1)) := el h hb 1 hi
theorem all1 : Alnum.AllL ⟨#[83, 104, 101, 101, 116, 49]⟩ := by
  intro i hi
  have h6 : i < 6 := hi
  have : i = 0 ∨ i = 1 ∨ i = 2 ∨ i = 3 ∨ i = 4 ∨ i = 5 := by omega
  unfold Alnum.isA Alnum.isL
  clear h6
  rcases this with rfl | rfl | rfl | rfl | rfl | rfl <;> decide +revert
theorem all2 : Alnum.AllL ⟨#[83, 104, 101, 101, 116, 50]⟩ := by
  intro i hi
  have h6 : i < 6 := hi
  have : i = 0 ∨ i = 1 ∨ i = 2 ∨ i = 3 ∨ i = 4 ∨ i = 5 := by omega
  unfold Alnum.isA Alnum.isL
  clear h6
  rcases this with rfl | rfl | rfl | rfl | rfl | rfl <;> decide +revert
set_option maxHeartbeats 8000000 in
set_option maxRecDepth 100000 in
theorem own1 (k m : Nat) (cell : ByteArray) (rows : Bool) (n o : Int) (v : Value) (w : World) (fin : St) (res : ByteArray) (q : ByteArray × ByteArray × Bool) (hs : PFnCols.excelize_zzSplit.f m cell ⟨#[33]⟩ = some [cell]) (hr : runF k rows n o (bytesOf cell) ⟨⟨#[]⟩, ⟨#[]⟩, ⟨#[]⟩, false⟩ = some fin)
    (hf : excelize_adjustFormulaOperandRef.f k fin.row fin.col fin.op fin.abs false rows n o = some (q.1, q.2.1, res, q.2.2, none)) (hz : cell.size ≤ 1000) :
    Calls Tryd.prog 58 #[v, .string ⟨#[83, 104, 101, 101, 116, 49]⟩, .string ⟨#[83, 104, 101, 101, 116, 49]⟩, .bool false, .agg #[.string cell, .string ⟨#[]⟩, .string ⟨#[]⟩], .bool rows, .int .i64 n, .int .i64 o] w fun e w' => e = .returned (.tuple #[.string res, .nilIface]) ∧ Below w.heap.size w w' := by
  have HB := Aside0.mk (Below.refl w.heap.size w)
  have HS := Aside0.mk hs
  have HR := Aside0.mk hr
  have HL := Aside0.mk hf
  clear hs hr hf
  go_enter Tryd.func58, Tryd.ntmps58
  go_wp2_with (go_at_call 66; (with_reducible refine (PFnCols.excelize_zzSplit.calls m _ _ _ _ HS.out).mono ?_); rintro e w2 ⟨v2, rfl, hr, hb⟩; obtain ⟨A2, c2, ev2⟩ := Kd.R_slice hr; subst ev2; have HX := Aside0.mk hr; have n0_ := Aside0.mk (below_step (by repeat (first | (with_reducible first | exact HB.out | apply below_alloc | apply pw_below_drewN | apply below_drew1) | exact HB.out)) hb); clear HB hb hr; have HB := n0_; clear n0_)
  go_loopg [19, 21, 22, 23] cell.size (fun gf v19 v21 v22 v23 w' => ∃ (pos : Nat) (st : St), v19 = .bool st.abs ∧ v21 = .string st.col ∧ v22 = .string st.row ∧ v23 = .string st.op ∧ Aside0 (w'.heap[w2.heap.size]? = some (.stringIter cell pos)) ∧ Aside0 (Below w2.heap.size w2 w') ∧ Aside0 (runF k rows n o ((bytesOf cell).drop pos) st = some fin) ∧ Aside0 (pos ≤ cell.size) ∧ cell.size ≤ pos + gf)
  case atStart => exact ⟨0, ⟨⟨#[]⟩, ⟨#[]⟩, ⟨#[]⟩, false⟩, rfl, rfl, rfl, rfl, ⟨World.iter_heap w2 cell 0⟩, ⟨(Below.refl _ w2).alloc (Nat.le_refl _) _⟩, HR, ⟨Nat.zero_le _⟩, by omega⟩
  case round =>
    obtain ⟨pos, st, rfl, rfl, rfl, rfl, HI, HC, HF, HP, hfu⟩ := hrel
    by_cases hps : pos < cell.size
    · obtain ⟨g', rfl⟩ : ∃ g', gk = g' + 1 := ⟨gk - 1, by omega⟩
      obtain ⟨c, hc⟩ : ∃ c, (cell[pos]'hps).toNat = c := ⟨_, rfl⟩
      have hbt : bt cell (pos : Int) = (c : Int) := by rw [← hc]; exact (bt_at cell (pos : Int) hps).symm
      have hdr : (bytesOf cell).drop pos = (c : Int) :: (bytesOf cell).drop (pos + 1) := by
        have hlen : pos < (bytesOf cell).length := by rw [bytesOf_length]; exact hps
        rw [List.drop_eq_getElem_cons hlen]
        have h0 := bytes_get cell pos hps
        rw [List.getElem?_eq_getElem hlen, hbt] at h0
        rw [Option.some.inj h0]
      have hF := HF.out
      rw [hdr, runF] at hF
      obtain ⟨st2, hst, hrest⟩ := Option.bind_eq_some_iff.1 hF
      clear hF hdr hbt HF
      unfold stepF at hst
      split at hst
      case isFalse => cases hst
      rename_i hsm
      obtain ⟨z1, z2, z3⟩ := hsm
      have h128 : c < 128 := by
        by_cases h : c < 128
        · exact h
        · rw [if_neg (by omega), if_neg (by omega), if_neg (by omega), if_neg (by omega)] at hst; cases hst
      have hdec : Utf8.decode cell pos = (c, 1) := by rw [decode_ascii cell pos hps (by rw [hc]; exact h128), hc]
      have hnx : ∀ ty, (Instr.next (.pointer (some ⟨w2.heap.size, 0, none⟩)) true ty).run Tryd.prog wr = _ := fun ty => Lib.run_next_any_at wr w2.heap.size cell pos ty HI.out hps
      rw [hdec] at hnx
      have hit2 := Lib.iterAt_heap wr w2.heap.size cell pos (pos + 1) HI.out
      have hbw2 := Lib.below_iterAt HC.out (k := w2.heap.size) (Nat.le_refl _) cell (pos + 1)
      obtain ⟨W, hWd⟩ : ∃ W, wr.iterAt w2.heap.size cell (pos + 1) = W := ⟨_, rfl⟩
      simp only [] at hnx
      rw [hWd] at hnx hit2 hbw2
      have HI2 := Aside0.mk hit2
      have HC2 := Aside0.mk hbw2
      have HRT := Aside0.mk hrest
      have he := enc_size c h128
      have k1 : st.op.size + (Utf8.encode (c : Int)).size ≤ 9223372036854775807 := by omega
      have k2 : st.col.size + (Utf8.encode (c : Int)).size ≤ 9223372036854775807 := by omega
      have k3 : st.row.size + (Utf8.encode (c : Int)).size ≤ 9223372036854775807 := by omega
      clear hdec hit2 hbw2 HI HC hWd hrest hc
      obtain ⟨ci, hci⟩ : ∃ ci : Int, (c : Int) = ci := ⟨_, rfl⟩
      have hc0 : 0 ≤ ci := by omega
      rw [hci] at hnx hst he k1 k2 k3
      clear hci h128
      have k4 : ∀ x : ByteArray, x.size ≤ 2000 → x.size + (Utf8.encode ci).size ≤ 9223372036854775807 := fun x h => by omega
      by_cases e1 : ci = 36
      · rw [if_pos e1] at hst
        obtain ⟨⟨t1, t2, t3, t4⟩, ht, hst⟩ := Option.bind_eq_some_iff.1 hst
        split at hst
        case isFalse => cases hst
        rename_i hq
        obtain ⟨hq1, hq2⟩ := hq
        simp only at hq1 hq2
        subst hq1
        obtain rfl := Option.some.inj hst
        have HT := Aside0.mk ht
        have k5 := k4 t2 hq2
        have f1 : (ci == 36) = true := beq_iff_eq.2 e1
        clear hst ht e1 he k1 k2 k3 k4 z1 z2 z3 hq2 hc0
        go_wp2_with (go_at_call 78; (with_reducible refine (excelize_adjustFormulaColumnName.calls k _ _ _ _ _ _ _ t1 t2 t3 none _ HT.out).mono ?_); rintro e w9 ⟨rfl, hb⟩; have m0_ := Aside0.mk ((hb.block _ (blk_lt HI2.out)).trans HI2.out); have m1_ := Aside0.mk (below_step HC2.out hb); clear HI2 HC2 hb; have HI2 := m0_; have HC2 := m1_; clear m0_ m1_; try simp only [errW_none])
        go_roundg g'
        case measure => omega
        case rel => exact ⟨pos + 1, ⟨t1, st.row, t2 ++ Utf8.encode ci, true⟩, rfl, rfl, rfl, rfl, HI2, HC2, HRT, ⟨by omega⟩, by omega⟩
      rw [if_neg e1] at hst
      have f1 : (ci == 36) = false := beq_eq_false_iff_ne.2 e1
      by_cases e2 : (65 ≤ ci ∧ ci ≤ 90) ∨ (97 ≤ ci ∧ ci ≤ 122)
      · rw [if_pos e2] at hst
        obtain rfl := Option.some.inj hst
        clear hst
        rcases e2 with e2 | e2
        · obtain ⟨q1, q2⟩ := e2
          have f2 : (65 ≤ ci) = True := eq_true q1
          have f3 : (ci ≤ 90) = True := eq_true q2
          clear e1 q1 q2 he k1 k3 k4 z1 z2 z3 hc0
          go_wp2_with fail
          go_roundg g'
          case measure => omega
          case rel => exact ⟨pos + 1, ⟨st.col ++ Utf8.encode ci, st.row, st.op, st.abs⟩, rfl, rfl, rfl, rfl, HI2, HC2, HRT, ⟨by omega⟩, by omega⟩
        · obtain ⟨q1, q2⟩ := e2
          have f2 : (65 ≤ ci) = True := eq_true (by omega)
          have f3 : (ci ≤ 90) = False := eq_false (by omega)
          have f4 : (97 ≤ ci) = True := eq_true q1
          have f5 : (ci ≤ 122) = True := eq_true q2
          clear e1 q1 q2 he k1 k3 k4 z1 z2 z3 hc0
          go_wp2_with fail
          go_roundg g'
          case measure => omega
          case rel => exact ⟨pos + 1, ⟨st.col ++ Utf8.encode ci, st.row, st.op, st.abs⟩, rfl, rfl, rfl, rfl, HI2, HC2, HRT, ⟨by omega⟩, by omega⟩
      rw [if_neg e2] at hst
      by_cases e3 : 48 ≤ ci ∧ ci ≤ 57
      · rw [if_pos e3] at hst
        obtain ⟨⟨t1, t2, t3, t4⟩, ht, hst⟩ := Option.bind_eq_some_iff.1 hst
        split at hst
        case isFalse => cases hst
        rename_i hq1
        simp only at hq1
        subst hq1
        obtain rfl := Option.some.inj hst
        have HT := Aside0.mk ht
        have f2 : (65 ≤ ci) = False := eq_false (by omega)
        have f4 : (97 ≤ ci) = False := eq_false (by omega)
        have f5 : (48 ≤ ci) = True := eq_true e3.1
        have f6 : (ci ≤ 57) = True := eq_true e3.2
        clear hst ht e1 e2 e3 he k1 k2 k4 z1 z2 z3 hc0
        go_wp2_with (go_at_call 78; (with_reducible refine (excelize_adjustFormulaColumnName.calls k _ _ _ _ _ _ _ t1 t2 t3 none _ HT.out).mono ?_); rintro e w9 ⟨rfl, hb⟩; have m0_ := Aside0.mk ((hb.block _ (blk_lt HI2.out)).trans HI2.out); have m1_ := Aside0.mk (below_step HC2.out hb); clear HI2 HC2 hb; have HI2 := m0_; have HC2 := m1_; clear m0_ m1_; try simp only [errW_none])
        go_roundg g'
        case measure => omega
        case rel => exact ⟨pos + 1, ⟨t1, st.row ++ Utf8.encode ci, t2, t3⟩, rfl, rfl, rfl, rfl, HI2, HC2, HRT, ⟨by omega⟩, by omega⟩
      rw [if_neg e3] at hst
      by_cases e4 : ci = 58
      case neg => rw [if_neg e4] at hst; cases hst
      rw [if_pos e4] at hst
      obtain ⟨⟨t1, t2, t3, t4, t5⟩, ht, hst⟩ := Option.bind_eq_some_iff.1 hst
      split at hst
      case isFalse => cases hst
      rename_i hq
      obtain ⟨hq1, hq2⟩ := hq
      simp only at hq1 hq2
      subst hq1
      obtain rfl := Option.some.inj hst
      have HT := Aside0.mk ht
      have k5 := k4 t3 hq2
      have f2 : (65 ≤ ci) = False := eq_false (by omega)
      have f4 : (97 ≤ ci) = False := eq_false (by omega)
      have f5 : (48 ≤ ci) = True := eq_true (by omega)
      have f6 : (ci ≤ 57) = False := eq_false (by omega)
      clear hst ht e1 e2 e3 e4 he k1 k2 k3 k4 z1 z2 z3 hq2 hc0
      go_wp2_with (go_at_call 79; (with_reducible refine (excelize_adjustFormulaOperandRef.calls k _ _ _ _ _ _ _ _ t1 t2 t3 t4 none _ HT.out).mono ?_); rintro e w9 ⟨rfl, hb⟩; have m0_ := Aside0.mk ((hb.block _ (blk_lt HI2.out)).trans HI2.out); have m1_ := Aside0.mk (below_step HC2.out hb); clear HI2 HC2 hb; have HI2 := m0_; have HC2 := m1_; clear m0_ m1_; try simp only [errW_none])
      go_roundg g'
      case measure => omega
      case rel => exact ⟨pos + 1, ⟨t2, t1, t3 ++ Utf8.encode ci, t4⟩, rfl, rfl, rfl, rfl, HI2, HC2, HRT, ⟨by omega⟩, by omega⟩
    · have hpe : pos = cell.size := by have := HP.out; omega
      have hF := HF.out
      rw [hpe, List.drop_of_length_le (by rw [bytesOf_length]; omega), runF] at hF
      obtain rfl := Option.some.inj hF
      have hnx : ∀ ty, (Instr.next (.pointer (some ⟨w2.heap.size, 0, none⟩)) true ty).run Tryd.prog wr = _ := fun ty => Lib.run_next_end_at wr w2.heap.size cell pos ty HI.out hps
      clear hF hpe hfu
      go_wp2_with (go_at_call 79; (with_reducible refine (excelize_adjustFormulaOperandRef.calls k _ _ _ _ _ _ _ _ q.1 q.2.1 res q.2.2 none _ HL.out).mono ?_); rintro e w9 ⟨rfl, hb⟩; have HE := Aside0.mk (below_step HB.out (below_step HC.out hb)); clear hb; try simp only [errW_none])
      go_ret2
      exact ⟨by rfl, HE.out⟩
set_option maxHeartbeats 8000000 in
set_option maxRecDepth 100000 in
theorem sheet1 (k m : Nat) (t cell own : ByteArray) (rows : Bool) (n o : Int) (v : Value) (w : World) (fin : St) (res : ByteArray) (q : ByteArray × ByteArray × Bool) (hU : Alnum.Props w) (hs : PFnCols.excelize_zzSplit.f m t ⟨#[33]⟩ = some [⟨#[83, 104, 101, 101, 116, 49]⟩, cell]) (hr : runF k rows n o (bytesOf cell) ⟨⟨#[]⟩, ⟨#[]⟩, (⟨#[83, 104, 101, 101, 116, 49]⟩ : ByteArray) ++ ⟨#[33]⟩, false⟩ = some fin)
    (hf : excelize_adjustFormulaOperandRef.f k fin.row fin.col fin.op fin.abs false rows n o = some (q.1, q.2.1, res, q.2.2, none)) (hz : cell.size ≤ 1000) :
    Calls Tryd.prog 58 #[v, .string ⟨#[83, 104, 101, 101, 116, 49]⟩, .string own, .bool false, .agg #[.string t, .string ⟨#[]⟩, .string ⟨#[]⟩], .bool rows, .int .i64 n, .int .i64 o] w fun e w' => e = .returned (.tuple #[.string res, .nilIface]) ∧ Below w.heap.size w w' := by
  have HB := Aside0.mk (Below.refl w.heap.size w)
  have HU := Aside0.mk hU
  have HS := Aside0.mk hs
  have HR := Aside0.mk hr
  have HL := Aside0.mk hf
  clear hr hf
  clear hs hU
  have z6 : (⟨#[83, 104, 101, 101, 116, 49]⟩ : ByteArray).size = 6 := rfl
  have z1 : (⟨#[33]⟩ : ByteArray).size = 1 := rfl
  have k0 : ((⟨#[83, 104, 101, 101, 116, 49]⟩ : ByteArray) ++ (⟨#[33]⟩ : ByteArray)).size + cell.size ≤ 9223372036854775807 := by rw [ByteArray.size_append]; omega
  go_enter Tryd.func58, Tryd.ntmps58
  go_upto_region 7 with (go_at_call 66; (with_reducible refine (PFnCols.excelize_zzSplit.calls m _ _ _ _ HS.out).mono ?_); rintro e w2 ⟨v2, rfl, hr, hb⟩; obtain ⟨A2, c2, ev2⟩ := Kd.R_slice hr; subst ev2; have HX := Aside0.mk hr; have n0_ := Aside0.mk (below_step (by repeat (first | (with_reducible first | exact HB.out | apply below_alloc | apply pw_below_drewN | apply below_drew1) | exact HB.out)) hb); clear HB hb hr; have HB := n0_; clear n0_; obtain ⟨ad, ea, hx0⟩ := Kd.at_string (Kd.R_reads' HX.out).2.2 0 (by decide) (by simp); cases ea; have hx1 : w2.cell? ⟨ad.block, ad.off + 1, none⟩ = some (.string cell) := el1 (Kd.R_reads' HX.out).2.2 (Below.refl _ _) (by simp); replace hx0 : w2.cell? (ad.add (0 : Int).toNat) = some (.string ⟨#[83, 104, 101, 101, 116, 49]⟩) := hx0; (try rw [show ((0 : Int)).toNat = 0 from rfl] at hx0); (try rw [Addr.add_zero'] at hx0))
  go_quiet (fail)
  go_wp2_with (go_at_call 77; (with_reducible refine (Alnum.escape _ all1 _ (HU.out.below (by repeat (first | (with_reducible first | exact HB.out | apply below_alloc | apply pw_below_drewN | apply below_drew1) | exact HB.out)))).mono ?_); rintro e w3 ⟨rfl, hb⟩; have n0_ := Aside0.mk (below_step (by repeat (first | (with_reducible first | exact HB.out | apply below_alloc | apply pw_below_drewN | apply below_drew1) | exact HB.out)) hb); clear HB hb; have HB := n0_; clear n0_)
  go_loopg [19, 21, 22, 23] cell.size (fun gf v19 v21 v22 v23 w' => ∃ (pos : Nat) (st : St), v19 = .bool st.abs ∧ v21 = .string st.col ∧ v22 = .string st.row ∧ v23 = .string st.op ∧ Aside0 (w'.heap[w3.heap.size]? = some (.stringIter cell pos)) ∧ Aside0 (Below w3.heap.size w3 w') ∧ Aside0 (runF k rows n o ((bytesOf cell).drop pos) st = some fin) ∧ Aside0 (pos ≤ cell.size) ∧ cell.size ≤ pos + gf)
  case atStart => exact ⟨0, ⟨⟨#[]⟩, ⟨#[]⟩, ((⟨#[83, 104, 101, 101, 116, 49]⟩ : ByteArray) ++ (⟨#[33]⟩ : ByteArray)), false⟩, rfl, rfl, rfl, rfl, ⟨World.iter_heap w3 cell 0⟩, ⟨(Below.refl _ w3).alloc (Nat.le_refl _) _⟩, HR, ⟨Nat.zero_le _⟩, by omega⟩
  case round =>
    obtain ⟨pos, st, rfl, rfl, rfl, rfl, HI, HC, HF, HP, hfu⟩ := hrel
    by_cases hps : pos < cell.size
    · obtain ⟨g', rfl⟩ : ∃ g', gk = g' + 1 := ⟨gk - 1, by omega⟩
      obtain ⟨c, hc⟩ : ∃ c, (cell[pos]'hps).toNat = c := ⟨_, rfl⟩
      have hbt : bt cell (pos : Int) = (c : Int) := by rw [← hc]; exact (bt_at cell (pos : Int) hps).symm
      have hdr : (bytesOf cell).drop pos = (c : Int) :: (bytesOf cell).drop (pos + 1) := by
        have hlen : pos < (bytesOf cell).length := by rw [bytesOf_length]; exact hps
        rw [List.drop_eq_getElem_cons hlen]
        have h0 := bytes_get cell pos hps
        rw [List.getElem?_eq_getElem hlen, hbt] at h0
        rw [Option.some.inj h0]
      have hF := HF.out
      rw [hdr, runF] at hF
      obtain ⟨st2, hst, hrest⟩ := Option.bind_eq_some_iff.1 hF
      clear hF hdr hbt HF
      unfold stepF at hst
      split at hst
      case isFalse => cases hst
      rename_i hsm
      obtain ⟨z1, z2, z3⟩ := hsm
      have h128 : c < 128 := by
        by_cases h : c < 128
        · exact h
        · rw [if_neg (by omega), if_neg (by omega), if_neg (by omega), if_neg (by omega)] at hst; cases hst
      have hdec : Utf8.decode cell pos = (c, 1) := by rw [decode_ascii cell pos hps (by rw [hc]; exact h128), hc]
      have hnx : ∀ ty, (Instr.next (.pointer (some ⟨w3.heap.size, 0, none⟩)) true ty).run Tryd.prog wr = _ := fun ty => Lib.run_next_any_at wr w3.heap.size cell pos ty HI.out hps
      rw [hdec] at hnx
      have hit2 := Lib.iterAt_heap wr w3.heap.size cell pos (pos + 1) HI.out
      have hbw2 := Lib.below_iterAt HC.out (k := w3.heap.size) (Nat.le_refl _) cell (pos + 1)
      obtain ⟨W, hWd⟩ : ∃ W, wr.iterAt w3.heap.size cell (pos + 1) = W := ⟨_, rfl⟩
      simp only [] at hnx
      rw [hWd] at hnx hit2 hbw2
      have HI2 := Aside0.mk hit2
      have HC2 := Aside0.mk hbw2
      have HRT := Aside0.mk hrest
      have he := enc_size c h128
      have k1 : st.op.size + (Utf8.encode (c : Int)).size ≤ 9223372036854775807 := by omega
      have k2 : st.col.size + (Utf8.encode (c : Int)).size ≤ 9223372036854775807 := by omega
      have k3 : st.row.size + (Utf8.encode (c : Int)).size ≤ 9223372036854775807 := by omega
      clear hdec hit2 hbw2 HI HC hWd hrest hc
      obtain ⟨ci, hci⟩ : ∃ ci : Int, (c : Int) = ci := ⟨_, rfl⟩
      have hc0 : 0 ≤ ci := by omega
      rw [hci] at hnx hst he k1 k2 k3
      clear hci h128
      have k4 : ∀ x : ByteArray, x.size ≤ 2000 → x.size + (Utf8.encode ci).size ≤ 9223372036854775807 := fun x h => by omega
      by_cases e1 : ci = 36
      · rw [if_pos e1] at hst
        obtain ⟨⟨t1, t2, t3, t4⟩, ht, hst⟩ := Option.bind_eq_some_iff.1 hst
        split at hst
        case isFalse => cases hst
        rename_i hq
        obtain ⟨hq1, hq2⟩ := hq
        simp only at hq1 hq2
        subst hq1
        obtain rfl := Option.some.inj hst
        have HT := Aside0.mk ht
        have k5 := k4 t2 hq2
        have f1 : (ci == 36) = true := beq_iff_eq.2 e1
        clear hst ht e1 he k1 k2 k3 k4 z1 z2 z3 hq2 hc0
        go_wp2_with (go_at_call 78; (with_reducible refine (excelize_adjustFormulaColumnName.calls k _ _ _ _ _ _ _ t1 t2 t3 none _ HT.out).mono ?_); rintro e w9 ⟨rfl, hb⟩; have m0_ := Aside0.mk ((hb.block _ (blk_lt HI2.out)).trans HI2.out); have m1_ := Aside0.mk (below_step HC2.out hb); clear HI2 HC2 hb; have HI2 := m0_; have HC2 := m1_; clear m0_ m1_; try simp only [errW_none])
        go_roundg g'
        case measure => omega
        case rel => exact ⟨pos + 1, ⟨t1, st.row, t2 ++ Utf8.encode ci, true⟩, rfl, rfl, rfl, rfl, HI2, HC2, HRT, ⟨by omega⟩, by omega⟩
      rw [if_neg e1] at hst
      have f1 : (ci == 36) = false := beq_eq_false_iff_ne.2 e1
      by_cases e2 : (65 ≤ ci ∧ ci ≤ 90) ∨ (97 ≤ ci ∧ ci ≤ 122)
      · rw [if_pos e2] at hst
        obtain rfl := Option.some.inj hst
        clear hst
        rcases e2 with e2 | e2
        · obtain ⟨q1, q2⟩ := e2
          have f2 : (65 ≤ ci) = True := eq_true q1
          have f3 : (ci ≤ 90) = True := eq_true q2
          clear e1 q1 q2 he k1 k3 k4 z1 z2 z3 hc0
          go_wp2_with fail
          go_roundg g'
          case measure => omega
          case rel => exact ⟨pos + 1, ⟨st.col ++ Utf8.encode ci, st.row, st.op, st.abs⟩, rfl, rfl, rfl, rfl, HI2, HC2, HRT, ⟨by omega⟩, by omega⟩
        · obtain ⟨q1, q2⟩ := e2
          have f2 : (65 ≤ ci) = True := eq_true (by omega)
          have f3 : (ci ≤ 90) = False := eq_false (by omega)
          have f4 : (97 ≤ ci) = True := eq_true q1
          have f5 : (ci ≤ 122) = True := eq_true q2
          clear e1 q1 q2 he k1 k3 k4 z1 z2 z3 hc0
          go_wp2_with fail
          go_roundg g'
          case measure => omega
          case rel => exact ⟨pos + 1, ⟨st.col ++ Utf8.encode ci, st.row, st.op, st.abs⟩, rfl, rfl, rfl, rfl, HI2, HC2, HRT, ⟨by omega⟩, by omega⟩
      rw [if_neg e2] at hst
      by_cases e3 : 48 ≤ ci ∧ ci ≤ 57
      · rw [if_pos e3] at hst
        obtain ⟨⟨t1, t2, t3, t4⟩, ht, hst⟩ := Option.bind_eq_some_iff.1 hst
        split at hst
        case isFalse => cases hst
        rename_i hq1
        simp only at hq1
        subst hq1
        obtain rfl := Option.some.inj hst
        have HT := Aside0.mk ht
        have f2 : (65 ≤ ci) = False := eq_false (by omega)
        have f4 : (97 ≤ ci) = False := eq_false (by omega)
        have f5 : (48 ≤ ci) = True := eq_true e3.1
        have f6 : (ci ≤ 57) = True := eq_true e3.2
        clear hst ht e1 e2 e3 he k1 k2 k4 z1 z2 z3 hc0
        go_wp2_with (go_at_call 78; (with_reducible refine (excelize_adjustFormulaColumnName.calls k _ _ _ _ _ _ _ t1 t2 t3 none _ HT.out).mono ?_); rintro e w9 ⟨rfl, hb⟩; have m0_ := Aside0.mk ((hb.block _ (blk_lt HI2.out)).trans HI2.out); have m1_ := Aside0.mk (below_step HC2.out hb); clear HI2 HC2 hb; have HI2 := m0_; have HC2 := m1_; clear m0_ m1_; try simp only [errW_none])
        go_roundg g'
        case measure => omega
        case rel => exact ⟨pos + 1, ⟨t1, st.row ++ Utf8.encode ci, t2, t3⟩, rfl, rfl, rfl, rfl, HI2, HC2, HRT, ⟨by omega⟩, by omega⟩
      rw [if_neg e3] at hst
      by_cases e4 : ci = 58
      case neg => rw [if_neg e4] at hst; cases hst
      rw [if_pos e4] at hst
      obtain ⟨⟨t1, t2, t3, t4, t5⟩, ht, hst⟩ := Option.bind_eq_some_iff.1 hst
      split at hst
      case isFalse => cases hst
      rename_i hq
      obtain ⟨hq1, hq2⟩ := hq
      simp only at hq1 hq2
      subst hq1
      obtain rfl := Option.some.inj hst
      have HT := Aside0.mk ht
      have k5 := k4 t3 hq2
      have f2 : (65 ≤ ci) = False := eq_false (by omega)
      have f4 : (97 ≤ ci) = False := eq_false (by omega)
      have f5 : (48 ≤ ci) = True := eq_true (by omega)
      have f6 : (ci ≤ 57) = False := eq_false (by omega)
      clear hst ht e1 e2 e3 e4 he k1 k2 k3 k4 z1 z2 z3 hq2 hc0
      go_wp2_with (go_at_call 79; (with_reducible refine (excelize_adjustFormulaOperandRef.calls k _ _ _ _ _ _ _ _ t1 t2 t3 t4 none _ HT.out).mono ?_); rintro e w9 ⟨rfl, hb⟩; have m0_ := Aside0.mk ((hb.block _ (blk_lt HI2.out)).trans HI2.out); have m1_ := Aside0.mk (below_step HC2.out hb); clear HI2 HC2 hb; have HI2 := m0_; have HC2 := m1_; clear m0_ m1_; try simp only [errW_none])
      go_roundg g'
      case measure => omega
      case rel => exact ⟨pos + 1, ⟨t2, t1, t3 ++ Utf8.encode ci, t4⟩, rfl, rfl, rfl, rfl, HI2, HC2, HRT, ⟨by omega⟩, by omega⟩
    · have hpe : pos = cell.size := by have := HP.out; omega
      have hF := HF.out
      rw [hpe, List.drop_of_length_le (by rw [bytesOf_length]; omega), runF] at hF
      obtain rfl := Option.some.inj hF
      have hnx : ∀ ty, (Instr.next (.pointer (some ⟨w3.heap.size, 0, none⟩)) true ty).run Tryd.prog wr = _ := fun ty => Lib.run_next_end_at wr w3.heap.size cell pos ty HI.out hps
      clear hF hpe hfu
      go_wp2_with (go_at_call 79; (with_reducible refine (excelize_adjustFormulaOperandRef.calls k _ _ _ _ _ _ _ _ q.1 q.2.1 res q.2.2 none _ HL.out).mono ?_); rintro e w9 ⟨rfl, hb⟩; have HE := Aside0.mk (below_step HB.out (below_step HC.out hb)); clear hb; try simp only [errW_none])
      go_ret2
      exact ⟨by rfl, HE.out⟩
set_option maxHeartbeats 8000000 in
set_option maxRecDepth 100000 in
theorem sheet2 (k m : Nat) (t cell own : ByteArray) (rows : Bool) (n o : Int) (v : Value) (w : World) (hU : Alnum.Props w) (hs : PFnCols.excelize_zzSplit.f m t ⟨#[33]⟩ = some [⟨#[83, 104, 101, 101, 116, 50]⟩, cell])  (hz : cell.size ≤ 1000) :
    Calls Tryd.prog 58 #[v, .string ⟨#[83, 104, 101, 101, 116, 49]⟩, .string own, .bool false, .agg #[.string t, .string ⟨#[]⟩, .string ⟨#[]⟩], .bool rows, .int .i64 n, .int .i64 o] w fun e w' => e = .returned (.tuple #[.string (((⟨#[83, 104, 101, 101, 116, 50]⟩ : ByteArray) ++ ⟨#[33]⟩) ++ cell), .nilIface]) ∧ Below w.heap.size w w' := by
  have HB := Aside0.mk (Below.refl w.heap.size w)
  have HU := Aside0.mk hU
  have HS := Aside0.mk hs
  clear hs hU
  have z6 : (⟨#[83, 104, 101, 101, 116, 50]⟩ : ByteArray).size = 6 := rfl
  have z1 : (⟨#[33]⟩ : ByteArray).size = 1 := rfl
  have k0 : ((⟨#[83, 104, 101, 101, 116, 50]⟩ : ByteArray) ++ (⟨#[33]⟩ : ByteArray)).size + cell.size ≤ 9223372036854775807 := by rw [ByteArray.size_append]; omega
  go_enter Tryd.func58, Tryd.ntmps58
  go_upto_region 7 with (go_at_call 66; (with_reducible refine (PFnCols.excelize_zzSplit.calls m _ _ _ _ HS.out).mono ?_); rintro e w2 ⟨v2, rfl, hr, hb⟩; obtain ⟨A2, c2, ev2⟩ := Kd.R_slice hr; subst ev2; have HX := Aside0.mk hr; have n0_ := Aside0.mk (below_step (by repeat (first | (with_reducible first | exact HB.out | apply below_alloc | apply pw_below_drewN | apply below_drew1) | exact HB.out)) hb); clear HB hb hr; have HB := n0_; clear n0_; obtain ⟨ad, ea, hx0⟩ := Kd.at_string (Kd.R_reads' HX.out).2.2 0 (by decide) (by simp); cases ea; have hx1 : w2.cell? ⟨ad.block, ad.off + 1, none⟩ = some (.string cell) := el1 (Kd.R_reads' HX.out).2.2 (Below.refl _ _) (by simp); replace hx0 : w2.cell? (ad.add (0 : Int).toNat) = some (.string ⟨#[83, 104, 101, 101, 116, 50]⟩) := hx0; (try rw [show ((0 : Int)).toNat = 0 from rfl] at hx0); (try rw [Addr.add_zero'] at hx0))
  go_quiet (fail)
  go_wp2_with (go_at_call 77; (with_reducible refine (Alnum.escape _ all2 _ (HU.out.below (by repeat (first | (with_reducible first | exact HB.out | apply below_alloc | apply pw_below_drewN | apply below_drew1) | exact HB.out)))).mono ?_); rintro e w3 ⟨rfl, hb⟩; have n0_ := Aside0.mk (below_step (by repeat (first | (with_reducible first | exact HB.out | apply below_alloc | apply pw_below_drewN | apply below_drew1) | exact HB.out)) hb); clear HB hb; have HB := n0_; clear n0_)
  go_ret2
  exact ⟨by rfl, HB.out⟩
set_option maxHeartbeats 8000000 in
set_option maxRecDepth 100000 in
theorem own2 (m : Nat) (cell : ByteArray) (rows : Bool) (n o : Int) (v : Value) (w : World) (hs : PFnCols.excelize_zzSplit.f m cell ⟨#[33]⟩ = some [cell]) (hz : cell.size ≤ 1000) :
    Calls Tryd.prog 58 #[v, .string ⟨#[83, 104, 101, 101, 116, 49]⟩, .string ⟨#[83, 104, 101, 101, 116, 50]⟩, .bool false, .agg #[.string cell, .string ⟨#[]⟩, .string ⟨#[]⟩], .bool rows, .int .i64 n, .int .i64 o] w fun e w' => e = .returned (.tuple #[.string ((⟨#[]⟩ : ByteArray) ++ cell), .nilIface]) ∧ Below w.heap.size w w' := by
  have HB := Aside0.mk (Below.refl w.heap.size w)
  have HS := Aside0.mk hs
  clear hs
  have z0 : (⟨#[]⟩ : ByteArray).size = 0 := rfl
  have k0 : (⟨#[]⟩ : ByteArray).size + cell.size ≤ 9223372036854775807 := by omega
  go_enter Tryd.func58, Tryd.ntmps58
  go_wp2_with (go_at_call 66; (with_reducible refine (PFnCols.excelize_zzSplit.calls m _ _ _ _ HS.out).mono ?_); rintro e w2 ⟨v2, rfl, hr, hb⟩; obtain ⟨A2, c2, ev2⟩ := Kd.R_slice hr; subst ev2; have HX := Aside0.mk hr; have n0_ := Aside0.mk (below_step (by repeat (first | (with_reducible first | exact HB.out | apply below_alloc | apply pw_below_drewN | apply below_drew1) | exact HB.out)) hb); clear HB hb hr; have HB := n0_; clear n0_)
  go_ret2
  exact ⟨by rfl, HB.out⟩
end Go.Proofs.YtfbenlenihlpbaaDoor.OpW
end

section
namespace Go.Proofs.YtfbenlenihlpbaaDoor.OpD
open Go.RowKit Go.Proofs.YtfbenlenihlpbaaDoorW.PrintWords Go.Proofs.YtfbenlenihlpbaaDoorW.PrintLast Go.Proofs.YtfbenlenihlpbaaDoorW.PrintMore
open Go.Proofs.YtfbenlenihlpbaaDoor.Str Go.Proofs.YtfbenlenihlpbaaDoor.Tac
set_option linter.unusedVariables false
set_option linter.unusedSimpArgs false

/-- What is asked of the method: at any receiver, in any world with the table. -/
def Does (own t : ByteArray) (rows : Bool) (n o : Int) (res : ByteArray) : Prop :=
  ∀ (v : Value) (W : World), Alnum.Props W → Calls Tryd.prog 58 #[v, .string ⟨#[83, 104, 101, 101, 116, 49]⟩, .string own, .bool false, .agg #[.string t, .string ⟨#[]⟩, .string ⟨#[]⟩], .bool rows, .int .i64 n, .int .i64 o] W fun e w' => e = .returned (.tuple #[.string res, .nilIface]) ∧ Below W.heap.size W w'
set_option maxHeartbeats 4000000 in
set_option maxRecDepth 100000 in
theorem door (own t : ByteArray) (rows : Bool) (n o : Int) (res : ByteArray) (h : Does own t rows n o res) (w : World) (hU : Alnum.Props w) :
    Calls Tryd.prog 46 #[.string ⟨#[83, 104, 101, 101, 116, 49]⟩, .string own, .string t, .bool false, .bool rows, .int .i64 n, .int .i64 o] w fun e w' => e = .returned (.tuple #[.string res, .bool true]) ∧ Below w.heap.size w w' := by
  have A := Aside0.mk h
  have HU := Aside0.mk hU
  clear h hU
  have HB := Aside0.mk (Below.refl w.heap.size w)
  go_enter Tryd.func46, Tryd.ntmps46
  go_upto_region 2 with (first
    | (go_at_call 58; refine (A.out _ _ (HU.out.below (by repeat (first | (with_reducible first | exact HB.out | apply below_alloc | apply pw_below_drewN | apply below_drew1) | exact HB.out)))).mono ?_; rintro e w1 ⟨rfl, hb⟩; (have n0_ := Aside0.mk (below_step (by repeat (first | (with_reducible first | exact HB.out | apply below_alloc | apply pw_below_drewN | apply below_drew1) | exact HB.out)) hb); clear HB; have HB := n0_; clear n0_ hb)))
  go_quiet (fail)
  go_wp2_with fail
  go_ret2
  exact ⟨by rfl, by repeat (first | (with_reducible first | exact HB.out | apply below_alloc | apply pw_below_drewN | apply below_drew1) | exact HB.out)⟩
set_option maxHeartbeats 4000000 in
set_option maxRecDepth 100000 in
theorem impl (own t : ByteArray) (rows : Bool) (n o : Int) (res : ByteArray) (h : Does own t rows n o res) (w : World) (hU : Alnum.Props w) :
    Calls Tryd.prog 31 #[.string ⟨#[83, 104, 101, 101, 116, 49]⟩, .string own, .string t, .bool false, .bool rows, .int .i64 n, .int .i64 o] w fun e w' => e = .returned (.tuple #[.string res, .bool true]) ∧ Below w.heap.size w w' := by
  have A := Aside0.mk (fun W => door own t rows n o res h W)
  have HU := Aside0.mk hU
  clear h hU
  have HB := Aside0.mk (Below.refl w.heap.size w)
  go_enter Tryd.func31, Tryd.ntmps31
  go_wp2_with (first
    | (go_at_call 46; refine (A.out _ (HU.out.below (by repeat (first | (with_reducible first | exact HB.out | apply below_alloc | apply pw_below_drewN | apply below_drew1) | exact HB.out)))).mono ?_; rintro e w1 ⟨rfl, hb⟩; (have n0_ := Aside0.mk (below_step (by repeat (first | (with_reducible first | exact HB.out | apply below_alloc | apply pw_below_drewN | apply below_drew1) | exact HB.out)) hb); clear HB; have HB := n0_; clear n0_ hb)))
  go_ret2
  exact ⟨by rfl, by repeat (first | (with_reducible first | exact HB.out | apply below_alloc | apply pw_below_drewN | apply below_drew1) | exact HB.out)⟩
end Go.Proofs.YtfbenlenihlpbaaDoor.OpD
end

section
namespace Go.Proofs.YtfbenlenihlpbaaDoor.OpG
open Go.RowKit Go.Proofs.YtfbenlenihlpbaaDoorW.PrintWords Go.Proofs.YtfbenlenihlpbaaDoorW.PrintLast Go.Proofs.YtfbenlenihlpbaaDoorW.PrintMore
open Go.Proofs.YtfbenlenihlpbaaDoor.Str Go.Proofs.YtfbenlenihlpbaaDoor.Tac Go.Proofs.YtfbenlenihlpbaaDoor.POa
set_option linter.unusedVariables false
set_option linter.unusedSimpArgs false

abbrev cellT : ByteArray := ⟨#[99, 101, 108, 108]⟩
abbrev areaT : ByteArray := ⟨#[97, 114, 101, 97]⟩
abbrev sh1 : ByteArray := ⟨#[83, 104, 101, 101, 116, 49]⟩
abbrev sh2 : ByteArray := ⟨#[83, 104, 101, 101, 116, 50]⟩
abbrev mark : ByteArray := ⟨#[33]⟩
abbrev colon : ByteArray := ⟨#[58]⟩
/-! ### the law's own operand -/
def laws_refOperand.f (k : Nat) (a0_0 a0_1 a0_2 a0_3 : Int) (a1 : Bool) (a2 : Int) (a3 : ByteArray) : Option (ByteArray × ByteArray × Bool × ByteArray × Int × Int × Int × Int × Bool × Bool × Bool × Bool × Int × Unit) :=
  (spec_GridArea.f k a0_0 a0_1 a0_2 a0_3).bind fun g => if a1 = true then some (cellT, ⟨#[]⟩, false, a3, g.1, g.2.1, 0, 0, (bits BinOp.and IntKind.i64 a2 1 == 1), (bits BinOp.and IntKind.i64 (a2 / 2) 1 == 1), false, false, 0, ()) else some (areaT, ⟨#[]⟩, false, a3, g.1, g.2.1, g.2.2.1, g.2.2.2, (bits BinOp.and IntKind.i64 a2 1 == 1), (bits BinOp.and IntKind.i64 (a2 / 2) 1 == 1), (bits BinOp.and IntKind.i64 (a2 / 4) 1 == 1), (bits BinOp.and IntKind.i64 (a2 / 8) 1 == 1), 0, ())
theorem laws_refOperand.mono : ∀ a0_0 a0_1 a0_2 a0_3 a1 a2 a3 k, LeO (laws_refOperand.f k a0_0 a0_1 a0_2 a0_3 a1 a2 a3) (laws_refOperand.f (k + 1) a0_0 a0_1 a0_2 a0_3 a1 a2 a3) := fun _ _ _ _ _ _ _ k => LeO.bind (spec_GridArea.mono _ _ _ _ k) (fun _ => LeO.refl _)
theorem laws_refOperand.calls (k : Nat) (a0_0 a0_1 a0_2 a0_3 : Int) (a1 : Bool) (a2 : Int) (a3 : ByteArray) (r1 : ByteArray) (r2 : ByteArray) (r3 : Bool) (r4 : ByteArray) (r5 : Int) (r6 : Int) (r7 : Int) (r8 : Int) (r9 : Bool) (r10 : Bool) (r11 : Bool) (r12 : Bool) (r13 : Int) (r14 : Unit) (w : World) (h : laws_refOperand.f k a0_0 a0_1 a0_2 a0_3 a1 a2 a3 = some (r1, r2, r3, r4, r5, r6, r7, r8, r9, r10, r11, r12, r13, r14)) :
    Calls Tryd.prog 29 #[.agg #[.int .i64 a0_0, .int .i64 a0_1, .int .i64 a0_2, .int .i64 a0_3], .bool a1, .int .i64 a2, .string a3] w fun e w' => e = .returned (.agg #[.string r1, .string r2, .bool r3, .string r4, .int .i64 r5, .int .i64 r6, .int .i64 r7, .int .i64 r8, .bool r9, .bool r10, .bool r11, .bool r12, .int .i64 r13, .slice none 0 0]) ∧ Below w.heap.size w w' := by
  obtain ⟨⟨c, r, d, s⟩, hg, h⟩ := Option.bind_eq_some_iff.1 h
  cases a1 with
  | true =>
    rw [if_pos rfl] at h
    simp only [Option.some.injEq, Prod.mk.injEq] at h
    obtain ⟨rfl, rfl, rfl, rfl, rfl, rfl, rfl, rfl, rfl, rfl, rfl, rfl, rfl, _⟩ := h
    exact ExR.ref_cell k a0_0 a0_1 a0_2 a0_3 c r d s a2 a3 w hg
  | false =>
    rw [if_neg (by decide)] at h
    simp only [Option.some.injEq, Prod.mk.injEq] at h
    obtain ⟨rfl, rfl, rfl, rfl, rfl, rfl, rfl, rfl, rfl, rfl, rfl, rfl, rfl, _⟩ := h
    exact ExR.ref_area k a0_0 a0_1 a0_2 a0_3 c r d s a2 a3 w hg

/-! ### a cell or an area -/
def Fit (x0 x1 : ByteArray) (x2 : Bool) (x3 : ByteArray) (x12 : Int) : Prop := (x0 = cellT ∨ x0 = areaT) ∧ x1 = ⟨#[]⟩ ∧ x2 = false ∧ (x3 = ⟨#[]⟩ ∨ x3 = sh1 ∨ x3 = sh2) ∧ x12 = 0
instance (x0 x1 : ByteArray) (x2 : Bool) (x3 : ByteArray) (x12 : Int) : Decidable (Fit x0 x1 x2 x3 x12) := inferInstanceAs (Decidable (_ ∧ _ ∧ _ ∧ _ ∧ _))
def spec_GridMove_Expr.f (a0_0 : Bool) (a0_1 a0_2 : Int) (x0 : ByteArray) (x1 : ByteArray) (x2 : Bool) (x3 : ByteArray) (x4 : Int) (x5 : Int) (x6 : Int) (x7 : Int) (x8 : Bool) (x9 : Bool) (x10 : Bool) (x11 : Bool) (x12 : Int) (x13 : Unit) (own sheet : ByteArray) : Option (ByteArray × ByteArray × Bool × ByteArray × Int × Int × Int × Int × Bool × Bool × Bool × Bool × Int × Unit) :=
  if Fit x0 x1 x2 x3 x12 ∧ sheet = sh1 ∧ (own = sh1 ∨ own = sh2) then
    if x3 = sh1 ∨ (x3 = ⟨#[]⟩ ∧ own = sh1) then
      if x0 = cellT then (spec_GridMove_Place.f a0_0 a0_1 a0_2 x4 x5).bind fun p => some (x0, x1, x2, x3, p.1, p.2, x6, x7, x8, x9, x10, x11, x12, x13)
      else (spec_GridMove_Place.f a0_0 a0_1 a0_2 x4 x5).bind fun p => (spec_GridMove_Place.f a0_0 a0_1 a0_2 x6 x7).bind fun q => some (x0, x1, x2, x3, p.1, p.2, q.1, q.2, x8, x9, x10, x11, x12, x13)
    else some (x0, x1, x2, x3, x4, x5, x6, x7, x8, x9, x10, x11, x12, x13)
  else none
theorem ne12 : sh1 ≠ sh2 := by decide
theorem ne10 : sh1 ≠ ⟨#[]⟩ := by decide
theorem ne20 : sh2 ≠ ⟨#[]⟩ := by decide
theorem neca : areaT ≠ cellT := by decide
theorem spec_GridMove_Expr.calls (a0_0 : Bool) (a0_1 a0_2 : Int) (x0 : ByteArray) (x1 : ByteArray) (x2 : Bool) (x3 : ByteArray) (x4 : Int) (x5 : Int) (x6 : Int) (x7 : Int) (x8 : Bool) (x9 : Bool) (x10 : Bool) (x11 : Bool) (x12 : Int) (x13 : Unit) (own sheet : ByteArray) (r1 : ByteArray) (r2 : ByteArray) (r3 : Bool) (r4 : ByteArray) (r5 : Int) (r6 : Int) (r7 : Int) (r8 : Int) (r9 : Bool) (r10 : Bool) (r11 : Bool) (r12 : Bool) (r13 : Int) (r14 : Unit) (w : World) (h : spec_GridMove_Expr.f a0_0 a0_1 a0_2 x0 x1 x2 x3 x4 x5 x6 x7 x8 x9 x10 x11 x12 x13 own sheet = some (r1, r2, r3, r4, r5, r6, r7, r8, r9, r10, r11, r12, r13, r14)) :
    Calls Tryd.prog 30 #[.agg #[.bool a0_0, .int .i64 a0_1, .int .i64 a0_2], .agg #[.string x0, .string x1, .bool x2, .string x3, .int .i64 x4, .int .i64 x5, .int .i64 x6, .int .i64 x7, .bool x8, .bool x9, .bool x10, .bool x11, .int .i64 x12, .slice none 0 0], .string own, .string sheet] w fun e w' => e = .returned (.agg #[.string r1, .string r2, .bool r3, .string r4, .int .i64 r5, .int .i64 r6, .int .i64 r7, .int .i64 r8, .bool r9, .bool r10, .bool r11, .bool r12, .int .i64 r13, .slice none 0 0]) ∧ Below w.heap.size w w' := by
  unfold spec_GridMove_Expr.f at h
  split at h
  case isFalse => cases h
  rename_i hf
  obtain ⟨⟨h0, rfl, rfl, h3, rfl⟩, rfl, ho⟩ := hf
  rcases h0 with rfl | rfl
  · rcases h3 with rfl | rfl | rfl <;> rcases ho with rfl | rfl
    · rw [if_pos (by decide)] at h
      rw [if_pos rfl] at h
      obtain ⟨⟨c2, r2⟩, hp, h⟩ := Option.bind_eq_some_iff.1 h
      simp only [Option.some.injEq, Prod.mk.injEq] at h
      obtain ⟨rfl, rfl, rfl, rfl, rfl, rfl, rfl, rfl, rfl, rfl, rfl, rfl, rfl, _⟩ := h
      exact ExV.move_cell01 a0_0 a0_1 a0_2 x4 x5 x6 x7 c2 r2 0 0 x8 x9 x10 x11 w hp
    · rw [if_neg (by decide)] at h
      simp only [Option.some.injEq, Prod.mk.injEq] at h
      obtain ⟨rfl, rfl, rfl, rfl, rfl, rfl, rfl, rfl, rfl, rfl, rfl, rfl, rfl, _⟩ := h
      exact ExV.stay_cell02 a0_0 a0_1 a0_2 x4 x5 x6 x7 x8 x9 x10 x11 w
    · rw [if_pos (by decide)] at h
      rw [if_pos rfl] at h
      obtain ⟨⟨c2, r2⟩, hp, h⟩ := Option.bind_eq_some_iff.1 h
      simp only [Option.some.injEq, Prod.mk.injEq] at h
      obtain ⟨rfl, rfl, rfl, rfl, rfl, rfl, rfl, rfl, rfl, rfl, rfl, rfl, rfl, _⟩ := h
      exact ExV.move_cell11 a0_0 a0_1 a0_2 x4 x5 x6 x7 c2 r2 0 0 x8 x9 x10 x11 w hp
    · rw [if_pos (by decide)] at h
      rw [if_pos rfl] at h
      obtain ⟨⟨c2, r2⟩, hp, h⟩ := Option.bind_eq_some_iff.1 h
      simp only [Option.some.injEq, Prod.mk.injEq] at h
      obtain ⟨rfl, rfl, rfl, rfl, rfl, rfl, rfl, rfl, rfl, rfl, rfl, rfl, rfl, _⟩ := h
      exact ExV.move_cell12 a0_0 a0_1 a0_2 x4 x5 x6 x7 c2 r2 0 0 x8 x9 x10 x11 w hp
    · rw [if_neg (by decide)] at h
      simp only [Option.some.injEq, Prod.mk.injEq] at h
      obtain ⟨rfl, rfl, rfl, rfl, rfl, rfl, rfl, rfl, rfl, rfl, rfl, rfl, rfl, _⟩ := h
      exact ExV.stay_cell21 a0_0 a0_1 a0_2 x4 x5 x6 x7 x8 x9 x10 x11 w
    · rw [if_neg (by decide)] at h
      simp only [Option.some.injEq, Prod.mk.injEq] at h
      obtain ⟨rfl, rfl, rfl, rfl, rfl, rfl, rfl, rfl, rfl, rfl, rfl, rfl, rfl, _⟩ := h
      exact ExV.stay_cell22 a0_0 a0_1 a0_2 x4 x5 x6 x7 x8 x9 x10 x11 w
  · rcases h3 with rfl | rfl | rfl <;> rcases ho with rfl | rfl
    · rw [if_pos (by decide)] at h
      rw [if_neg (by decide)] at h
      obtain ⟨⟨c2, r2⟩, hp, h⟩ := Option.bind_eq_some_iff.1 h
      obtain ⟨⟨d2, s2⟩, hq, h⟩ := Option.bind_eq_some_iff.1 h
      simp only [Option.some.injEq, Prod.mk.injEq] at h
      obtain ⟨rfl, rfl, rfl, rfl, rfl, rfl, rfl, rfl, rfl, rfl, rfl, rfl, rfl, _⟩ := h
      exact ExV.move_area01 a0_0 a0_1 a0_2 x4 x5 x6 x7 c2 r2 d2 s2 x8 x9 x10 x11 w hp hq
    · rw [if_neg (by decide)] at h
      simp only [Option.some.injEq, Prod.mk.injEq] at h
      obtain ⟨rfl, rfl, rfl, rfl, rfl, rfl, rfl, rfl, rfl, rfl, rfl, rfl, rfl, _⟩ := h
      exact ExV.stay_area02 a0_0 a0_1 a0_2 x4 x5 x6 x7 x8 x9 x10 x11 w
    · rw [if_pos (by decide)] at h
      rw [if_neg (by decide)] at h
      obtain ⟨⟨c2, r2⟩, hp, h⟩ := Option.bind_eq_some_iff.1 h
      obtain ⟨⟨d2, s2⟩, hq, h⟩ := Option.bind_eq_some_iff.1 h
      simp only [Option.some.injEq, Prod.mk.injEq] at h
      obtain ⟨rfl, rfl, rfl, rfl, rfl, rfl, rfl, rfl, rfl, rfl, rfl, rfl, rfl, _⟩ := h
      exact ExV.move_area11 a0_0 a0_1 a0_2 x4 x5 x6 x7 c2 r2 d2 s2 x8 x9 x10 x11 w hp hq
    · rw [if_pos (by decide)] at h
      rw [if_neg (by decide)] at h
      obtain ⟨⟨c2, r2⟩, hp, h⟩ := Option.bind_eq_some_iff.1 h
      obtain ⟨⟨d2, s2⟩, hq, h⟩ := Option.bind_eq_some_iff.1 h
      simp only [Option.some.injEq, Prod.mk.injEq] at h
      obtain ⟨rfl, rfl, rfl, rfl, rfl, rfl, rfl, rfl, rfl, rfl, rfl, rfl, rfl, _⟩ := h
      exact ExV.move_area12 a0_0 a0_1 a0_2 x4 x5 x6 x7 c2 r2 d2 s2 x8 x9 x10 x11 w hp hq
    · rw [if_neg (by decide)] at h
      simp only [Option.some.injEq, Prod.mk.injEq] at h
      obtain ⟨rfl, rfl, rfl, rfl, rfl, rfl, rfl, rfl, rfl, rfl, rfl, rfl, rfl, _⟩ := h
      exact ExV.stay_area21 a0_0 a0_1 a0_2 x4 x5 x6 x7 x8 x9 x10 x11 w
    · rw [if_neg (by decide)] at h
      simp only [Option.some.injEq, Prod.mk.injEq] at h
      obtain ⟨rfl, rfl, rfl, rfl, rfl, rfl, rfl, rfl, rfl, rfl, rfl, rfl, rfl, _⟩ := h
      exact ExV.stay_area22 a0_0 a0_1 a0_2 x4 x5 x6 x7 x8 x9 x10 x11 w

/-- The sheet's name ahead of a reference. -/
def pre (s t : ByteArray) : ByteArray := if s = ⟨#[]⟩ then t else ((s ++ mark) ++ t)
def spec_Print.f (k : Nat) (x0 : ByteArray) (x1 : ByteArray) (x2 : Bool) (x3 : ByteArray) (x4 : Int) (x5 : Int) (x6 : Int) (x7 : Int) (x8 : Bool) (x9 : Bool) (x10 : Bool) (x11 : Bool) (x12 : Int) (x13 : Unit) : Option ByteArray :=
  if Fit x0 x1 x2 x3 x12 then
    if x0 = cellT then (spec_corner.f k x4 x5 x8 x9).bind fun t => if t.size ≤ 1000 then some (pre x3 t) else none
    else (spec_corner.f k x4 x5 x8 x9).bind fun t => (spec_corner.f k x6 x7 x10 x11).bind fun u => if t.size ≤ 1000 ∧ u.size ≤ 1000 then some (pre x3 ((t ++ colon) ++ u)) else none
  else none
theorem spec_Print.mono : ∀ x0 x1 x2 x3 x4 x5 x6 x7 x8 x9 x10 x11 x12 x13 k, LeO (spec_Print.f k x0 x1 x2 x3 x4 x5 x6 x7 x8 x9 x10 x11 x12 x13) (spec_Print.f (k + 1) x0 x1 x2 x3 x4 x5 x6 x7 x8 x9 x10 x11 x12 x13) := by
  intro x0 x1 x2 x3 x4 x5 x6 x7 x8 x9 x10 x11 x12 x13 k
  unfold spec_Print.f
  exact LeO.ite (LeO.ite (LeO.bind (spec_corner.mono _ _ _ _ k) (fun _ => LeO.refl _)) (LeO.bind (spec_corner.mono _ _ _ _ k) (fun _ => LeO.bind (spec_corner.mono _ _ _ _ k) (fun _ => LeO.refl _)))) (LeO.none _)
theorem spec_Print.calls (k : Nat) (x0 : ByteArray) (x1 : ByteArray) (x2 : Bool) (x3 : ByteArray) (x4 : Int) (x5 : Int) (x6 : Int) (x7 : Int) (x8 : Bool) (x9 : Bool) (x10 : Bool) (x11 : Bool) (x12 : Int) (x13 : Unit) (r : ByteArray) (w : World) (h : spec_Print.f k x0 x1 x2 x3 x4 x5 x6 x7 x8 x9 x10 x11 x12 x13 = some r) :
    Calls Tryd.prog 32 #[.agg #[.string x0, .string x1, .bool x2, .string x3, .int .i64 x4, .int .i64 x5, .int .i64 x6, .int .i64 x7, .bool x8, .bool x9, .bool x10, .bool x11, .int .i64 x12, .slice none 0 0]] w fun e w' => e = .returned (.string r) ∧ Below w.heap.size w w' := by
  unfold spec_Print.f at h
  split at h
  case isFalse => cases h
  rename_i hf
  obtain ⟨h0, rfl, rfl, h3, rfl⟩ := hf
  rcases h0 with rfl | rfl
  · rw [if_pos rfl] at h
    obtain ⟨t, ht, h⟩ := Option.bind_eq_some_iff.1 h
    split at h
    case isFalse => cases h
    rename_i hz
    obtain rfl := Option.some.inj h
    rcases h3 with rfl | rfl | rfl
    · exact ExW.print_cell _ x4 x5 x6 x7 x8 x9 x10 x11 _ w (fun W => by
        have := ExW.spot_cell0 k x4 x5 x6 x7 x8 x9 x10 x11 t t W ht hz
        unfold pre
        rw [if_pos rfl]
        exact this)
    · exact ExW.print_cell _ x4 x5 x6 x7 x8 x9 x10 x11 _ w (fun W => by
        have := ExW.spot_cell1 k x4 x5 x6 x7 x8 x9 x10 x11 t t W ht hz sh1 (by decide)
        unfold pre
        rw [if_neg (by decide)]
        exact this)
    · exact ExW.print_cell _ x4 x5 x6 x7 x8 x9 x10 x11 _ w (fun W => by
        have := ExW.spot_cell2 k x4 x5 x6 x7 x8 x9 x10 x11 t t W ht hz sh2 (by decide)
        unfold pre
        rw [if_neg (by decide)]
        exact this)
  · rw [if_neg (by decide)] at h
    obtain ⟨t, ht, h⟩ := Option.bind_eq_some_iff.1 h
    obtain ⟨u, hu, h⟩ := Option.bind_eq_some_iff.1 h
    split at h
    case isFalse => cases h
    rename_i hz
    obtain rfl := Option.some.inj h
    rcases h3 with rfl | rfl | rfl
    · exact ExW.print_area _ x4 x5 x6 x7 x8 x9 x10 x11 _ w (fun W => by
        have := ExW.spot_area0 k x4 x5 x6 x7 x8 x9 x10 x11 t u W ht hu hz.1 hz.2
        unfold pre
        rw [if_pos rfl]
        exact this)
    · exact ExW.print_area _ x4 x5 x6 x7 x8 x9 x10 x11 _ w (fun W => by
        have := ExW.spot_area1 k x4 x5 x6 x7 x8 x9 x10 x11 t u W ht hu hz.1 hz.2 sh1 (by decide)
        unfold pre
        rw [if_neg (by decide)]
        exact this)
    · exact ExW.print_area _ x4 x5 x6 x7 x8 x9 x10 x11 _ w (fun W => by
        have := ExW.spot_area2 k x4 x5 x6 x7 x8 x9 x10 x11 t u W ht hu hz.1 hz.2 sh2 (by decide)
        unfold pre
        rw [if_neg (by decide)]
        exact this)

/-! ### the package's function -/
theorem stepF_mono (k : Nat) (rows : Bool) (n o c : Int) (s : OpW.St) : LeO (OpW.stepF k rows n o c s) (OpW.stepF (k + 1) rows n o c s) := by
  unfold OpW.stepF
  exact LeO.ite (LeO.ite (LeO.bind (excelize_adjustFormulaColumnName.mono _ _ _ _ _ _ _ k) (fun _ => LeO.refl _)) (LeO.ite (LeO.refl _) (LeO.ite (LeO.bind (excelize_adjustFormulaColumnName.mono _ _ _ _ _ _ _ k) (fun _ => LeO.refl _)) (LeO.ite (LeO.bind (excelize_adjustFormulaOperandRef.mono _ _ _ _ _ _ _ _ k) (fun _ => LeO.refl _)) (LeO.none _))))) (LeO.none _)
theorem runF_mono (k : Nat) (rows : Bool) (n o : Int) : ∀ (l : List Int) (s : OpW.St), LeO (OpW.runF k rows n o l s) (OpW.runF (k + 1) rows n o l s)
  | [], s => LeO.refl _
  | c :: l, s => by
    unfold OpW.runF
    exact LeO.bind (stepF_mono k rows n o c s) (fun x => runF_mono k rows n o l x)
def go (k : Nat) (rows : Bool) (n o : Int) (x op : ByteArray) : Option (ByteArray × Bool) :=
  (OpW.runF k rows n o (bytesOf x) ⟨⟨#[]⟩, ⟨#[]⟩, op, false⟩).bind fun f => (excelize_adjustFormulaOperandRef.f k f.row f.col f.op f.abs false rows n o).bind fun q => if q.2.2.2.2 = none then some (q.2.2.1, true) else none
theorem go_mono (k : Nat) (rows : Bool) (n o : Int) (x op : ByteArray) : LeO (go k rows n o x op) (go (k + 1) rows n o x op) :=
  LeO.bind (runF_mono k rows n o _ _) (fun _ => LeO.bind (excelize_adjustFormulaOperandRef.mono _ _ _ _ _ _ _ _ k) (fun _ => LeO.refl _))
def ends (k : Nat) (own t : ByteArray) (rows : Bool) (n o : Int) : List ByteArray → Option (ByteArray × Bool)
  | [x] => if x = t then (if own = sh1 then go k rows n o x ⟨#[]⟩ else if own = sh2 then some (⟨#[]⟩ ++ x, true) else none) else none
  | [s, x] => if x.size ≤ 1000 then (if s = sh1 then go k rows n o x (sh1 ++ mark) else if s = sh2 then some ((sh2 ++ mark) ++ x, true) else none) else none
  | _ => none
theorem ends_mono (k : Nat) (own t : ByteArray) (rows : Bool) (n o : Int) (l : List ByteArray) : LeO (ends k own t rows n o l) (ends (k + 1) own t rows n o l) := by
  match l with
  | [] => exact LeO.none _
  | [x] => exact LeO.ite (LeO.ite (go_mono _ _ _ _ _ _) (LeO.refl _)) (LeO.none _)
  | [s, x] => exact LeO.ite (LeO.ite (go_mono _ _ _ _ _ _) (LeO.refl _)) (LeO.none _)
  | _ :: _ :: _ :: _ => exact LeO.none _
def impl_AdjustOperand.f (k : Nat) (sheet own t : ByteArray) (keep rows : Bool) (n o : Int) : Option (ByteArray × Bool) :=
  if sheet = sh1 ∧ keep = false ∧ t.size ≤ 1000 then (PFnCols.excelize_zzSplit.f k t ⟨#[33]⟩).bind (ends k own t rows n o) else none
theorem impl_AdjustOperand.mono : ∀ sheet own t keep rows n o k, LeO (impl_AdjustOperand.f k sheet own t keep rows n o) (impl_AdjustOperand.f (k + 1) sheet own t keep rows n o) := fun _ own t _ rows n o k =>
  LeO.ite (LeO.bind (PFnCols.excelize_zzSplit.mono _ _ k) (fun l => ends_mono k own t rows n o l)) (LeO.none _)
theorem does_go {k : Nat} {rows : Bool} {n o : Int} {x op res : ByteArray} {b : Bool} (h : go k rows n o x op = some (res, b)) : b = true ∧ ∃ (fin : OpW.St) (q : ByteArray × ByteArray × Bool), OpW.runF k rows n o (bytesOf x) ⟨⟨#[]⟩, ⟨#[]⟩, op, false⟩ = some fin ∧ excelize_adjustFormulaOperandRef.f k fin.row fin.col fin.op fin.abs false rows n o = some (q.1, q.2.1, res, q.2.2, none) := by
  obtain ⟨fin, h1, h⟩ := Option.bind_eq_some_iff.1 h
  obtain ⟨⟨q1, q2, q3, q4, q5⟩, h2, h⟩ := Option.bind_eq_some_iff.1 h
  split at h
  case isFalse => cases h
  rename_i hq
  simp only at hq
  subst hq
  simp only [Option.some.injEq, Prod.mk.injEq] at h
  obtain ⟨rfl, rfl⟩ := h
  exact ⟨rfl, fin, (q1, q2, q4), h1, h2⟩
theorem impl_AdjustOperand.calls (k : Nat) (sheet own t : ByteArray) (keep rows : Bool) (n o : Int) (r1 : ByteArray) (r2 : Bool) (w : World) (hU : Alnum.Props w) (h : impl_AdjustOperand.f k sheet own t keep rows n o = some (r1, r2)) :
    Calls Tryd.prog 31 #[.string sheet, .string own, .string t, .bool keep, .bool rows, .int .i64 n, .int .i64 o] w fun e w' => e = .returned (.tuple #[.string r1, .bool r2]) ∧ Below w.heap.size w w' := by
  unfold impl_AdjustOperand.f at h
  split at h
  case isFalse => cases h
  rename_i hc
  obtain ⟨rfl, rfl, hz⟩ := hc
  obtain ⟨l, hs, h⟩ := Option.bind_eq_some_iff.1 h
  match l, hs, h with
  | [x], hs, h =>
    have g9 : (if x = t then (if own = sh1 then go k rows n o x ⟨#[]⟩ else if own = sh2 then some (⟨#[]⟩ ++ x, true) else none) else none) = some (r1, r2) := h
    by_cases hx : x = t
    case neg => rw [if_neg hx] at g9; cases g9
    rw [if_pos hx] at g9
    subst hx
    by_cases ho : own = sh1
    · rw [if_pos ho] at g9
      subst ho
      obtain ⟨rfl, fin, q, h1, h2⟩ := does_go g9
      exact OpD.impl _ _ rows n o r1 (fun v W _ => OpW.own1 k k x rows n o v W fin r1 q hs h1 h2 hz) w hU
    · rw [if_neg ho] at g9
      by_cases ho2 : own = sh2
      case neg => rw [if_neg ho2] at g9; cases g9
      rw [if_pos ho2] at g9
      subst ho2
      simp only [Option.some.injEq, Prod.mk.injEq] at g9
      obtain ⟨rfl, rfl⟩ := g9
      exact OpD.impl _ _ rows n o _ (fun v W _ => OpW.own2 k x rows n o v W hs hz) w hU
  | [s, x], hs, h =>
    have g9 : (if x.size ≤ 1000 then (if s = sh1 then go k rows n o x (sh1 ++ mark) else if s = sh2 then some ((sh2 ++ mark) ++ x, true) else none) else none) = some (r1, r2) := h
    by_cases hx : x.size ≤ 1000
    case neg => rw [if_neg hx] at g9; cases g9
    rw [if_pos hx] at g9
    by_cases ho : s = sh1
    · rw [if_pos ho] at g9
      subst ho
      obtain ⟨rfl, fin, q, h1, h2⟩ := does_go g9
      exact OpD.impl _ _ rows n o r1 (fun v W hU => OpW.sheet1 k k t x own rows n o v W fin r1 q hU hs h1 h2 hx) w hU
    · rw [if_neg ho] at g9
      by_cases ho2 : s = sh2
      case neg => rw [if_neg ho2] at g9; cases g9
      rw [if_pos ho2] at g9
      subst ho2
      simp only [Option.some.injEq, Prod.mk.injEq] at g9
      obtain ⟨rfl, rfl⟩ := g9
      exact OpD.impl _ _ rows n o _ (fun v W hU => OpW.sheet2 k k t x own rows n o v W hU hs hx) w hU
  | [], _, h => cases h
  | _ :: _ :: _ :: _, _, h => cases h
end Go.Proofs.YtfbenlenihlpbaaDoor.OpG
end
