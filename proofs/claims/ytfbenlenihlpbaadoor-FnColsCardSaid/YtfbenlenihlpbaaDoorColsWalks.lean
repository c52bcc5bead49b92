/- Walks: the columns of a range of columns, and the law FnCols. -/
import Derived.Test.YtfbenlenihlpbaaDoorCellC
import Derived.Test.YtfbenlenihlpbaaDoorNames
import Derived.Test.YtfbenlenihlpbaaDoorRangeWalks
namespace Go.Proofs.YtfbenlenihlpbaaDoor.ColsWalks
open Go.RowKit Go.Proofs.YtfbenlenihlpbaaDoorW.PrintWords Go.Proofs.YtfbenlenihlpbaaDoorW.PrintLast Go.Proofs.YtfbenlenihlpbaaDoorW.PrintMore
open Go.Proofs.YtfbenlenihlpbaaDoor.Str Go.Proofs.YtfbenlenihlpbaaDoor.CellA Go.Proofs.YtfbenlenihlpbaaDoor.CellB Go.Proofs.YtfbenlenihlpbaaDoor.CellC Go.Proofs.YtfbenlenihlpbaaDoor.Tac Go.Proofs.YtfbenlenihlpbaaDoor.PFnCols

/-- A column's name: one to three capital letters, of a column that there is. -/
structure IsCol (s : ByteArray) (ls : List Int) : Prop where
  all : bytesOf s = ls
  l1 : 1 ≤ ls.length
  l3 : ls.length ≤ 3
  up : ∀ x ∈ ls, 65 ≤ x ∧ x ≤ 90
  cmax : colVal ls ≤ 16384
theorem IsCol.no {s : ByteArray} {ls : List Int} (h : IsCol s ls) : (58 : Int) ∉ bytesOf s := by
  rw [h.all]; intro hm; have := h.up _ hm; omega
theorem IsCol.sz {s : ByteArray} {ls : List Int} (h : IsCol s ls) : s.size ≤ 3 := by
  rw [← bytesOf_length, h.all]; exact h.l3

set_option maxHeartbeats 4000000 in
set_option maxRecDepth 100000 in
theorem parseTwo (pv : Value) (s t : ByteArray) (ls ms : List Int) (h : IsCol s ls) (k : IsCol t ms) (hle : colVal ls ≤ colVal ms) (w : World) :
    Calls Tryd.prog 53 #[pv, .string (s ++ ⟨#[58]⟩ ++ t)] w fun e w' => e = .returned (.tuple #[.int .i64 (colVal ls), .int .i64 (colVal ms), .nilIface]) ∧ Below w.heap.size w w' := by
  obtain ⟨f, hf⟩ : ∃ f, f = 1000001 := ⟨_, rfl⟩
  have hz : (s ++ (⟨#[58]⟩ : ByteArray) ++ t).size ≤ 1000000 := by
    rw [ByteArray.size_append, ByteArray.size_append]
    have := h.sz
    have := k.sz
    have : (⟨#[58]⟩ : ByteArray).size = 1 := rfl
    omega
  have A2 := Aside0.mk (split_two s t ⟨#[58]⟩ 58 rfl h.no k.no hz f (by omega))
  have H := Aside0.mk h
  have K := Aside0.mk k
  have q1 : decide (colVal ms < colVal ls) = false := decide_eq_false (by omega)
  clear h k hz hf hle
  have HB := Aside0.mk (Below.refl w.heap.size w)
  go_enter Tryd.func53, Tryd.ntmps53
  go_upto_region 2 with (first
    | (go_at_call 66; refine (excelize_zzSplit.calls (f + 2) _ _ _ _ A2.out).mono ?_; rintro e w1 ⟨v1, rfl, ho, hb⟩; have HO := Aside0.mk ho; clear ho; (have n0_ := Aside0.mk (below_step (by repeat (first | (with_reducible first | exact HB.out | apply below_alloc | apply pw_below_drewN | apply below_drew1) | exact HB.out)) hb); clear HB; have HB := n0_; clear n0_ hb)))
  obtain ⟨g, c, ev, gb, gl, cl, HG⟩ := Kd.R_form HO.out (by simp)
  have ev' : v1 = .slice (some ⟨g, 0, none⟩) 2 c := ev
  clear ev
  subst ev'
  have hc0 : w1.cell? ⟨g, 0, none⟩ = some (.string s) := (Kd.R_celln ByteArray.empty HO.out 0 (by decide) (by simp)).1
  have hc1 : w1.cell? ⟨g, 1, none⟩ = some (.string t) := (Kd.R_celln ByteArray.empty HO.out 1 (by decide) (by simp)).1
  clear gb gl cl HG
  have GO := Aside0.mk HO.out
  go_upto_region 6 with (first
    | (go_at_call 70; refine (column s ls H.out.all H.out.l1 H.out.l3 H.out.up H.out.cmax _).mono ?_; rintro e w2 ⟨rfl, ⟨nd, rfl⟩⟩))
  go_wp2_with (first
    | (go_at_call 70; refine (column t ms K.out.all K.out.l1 K.out.l3 K.out.up K.out.cmax _).mono ?_; rintro e w3 ⟨rfl, ⟨nd2, rfl⟩⟩))
  go_ret3
  exact ⟨by rfl, by repeat (first | (with_reducible first | exact HB.out | apply below_alloc | apply pw_below_drewN | apply below_drew1) | exact HB.out)⟩

set_option maxHeartbeats 4000000 in
set_option maxRecDepth 100000 in
theorem parseOne (pv : Value) (s : ByteArray) (ls : List Int) (h : IsCol s ls) (w : World) :
    Calls Tryd.prog 53 #[pv, .string s] w fun e w' => e = .returned (.tuple #[.int .i64 (colVal ls), .int .i64 (colVal ls), .nilIface]) ∧ Below w.heap.size w w' := by
  obtain ⟨f, hf⟩ : ∃ f, f = 1000001 := ⟨_, rfl⟩
  have hz : s.size ≤ 1000000 := by
    have := h.sz
    omega
  have A2 := Aside0.mk (split_one s ⟨#[58]⟩ 58 rfl h.no hz f (by omega))
  have H := Aside0.mk h
  have q1 : decide (colVal ls < colVal ls) = false := decide_eq_false (by omega)
  clear h hz hf
  have HB := Aside0.mk (Below.refl w.heap.size w)
  go_enter Tryd.func53, Tryd.ntmps53
  go_upto_region 2 with (first
    | (go_at_call 66; refine (excelize_zzSplit.calls (f + 1) _ _ _ _ A2.out).mono ?_; rintro e w1 ⟨v1, rfl, ho, hb⟩; have HO := Aside0.mk ho; clear ho; (have n0_ := Aside0.mk (below_step (by repeat (first | (with_reducible first | exact HB.out | apply below_alloc | apply pw_below_drewN | apply below_drew1) | exact HB.out)) hb); clear HB; have HB := n0_; clear n0_ hb)))
  obtain ⟨g, c, ev, gb, gl, cl, HG⟩ := Kd.R_form HO.out (by simp)
  have ev' : v1 = .slice (some ⟨g, 0, none⟩) 1 c := ev
  clear ev
  subst ev'
  have hc0 : w1.cell? ⟨g, 0, none⟩ = some (.string s) := (Kd.R_celln ByteArray.empty HO.out 0 (by decide) (by simp)).1
  clear gb gl cl HG
  go_wp2_with (first
    | (go_at_call 70; refine (column s ls H.out.all H.out.l1 H.out.l3 H.out.up H.out.cmax _).mono ?_; rintro e w2 ⟨rfl, ⟨nd, rfl⟩⟩))
  go_ret3
  exact ⟨by rfl, by repeat (first | (with_reducible first | exact HB.out | apply below_alloc | apply pw_below_drewN | apply below_drew1) | exact HB.out)⟩

set_option maxHeartbeats 4000000 in
set_option maxRecDepth 100000 in
theorem doorCols (s : ByteArray) (x y : Int) (h : ∀ (pv : Value) w, Calls Tryd.prog 53 #[pv, .string s] w fun e w' => e = .returned (.tuple #[.int .i64 x, .int .i64 y, .nilIface]) ∧ Below w.heap.size w w') (w : World) :
    Calls Tryd.prog 41 #[.string s] w fun e w' => e = .returned (.tuple #[.int .i64 x, .int .i64 y, .bool true]) ∧ Below w.heap.size w w' := by
  have A := Aside0.mk (fun pv w => h pv w)
  clear h
  have HB := Aside0.mk (Below.refl w.heap.size w)
  go_enter Tryd.func41, Tryd.ntmps41
  go_upto_region 2 with (first
    | (go_at_call 53; refine (A.out _ _).mono ?_; rintro e w1 ⟨rfl, hb⟩; (have n0_ := Aside0.mk (below_step (by repeat (first | (with_reducible first | exact HB.out | apply below_alloc | apply pw_below_drewN | apply below_drew1) | exact HB.out)) hb); clear HB; have HB := n0_; clear n0_ hb)))
  go_quiet (fail)
  go_wp2_with fail
  go_ret3
  exact ⟨by rfl, by repeat (first | (with_reducible first | exact HB.out | apply below_alloc | apply pw_below_drewN | apply below_drew1) | exact HB.out)⟩

set_option maxHeartbeats 4000000 in
set_option maxRecDepth 100000 in
theorem implCols (s : ByteArray) (x y : Int) (h : ∀ (pv : Value) w, Calls Tryd.prog 53 #[pv, .string s] w fun e w' => e = .returned (.tuple #[.int .i64 x, .int .i64 y, .nilIface]) ∧ Below w.heap.size w w') (w : World) :
    Calls Tryd.prog 21 #[.string s] w fun e w' => e = .returned (.tuple #[.int .i64 x, .int .i64 y, .bool true]) ∧ Below w.heap.size w w' := by
  have A := Aside0.mk (fun w => doorCols s x y h w)
  clear h
  have HB := Aside0.mk (Below.refl w.heap.size w)
  go_enter Tryd.func21, Tryd.ntmps21
  go_wp2_with (first
    | (go_at_call 41; refine (A.out _).mono ?_; rintro e w1 ⟨rfl, hb⟩; (have n0_ := Aside0.mk (below_step (by repeat (first | (with_reducible first | exact HB.out | apply below_alloc | apply pw_below_drewN | apply below_drew1) | exact HB.out)) hb); clear HB; have HB := n0_; clear n0_ hb)))
  go_ret3
  exact ⟨by rfl, by repeat (first | (with_reducible first | exact HB.out | apply below_alloc | apply pw_below_drewN | apply below_drew1) | exact HB.out)⟩

set_option maxHeartbeats 4000000 in
set_option maxRecDepth 100000 in
theorem walk (a b x y : Int) (hx : PgridNumber.laws_gridNumber.f a 16384 = some x) (hy : PgridNumber.laws_gridNumber.f b 16384 = some y) (kc kd : Nat) (c d : ByteArray) (p q : Int) (hp : min x y = p) (hq : max x y = q)
    (h1 : PColumnName.spec_ColumnName.f kc p = some (c, true)) (h2 : PColumnName.spec_ColumnName.f kd q = some (d, true)) (hs : c.size ≤ 100 ∧ d.size ≤ 100)
    (k1 : ∀ w, Calls Tryd.prog 21 #[.string (c ++ ⟨#[58]⟩ ++ d)] w fun e w' => e = .returned (.tuple #[.int .i64 p, .int .i64 q, .bool true]) ∧ Below w.heap.size w w')
    (k2 : ∀ w, Calls Tryd.prog 21 #[.string c] w fun e w' => e = .returned (.tuple #[.int .i64 p, .int .i64 p, .bool true]) ∧ Below w.heap.size w w') (w : World) :
    Calls Tryd.prog 5 #[.int .i64 a, .int .i64 b] w fun e w' => e = .returned (.bool true) ∧ Below w.heap.size w w' := by
  have X := Aside0.mk hx
  have Y := Aside0.mk hy
  have A1 := Aside0.mk h1
  have A2 := Aside0.mk h2
  have K1 := Aside0.mk k1
  have K2 := Aside0.mk k2
  obtain ⟨s1, s2⟩ := hs
  have z1 : (c ++ (⟨#[58]⟩ : ByteArray)).size ≤ 101 := by rw [ByteArray.size_append]; have : (⟨#[58]⟩ : ByteArray).size = 1 := rfl; omega
  have P1 := Aside0.mk hp
  have Q1 := Aside0.mk hq
  clear hx hy h1 h2 k1 k2 hp hq
  have HB := Aside0.mk (Below.refl w.heap.size w)
  go_enter Tryd.func5, Tryd.ntmps5
  go_upto_region 3 with (first
    | (go_at_call 19; (first | (with_reducible refine (PgridNumber.laws_gridNumber.calls a 16384 x _ X.out).mono ?_) | (with_reducible refine (PgridNumber.laws_gridNumber.calls b 16384 y _ Y.out).mono ?_)); rintro e w1 ⟨rfl, ⟨⟨nd, rfl⟩⟩⟩))
  rw [P1.out, Q1.out]
  go_upto_region 4 with (first
    | (go_at_call 20; refine (PColumnName.spec_ColumnName.calls kc _ _ _ _ A1.out).mono ?_; rintro e w2 ⟨rfl, hb⟩; (have n0_ := Aside0.mk (below_step (by repeat (first | (with_reducible first | exact HB.out | apply below_alloc | apply pw_below_drewN | apply below_drew1) | exact HB.out)) hb); clear HB; have HB := n0_; clear n0_ hb)))
  go_upto_region 5 with (first
    | (go_at_call 20; refine (PColumnName.spec_ColumnName.calls kd _ _ _ _ A2.out).mono ?_; rintro e w3 ⟨rfl, hb⟩; (have n0_ := Aside0.mk (below_step (by repeat (first | (with_reducible first | exact HB.out | apply below_alloc | apply pw_below_drewN | apply below_drew1) | exact HB.out)) hb); clear HB; have HB := n0_; clear n0_ hb)))
  go_upto_region 6 with (first
    | (go_at_call 21; refine (K1.out _).mono ?_; rintro e w4 ⟨rfl, hb⟩; (have n0_ := Aside0.mk (below_step (by repeat (first | (with_reducible first | exact HB.out | apply below_alloc | apply pw_below_drewN | apply below_drew1) | exact HB.out)) hb); clear HB; have HB := n0_; clear n0_ hb)))
  go_wp2_with (first
    | (go_at_call 21; refine (K2.out _).mono ?_; rintro e w5 ⟨rfl, hb⟩; (have n0_ := Aside0.mk (below_step (by repeat (first | (with_reducible first | exact HB.out | apply below_alloc | apply pw_below_drewN | apply below_drew1) | exact HB.out)) hb); clear HB; have HB := n0_; clear n0_ hb))
    | (go_at_call 14; refine (refLives _).mono ?_; rintro e w7 ⟨rfl, hb⟩; (have n0_ := Aside0.mk (below_step (by repeat (first | (with_reducible first | exact HB.out | apply below_alloc | apply pw_below_drewN | apply below_drew1) | exact HB.out)) hb); clear HB; have HB := n0_; clear n0_ hb)))
  go_ret
  exact ⟨by rfl, by repeat (first | (with_reducible first | exact HB.out | apply below_alloc | apply pw_below_drewN | apply below_drew1) | exact HB.out)⟩

set_option maxHeartbeats 1000000 in
set_option maxRecDepth 100000 in
theorem law (a b : Int) (w : World) : Calls Tryd.prog 5 #[.int .i64 a, .int .i64 b] w fun e w' => e = .returned (.bool true) ∧ Below w.heap.size w w' := by
  obtain ⟨x, hx, x1, x2⟩ := RangeWalks.grid a 16384 (by decide)
  obtain ⟨y, hy, y1, y2⟩ := RangeWalks.grid b 16384 (by decide)
  obtain ⟨p, hp⟩ : ∃ p, min x y = p := ⟨_, rfl⟩
  obtain ⟨q, hq⟩ : ∃ q, max x y = q := ⟨_, rfl⟩
  obtain ⟨kc, c, ls, c1, c2, c3, c4, c5, c6⟩ := Names.column_name p (by omega) (by omega)
  obtain ⟨kd, d, ms, d1, d2, d3, d4, d5, d6⟩ := Names.column_name q (by omega) (by omega)
  have ic : IsCol c ls := ⟨c2, c3, c4, c5, by omega⟩
  have id' : IsCol d ms := ⟨d2, d3, d4, d5, by omega⟩
  have hle : colVal ls ≤ colVal ms := by omega
  have sc : c.size ≤ 100 := by have := ic.sz; omega
  have sd : d.size ≤ 100 := by have := id'.sz; omega
  clear x1 x2 y1 y2
  have e1 := fun w => implCols _ _ _ (fun pv w => parseTwo pv c d ls ms ic id' hle w) w
  have e2 := fun w => implCols _ _ _ (fun pv w => parseOne pv c ls ic w) w
  rw [c6] at e2
  rw [c6, d6] at e1
  exact walk a b x y hx hy kc kd c d p q hp hq c1 d1 ⟨sc, sd⟩ e1 e2 w
end Go.Proofs.YtfbenlenihlpbaaDoor.ColsWalks
