/- Walks: the area made of any numbers, and the law FnRangeRead down to its plain words. -/
import Derived.Test.YtfbenlenihlpbaaDoorCellC
import Derived.Test.YtfbenlenihlpbaaDoorPgridNumberx1
import Derived.Test.YtfbenlenihlpbaaDoorPrefSameIntsx1
import Derived.Test.YtfbenlenihlpbaaDoorPColumnNamex1
import Derived.Test.YtfbenlenihlpbaaDoorPDigitsx1
import Derived.Test.YtfbenlenihlpbaaDoorNames
namespace Go.Proofs.YtfbenlenihlpbaaDoor.RangeWalks
open Go.RowKit Go.Proofs.YtfbenlenihlpbaaDoorW.PrintWords Go.Proofs.YtfbenlenihlpbaaDoorW.PrintLast Go.Proofs.YtfbenlenihlpbaaDoorW.PrintMore
open Go.Proofs.YtfbenlenihlpbaaDoor.Str Go.Proofs.YtfbenlenihlpbaaDoor.CellB Go.Proofs.YtfbenlenihlpbaaDoor.CellC Go.Proofs.YtfbenlenihlpbaaDoor.Tac

theorem size_arr : (Tryd.prog.info? 22).map (·.size) = some 4 := by kernel_rfl
set_option maxHeartbeats 2000000 in
set_option maxRecDepth 100000 in
theorem refArea (a b c d : Int) (w : World) (x y z t : Int) (hx : PgridNumber.laws_gridNumber.f a 16384 = some x) (hy : PgridNumber.laws_gridNumber.f b 1048576 = some y) (hz : PgridNumber.laws_gridNumber.f c 16384 = some z) (ht : PgridNumber.laws_gridNumber.f d 1048576 = some t) :
    Calls Tryd.prog 10 #[.agg #[.int .i64 a, .int .i64 b, .int .i64 c, .int .i64 d]] w fun e w' => e = .returned (.agg #[.int .i64 (min x z), .int .i64 (min y t), .int .i64 (max x z), .int .i64 (max y t)]) ∧ Below w.heap.size w w' := by
  have X := Aside0.mk hx
  have Y := Aside0.mk hy
  have Z := Aside0.mk hz
  have T := Aside0.mk ht
  clear hx hy hz ht
  have HB := Aside0.mk (Below.refl w.heap.size w)
  go_enter Tryd.func10, Tryd.ntmps10
  go_upto_region 1 with fail
  have hb : Below w.heap.size w ((w.alloc (Obj.cells #[Value.int IntKind.i64 a, Value.int IntKind.i64 b, Value.int IntKind.i64 c, Value.int IntKind.i64 d] 22)).alloc (Obj.cells #[Value.int IntKind.i64 0, Value.int IntKind.i64 0, Value.int IntKind.i64 0, Value.int IntKind.i64 0] 22)) := by repeat (first | (with_reducible first | exact HB.out | apply below_alloc | apply pw_below_drewN | apply below_drew1) | exact HB.out)
  have h1 : ((w.alloc (Obj.cells #[Value.int IntKind.i64 a, Value.int IntKind.i64 b, Value.int IntKind.i64 c, Value.int IntKind.i64 d] 22)).alloc (Obj.cells #[Value.int IntKind.i64 0, Value.int IntKind.i64 0, Value.int IntKind.i64 0, Value.int IntKind.i64 0] 22)).heap[w.heap.size]? = some (.cells #[Value.int IntKind.i64 a, Value.int IntKind.i64 b, Value.int IntKind.i64 c, Value.int IntKind.i64 d] 22 (0, 0)) := blk_alloc (blk_new _ _) _
  have h2 : ((w.alloc (Obj.cells #[Value.int IntKind.i64 a, Value.int IntKind.i64 b, Value.int IntKind.i64 c, Value.int IntKind.i64 d] 22)).alloc (Obj.cells #[Value.int IntKind.i64 0, Value.int IntKind.i64 0, Value.int IntKind.i64 0, Value.int IntKind.i64 0] 22)).heap[w.heap.size + 1]? = some (.cells #[Value.int IntKind.i64 0, Value.int IntKind.i64 0, Value.int IntKind.i64 0, Value.int IntKind.i64 0] 22 (0, 0)) := by
    have := blk_new (w.alloc (Obj.cells #[Value.int IntKind.i64 a, Value.int IntKind.i64 b, Value.int IntKind.i64 c, Value.int IntKind.i64 d] 22)) (Obj.cells #[Value.int IntKind.i64 0, Value.int IntKind.i64 0, Value.int IntKind.i64 0, Value.int IntKind.i64 0] 22)
    rwa [World.size_alloc] at this
  generalize ((w.alloc (Obj.cells #[Value.int IntKind.i64 a, Value.int IntKind.i64 b, Value.int IntKind.i64 c, Value.int IntKind.i64 d] 22)).alloc (Obj.cells #[Value.int IntKind.i64 0, Value.int IntKind.i64 0, Value.int IntKind.i64 0, Value.int IntKind.i64 0] 22)) = w0 at hb h1 h2 ⊢
  have H1 := Aside0.mk h1
  have H2 := Aside0.mk h2
  clear HB h1 h2
  have HB := Aside0.mk hb
  clear hb
  have c0 : w0.cell? ⟨w.heap.size, 0, none⟩ = some (.int .i64 a) := blk_cell H1.out 0
  have c1 : w0.cell? ⟨w.heap.size, 1, none⟩ = some (.int .i64 b) := blk_cell H1.out 1
  have c2 : w0.cell? ⟨w.heap.size, 2, none⟩ = some (.int .i64 c) := blk_cell H1.out 2
  have c3 : w0.cell? ⟨w.heap.size, 3, none⟩ = some (.int .i64 d) := blk_cell H1.out 3
  have qx := Aside0.mk (fun W n => quiet0 (n := n) (w := W) (PgridNumber.laws_gridNumber.calls a 16384 x (W.drewN n) X.out))
  have qy := Aside0.mk (fun W n => quiet0 (n := n) (w := W) (PgridNumber.laws_gridNumber.calls b 1048576 y (W.drewN n) Y.out))
  have qz := Aside0.mk (fun W n => quiet0 (n := n) (w := W) (PgridNumber.laws_gridNumber.calls c 16384 z (W.drewN n) Z.out))
  have qt := Aside0.mk (fun W n => quiet0 (n := n) (w := W) (PgridNumber.laws_gridNumber.calls d 1048576 t (W.drewN n) T.out))
  go_quiet (first
    | (go_at_call 19; with_reducible exact qx.out _ _)
    | (go_at_call 19; with_reducible exact qy.out _ _))
  go_upto_region 2 with fail
  have hb : Below w.heap.size w (w0.drewN nq) := by repeat (first | (with_reducible first | exact HB.out | apply below_alloc | apply pw_below_drewN | apply below_drew1) | exact HB.out)
  have h2 : (w0.drewN nq).heap[w.heap.size + 1]? = _ := H2.out
  replace c2 : (w0.drewN nq).cell? ⟨w.heap.size, 2, none⟩ = some (.int .i64 c) := c2
  replace c3 : (w0.drewN nq).cell? ⟨w.heap.size, 3, none⟩ = some (.int .i64 d) := c3
  clear HB H2 H1 c0 c1 qx qy
  generalize w0.drewN nq = w1 at hb h2 c2 c3 ⊢
  have HB := Aside0.mk hb
  have H2 := Aside0.mk h2
  clear hb h2
  go_quiet (first
    | (go_at_call 19; with_reducible exact qz.out _ _)
    | (go_at_call 19; with_reducible exact qt.out _ _))
  go_upto_region 3 with fail
  have hb : Below w.heap.size w (w1.drewN nq) := by repeat (first | (with_reducible first | exact HB.out | apply below_alloc | apply pw_below_drewN | apply below_drew1) | exact HB.out)
  have h2 : (w1.drewN nq).heap[w.heap.size + 1]? = _ := H2.out
  clear HB H2 c2 c3 qz qt
  generalize w1.drewN nq = w2 at hb h2 ⊢
  have HB := Aside0.mk hb
  have H2 := Aside0.mk h2
  clear hb h2
  have GB := Aside0.mk (show w.heap.size ≤ w.heap.size + 1 from Nat.le_succ _)
  go_wp2_with (first
    | ((with_reducible refine gate_store (t := 22) (p := 2) rfl ?_); go_loud (refine store_event (t := 22) (p := 2) (v := ?v_w3) (w1 := ((((w2).setCell ⟨(w.heap.size + 1), 0, none⟩ (.int .i64 (min x z))).setCell ⟨(w.heap.size + 1), 1, none⟩ (.int .i64 (min y t))).setCell ⟨(w.heap.size + 1), 2, none⟩ (.int .i64 (max x z))).setCell ⟨(w.heap.size + 1), 3, none⟩ (.int .i64 (max y t))) ?hg ?ho ?hn ?hr ?_; (case ho => rfl); (case hg => rfl); (case hn => rfl); (case hr => have b0 : w2.heap[(w.heap.size + 1)]? = some (.cells #[.int .i64 (0), .int .i64 (0), .int .i64 (0), .int .i64 (0)] 22 (0, 0)) := H2.out; have f0 : (w2).cell? ⟨(w.heap.size + 1), 0, none⟩ = some (.int .i64 (0)) := blk_cell b0 0; have z0 := blk_frozen b0 0; have b1 : ((w2).setCell ⟨(w.heap.size + 1), 0, none⟩ (.int .i64 (min x z))).heap[(w.heap.size + 1)]? = some (.cells #[.int .i64 (min x z), .int .i64 (0), .int .i64 (0), .int .i64 (0)] 22 (0, 0)) := blk_put b0 0 _ rfl; have f1 : ((w2).setCell ⟨(w.heap.size + 1), 0, none⟩ (.int .i64 (min x z))).cell? ⟨(w.heap.size + 1), 1, none⟩ = some (.int .i64 (0)) := blk_cell b1 1; have z1 := blk_frozen b1 1; have b2 : (((w2).setCell ⟨(w.heap.size + 1), 0, none⟩ (.int .i64 (min x z))).setCell ⟨(w.heap.size + 1), 1, none⟩ (.int .i64 (min y t))).heap[(w.heap.size + 1)]? = some (.cells #[.int .i64 (min x z), .int .i64 (min y t), .int .i64 (0), .int .i64 (0)] 22 (0, 0)) := blk_put b1 1 _ rfl; have f2 : (((w2).setCell ⟨(w.heap.size + 1), 0, none⟩ (.int .i64 (min x z))).setCell ⟨(w.heap.size + 1), 1, none⟩ (.int .i64 (min y t))).cell? ⟨(w.heap.size + 1), 2, none⟩ = some (.int .i64 (0)) := blk_cell b2 2; have z2 := blk_frozen b2 2; have b3 : ((((w2).setCell ⟨(w.heap.size + 1), 0, none⟩ (.int .i64 (min x z))).setCell ⟨(w.heap.size + 1), 1, none⟩ (.int .i64 (min y t))).setCell ⟨(w.heap.size + 1), 2, none⟩ (.int .i64 (max x z))).heap[(w.heap.size + 1)]? = some (.cells #[.int .i64 (min x z), .int .i64 (min y t), .int .i64 (max x z), .int .i64 (0)] 22 (0, 0)) := blk_put b2 2 _ rfl; have f3 : ((((w2).setCell ⟨(w.heap.size + 1), 0, none⟩ (.int .i64 (min x z))).setCell ⟨(w.heap.size + 1), 1, none⟩ (.int .i64 (min y t))).setCell ⟨(w.heap.size + 1), 2, none⟩ (.int .i64 (max x z))).cell? ⟨(w.heap.size + 1), 3, none⟩ = some (.int .i64 (0)) := blk_cell b3 3; have z3 := blk_frozen b3 3; have b4 : (((((w2).setCell ⟨(w.heap.size + 1), 0, none⟩ (.int .i64 (min x z))).setCell ⟨(w.heap.size + 1), 1, none⟩ (.int .i64 (min y t))).setCell ⟨(w.heap.size + 1), 2, none⟩ (.int .i64 (max x z))).setCell ⟨(w.heap.size + 1), 3, none⟩ (.int .i64 (max y t))).heap[(w.heap.size + 1)]? = some (.cells #[.int .i64 (min x z), .int .i64 (min y t), .int .i64 (max x z), .int .i64 (max y t)] 22 (0, 0)) := blk_put b3 3 _ rfl;  first | (go_simp; done) | (go_simp; rfl)); intro w3 hw; have hh : w3.heap[(w.heap.size + 1)]? = some (.cells #[.int .i64 (min x z), .int .i64 (min y t), .int .i64 (max x z), .int .i64 (max y t)] 22 (0, 0)) := (by have b0 : w2.heap[(w.heap.size + 1)]? = some (.cells #[.int .i64 (0), .int .i64 (0), .int .i64 (0), .int .i64 (0)] 22 (0, 0)) := H2.out; have f0 : (w2).cell? ⟨(w.heap.size + 1), 0, none⟩ = some (.int .i64 (0)) := blk_cell b0 0; have z0 := blk_frozen b0 0; have b1 : ((w2).setCell ⟨(w.heap.size + 1), 0, none⟩ (.int .i64 (min x z))).heap[(w.heap.size + 1)]? = some (.cells #[.int .i64 (min x z), .int .i64 (0), .int .i64 (0), .int .i64 (0)] 22 (0, 0)) := blk_put b0 0 _ rfl; have f1 : ((w2).setCell ⟨(w.heap.size + 1), 0, none⟩ (.int .i64 (min x z))).cell? ⟨(w.heap.size + 1), 1, none⟩ = some (.int .i64 (0)) := blk_cell b1 1; have z1 := blk_frozen b1 1; have b2 : (((w2).setCell ⟨(w.heap.size + 1), 0, none⟩ (.int .i64 (min x z))).setCell ⟨(w.heap.size + 1), 1, none⟩ (.int .i64 (min y t))).heap[(w.heap.size + 1)]? = some (.cells #[.int .i64 (min x z), .int .i64 (min y t), .int .i64 (0), .int .i64 (0)] 22 (0, 0)) := blk_put b1 1 _ rfl; have f2 : (((w2).setCell ⟨(w.heap.size + 1), 0, none⟩ (.int .i64 (min x z))).setCell ⟨(w.heap.size + 1), 1, none⟩ (.int .i64 (min y t))).cell? ⟨(w.heap.size + 1), 2, none⟩ = some (.int .i64 (0)) := blk_cell b2 2; have z2 := blk_frozen b2 2; have b3 : ((((w2).setCell ⟨(w.heap.size + 1), 0, none⟩ (.int .i64 (min x z))).setCell ⟨(w.heap.size + 1), 1, none⟩ (.int .i64 (min y t))).setCell ⟨(w.heap.size + 1), 2, none⟩ (.int .i64 (max x z))).heap[(w.heap.size + 1)]? = some (.cells #[.int .i64 (min x z), .int .i64 (min y t), .int .i64 (max x z), .int .i64 (0)] 22 (0, 0)) := blk_put b2 2 _ rfl; have f3 : ((((w2).setCell ⟨(w.heap.size + 1), 0, none⟩ (.int .i64 (min x z))).setCell ⟨(w.heap.size + 1), 1, none⟩ (.int .i64 (min y t))).setCell ⟨(w.heap.size + 1), 2, none⟩ (.int .i64 (max x z))).cell? ⟨(w.heap.size + 1), 3, none⟩ = some (.int .i64 (0)) := blk_cell b3 3; have z3 := blk_frozen b3 3; have b4 : (((((w2).setCell ⟨(w.heap.size + 1), 0, none⟩ (.int .i64 (min x z))).setCell ⟨(w.heap.size + 1), 1, none⟩ (.int .i64 (min y t))).setCell ⟨(w.heap.size + 1), 2, none⟩ (.int .i64 (max x z))).setCell ⟨(w.heap.size + 1), 3, none⟩ (.int .i64 (max y t))).heap[(w.heap.size + 1)]? = some (.cells #[.int .i64 (min x z), .int .i64 (min y t), .int .i64 (max x z), .int .i64 (max y t)] 22 (0, 0)) := blk_put b3 3 _ rfl;  rw [hw]; exact b4); have hb : Below w.heap.size w w3 := (by rw [hw]; exact below_set (below_set (below_set (below_set (by repeat (first | (with_reducible first | exact HB.out | apply below_alloc | apply pw_below_drewN | apply below_drew1) | exact HB.out)) GB.out) GB.out) GB.out) GB.out); clear hw HB H2; have HB := Aside0.mk hb; have H2 := Aside0.mk hh; clear hb hh)))
  go_wp2
  refine bodyPost_ret (results_single rfl (.cell (w.heap.size + 1) _ _ _ _ rfl H2.out Tryd.underlying22 rfl size_arr .nil)) rfl ?_
  exact ⟨rfl, by repeat (first | (with_reducible first | exact HB.out | apply below_alloc | apply pw_below_drewN | apply below_drew1) | exact HB.out)⟩

set_option maxHeartbeats 2000000 in
set_option maxRecDepth 100000 in
theorem cellNameAbs (c r : Int) (kc kd : Nat) (name t : ByteArray) (h1 : PColumnName.spec_ColumnName.f kc c = some (name, true)) (h2 : PDigits.spec_Digits.f kd r 10 = some t) (hr : 1 ≤ r ∧ r ≤ 1048576) (hs : name.size ≤ 100 ∧ t.size ≤ 100) (abs : Bool) (w : World) :
    Calls Tryd.prog 11 #[.int .i64 c, .int .i64 r, .bool abs] w fun e w' => e = .returned (.tuple #[.string (if abs then (((⟨#[36]⟩ : ByteArray) ++ name) ++ ⟨#[36]⟩) ++ t else name ++ t), .bool true]) ∧ Below w.heap.size w w' := by
  have A1 := Aside0.mk h1
  have A2 := Aside0.mk h2
  obtain ⟨r1, r2⟩ := hr
  have r3 : decide (r < 1) = false := decide_eq_false (by omega)
  have r4 : decide (1048576 < r) = false := decide_eq_false (by omega)
  obtain ⟨s1, s2⟩ := hs
  have z1 : ((⟨#[36]⟩ : ByteArray) ++ name).size ≤ 101 := by rw [ByteArray.size_append]; have : (⟨#[36]⟩ : ByteArray).size = 1 := rfl; omega
  have z2 : (((⟨#[36]⟩ : ByteArray) ++ name) ++ ⟨#[36]⟩).size ≤ 102 := by rw [ByteArray.size_append]; have : (⟨#[36]⟩ : ByteArray).size = 1 := rfl; omega
  clear h1 h2
  have HB := Aside0.mk (Below.refl w.heap.size w)
  cases abs
  all_goals (
    go_enter Tryd.func11, Tryd.ntmps11
    go_wp2_with (first
      | (go_at_call 20; refine (PColumnName.spec_ColumnName.calls kc _ _ _ _ A1.out).mono ?_; rintro e w1 ⟨rfl, hb⟩; (have n0_ := Aside0.mk (below_step (by repeat (first | (with_reducible first | exact HB.out | apply below_alloc | apply pw_below_drewN | apply below_drew1) | exact HB.out)) hb); clear HB; have HB := n0_; clear n0_ hb))
      | (go_at_call 36; refine (PDigits.spec_Digits.calls kd _ _ _ _ A2.out).mono ?_; rintro e w2 ⟨rfl, ⟨⟨nd, rfl⟩⟩⟩)))
  all_goals (go_ret2; exact ⟨by rfl, by repeat (first | (with_reducible first | exact HB.out | apply below_alloc | apply pw_below_drewN | apply below_drew1) | exact HB.out)⟩)

theorem grid (a n : Int) (h : 1 ≤ n ∧ n ≤ 1048576) : ∃ x, PgridNumber.laws_gridNumber.f a n = some x ∧ 1 ≤ x ∧ x ≤ n := by
  unfold PgridNumber.laws_gridNumber.f
  rw [if_neg (by omega)]
  have h1 : -n < Int.tmod a n ∧ Int.tmod a n < n := by
    by_cases h0 : 0 ≤ a
    · rw [Int.tmod_eq_emod_of_nonneg h0]
      have := Int.emod_nonneg a (show n ≠ 0 by omega)
      have := Int.emod_lt_of_pos a (show 0 < n by omega)
      omega
    · have e : Int.tmod a n = -((-a) % n) := by
        rw [← Int.tmod_eq_emod_of_nonneg (show 0 ≤ -a by omega), Int.neg_tmod]; omega
      rw [e]
      have := Int.emod_nonneg (-a) (show n ≠ 0 by omega)
      have := Int.emod_lt_of_pos (-a) (show 0 < n by omega)
      omega
  split
  · rw [w64 (Int.tmod a n + n) (by omega) (by omega), w64 _ (by omega) (by omega)]
    exact ⟨_, rfl, by omega, by omega⟩
  · rw [w64 _ (by omega) (by omega)]
    exact ⟨_, rfl, by omega, by omega⟩

theorem same4 (a b c d : Int) : PrefSameInts.laws_refSameInts.f 6 [a, b, c, d] [a, b, c, d] = some true := by
  simp [PrefSameInts.laws_refSameInts.f, PrefSameInts.laws_refSameInts.l0, w64, rd]

abbrev AR (a b c d : Int) : Obj := .cells #[.int .i64 a, .int .i64 b, .int .i64 c, .int .i64 d] 22 (0, 0)
def written (abs : Bool) (name t : ByteArray) : ByteArray := if abs then (((⟨#[36]⟩ : ByteArray) ++ name) ++ ⟨#[36]⟩) ++ t else name ++ t

set_option maxHeartbeats 2000000 in
set_option maxRecDepth 100000 in
theorem walk (a b c d : Int) (abs : Bool) (w : World) (p q r s : Int) (n1 n2 : ByteArray)
    (hA : ∀ w, Calls Tryd.prog 10 #[.agg #[.int .i64 a, .int .i64 b, .int .i64 c, .int .i64 d]] w fun e w' => e = .returned (.agg #[.int .i64 p, .int .i64 q, .int .i64 r, .int .i64 s]) ∧ Below w.heap.size w w')
    (hN1 : ∀ w, Calls Tryd.prog 11 #[.int .i64 p, .int .i64 q, .bool abs] w fun e w' => e = .returned (.tuple #[.string n1, .bool true]) ∧ Below w.heap.size w w')
    (hN2 : ∀ w, Calls Tryd.prog 11 #[.int .i64 r, .int .i64 s, .bool abs] w fun e w' => e = .returned (.tuple #[.string n2, .bool true]) ∧ Below w.heap.size w w')
    (hR : ∀ w, Calls Tryd.prog 12 #[.string (n1 ++ ⟨#[58]⟩ ++ n2)] w fun e w' => ∃ v, e = .returned (.tuple #[v, .bool true]) ∧ Kd.R (Kd.int .i64) 3 w' w.heap.size (fun _ => True) v [p, q, r, s] ∧ Below w.heap.size w w')
    (hs : n1.size ≤ 1000 ∧ n2.size ≤ 1000) :
    Calls Tryd.prog 3 #[.agg #[.int .i64 a, .int .i64 b, .int .i64 c, .int .i64 d], .bool abs] w fun e w' => e = .returned (.bool true) ∧ Below w.heap.size w w' := by
  have A := Aside0.mk hA
  have N1 := Aside0.mk hN1
  have N2 := Aside0.mk hN2
  have R := Aside0.mk hR
  obtain ⟨s1, s2⟩ := hs
  have z1 : (n1 ++ (⟨#[58]⟩ : ByteArray)).size ≤ 1001 := by rw [ByteArray.size_append]; have : (⟨#[58]⟩ : ByteArray).size = 1 := rfl; omega
  clear hA hN1 hN2 hR
  have HB := Aside0.mk (Below.refl w.heap.size w)
  go_enter Tryd.func3, Tryd.ntmps3
  go_upto_region 1 with fail
  have hb : Below w.heap.size w (w.alloc (AR a b c d)) := by repeat (first | (with_reducible first | exact HB.out | apply below_alloc | apply pw_below_drewN | apply below_drew1) | exact HB.out)
  have h1 : (w.alloc (AR a b c d)).heap[w.heap.size]? = some (AR a b c d) := blk_new _ _
  generalize w.alloc (AR a b c d) = w0 at hb h1 ⊢
  have H1 := Aside0.mk h1
  clear HB h1
  have HB := Aside0.mk hb
  clear hb
  have GB := Aside0.mk (Nat.le_refl w.heap.size)
  have c0 : w0.cell? ⟨w.heap.size, 0, none⟩ = some (.int .i64 a) := blk_cell H1.out 0
  have c1 : w0.cell? ⟨w.heap.size, 1, none⟩ = some (.int .i64 b) := blk_cell H1.out 1
  have c2 : w0.cell? ⟨w.heap.size, 2, none⟩ = some (.int .i64 c) := blk_cell H1.out 2
  have c3 : w0.cell? ⟨w.heap.size, 3, none⟩ = some (.int .i64 d) := blk_cell H1.out 3
  go_upto_region 2 with (first
    | (go_at_call 10; refine (A.out _).mono ?_; rintro e w1 ⟨rfl, hb⟩; have H2 := Aside0.mk (blk_below H1.out hb); clear H1; (have n0_ := Aside0.mk (below_step (by repeat (first | (with_reducible first | exact HB.out | apply below_alloc | apply pw_below_drewN | apply below_drew1) | exact HB.out)) hb); clear HB; have HB := n0_; clear n0_ hb); clear c0 c1 c2 c3)
    | ((with_reducible refine gate_store (t := 22) (p := 2) rfl ?_); go_loud (refine store_event (t := 22) (p := 2) (v := ?v_w2) (w1 := ((((w1).setCell ⟨w.heap.size, 0, none⟩ (.int .i64 (p))).setCell ⟨w.heap.size, 1, none⟩ (.int .i64 (q))).setCell ⟨w.heap.size, 2, none⟩ (.int .i64 (r))).setCell ⟨w.heap.size, 3, none⟩ (.int .i64 (s))) ?hg ?ho ?hn ?hr ?_; (case ho => rfl); (case hg => rfl); (case hn => rfl); (case hr => have b0 : w1.heap[w.heap.size]? = some (.cells #[.int .i64 (a), .int .i64 (b), .int .i64 (c), .int .i64 (d)] 22 (0, 0)) := H2.out; have f0 : (w1).cell? ⟨w.heap.size, 0, none⟩ = some (.int .i64 (a)) := blk_cell b0 0; have z0 := blk_frozen b0 0; have b1 : ((w1).setCell ⟨w.heap.size, 0, none⟩ (.int .i64 (p))).heap[w.heap.size]? = some (.cells #[.int .i64 (p), .int .i64 (b), .int .i64 (c), .int .i64 (d)] 22 (0, 0)) := blk_put b0 0 _ rfl; have f1 : ((w1).setCell ⟨w.heap.size, 0, none⟩ (.int .i64 (p))).cell? ⟨w.heap.size, 1, none⟩ = some (.int .i64 (b)) := blk_cell b1 1; have z1 := blk_frozen b1 1; have b2 : (((w1).setCell ⟨w.heap.size, 0, none⟩ (.int .i64 (p))).setCell ⟨w.heap.size, 1, none⟩ (.int .i64 (q))).heap[w.heap.size]? = some (.cells #[.int .i64 (p), .int .i64 (q), .int .i64 (c), .int .i64 (d)] 22 (0, 0)) := blk_put b1 1 _ rfl; have f2 : (((w1).setCell ⟨w.heap.size, 0, none⟩ (.int .i64 (p))).setCell ⟨w.heap.size, 1, none⟩ (.int .i64 (q))).cell? ⟨w.heap.size, 2, none⟩ = some (.int .i64 (c)) := blk_cell b2 2; have z2 := blk_frozen b2 2; have b3 : ((((w1).setCell ⟨w.heap.size, 0, none⟩ (.int .i64 (p))).setCell ⟨w.heap.size, 1, none⟩ (.int .i64 (q))).setCell ⟨w.heap.size, 2, none⟩ (.int .i64 (r))).heap[w.heap.size]? = some (.cells #[.int .i64 (p), .int .i64 (q), .int .i64 (r), .int .i64 (d)] 22 (0, 0)) := blk_put b2 2 _ rfl; have f3 : ((((w1).setCell ⟨w.heap.size, 0, none⟩ (.int .i64 (p))).setCell ⟨w.heap.size, 1, none⟩ (.int .i64 (q))).setCell ⟨w.heap.size, 2, none⟩ (.int .i64 (r))).cell? ⟨w.heap.size, 3, none⟩ = some (.int .i64 (d)) := blk_cell b3 3; have z3 := blk_frozen b3 3; have b4 : (((((w1).setCell ⟨w.heap.size, 0, none⟩ (.int .i64 (p))).setCell ⟨w.heap.size, 1, none⟩ (.int .i64 (q))).setCell ⟨w.heap.size, 2, none⟩ (.int .i64 (r))).setCell ⟨w.heap.size, 3, none⟩ (.int .i64 (s))).heap[w.heap.size]? = some (.cells #[.int .i64 (p), .int .i64 (q), .int .i64 (r), .int .i64 (s)] 22 (0, 0)) := blk_put b3 3 _ rfl;  first | (go_simp; done) | (go_simp; rfl)); intro w2 hw; have hh : w2.heap[w.heap.size]? = some (.cells #[.int .i64 (p), .int .i64 (q), .int .i64 (r), .int .i64 (s)] 22 (0, 0)) := (by have b0 : w1.heap[w.heap.size]? = some (.cells #[.int .i64 (a), .int .i64 (b), .int .i64 (c), .int .i64 (d)] 22 (0, 0)) := H2.out; have f0 : (w1).cell? ⟨w.heap.size, 0, none⟩ = some (.int .i64 (a)) := blk_cell b0 0; have z0 := blk_frozen b0 0; have b1 : ((w1).setCell ⟨w.heap.size, 0, none⟩ (.int .i64 (p))).heap[w.heap.size]? = some (.cells #[.int .i64 (p), .int .i64 (b), .int .i64 (c), .int .i64 (d)] 22 (0, 0)) := blk_put b0 0 _ rfl; have f1 : ((w1).setCell ⟨w.heap.size, 0, none⟩ (.int .i64 (p))).cell? ⟨w.heap.size, 1, none⟩ = some (.int .i64 (b)) := blk_cell b1 1; have z1 := blk_frozen b1 1; have b2 : (((w1).setCell ⟨w.heap.size, 0, none⟩ (.int .i64 (p))).setCell ⟨w.heap.size, 1, none⟩ (.int .i64 (q))).heap[w.heap.size]? = some (.cells #[.int .i64 (p), .int .i64 (q), .int .i64 (c), .int .i64 (d)] 22 (0, 0)) := blk_put b1 1 _ rfl; have f2 : (((w1).setCell ⟨w.heap.size, 0, none⟩ (.int .i64 (p))).setCell ⟨w.heap.size, 1, none⟩ (.int .i64 (q))).cell? ⟨w.heap.size, 2, none⟩ = some (.int .i64 (c)) := blk_cell b2 2; have z2 := blk_frozen b2 2; have b3 : ((((w1).setCell ⟨w.heap.size, 0, none⟩ (.int .i64 (p))).setCell ⟨w.heap.size, 1, none⟩ (.int .i64 (q))).setCell ⟨w.heap.size, 2, none⟩ (.int .i64 (r))).heap[w.heap.size]? = some (.cells #[.int .i64 (p), .int .i64 (q), .int .i64 (r), .int .i64 (d)] 22 (0, 0)) := blk_put b2 2 _ rfl; have f3 : ((((w1).setCell ⟨w.heap.size, 0, none⟩ (.int .i64 (p))).setCell ⟨w.heap.size, 1, none⟩ (.int .i64 (q))).setCell ⟨w.heap.size, 2, none⟩ (.int .i64 (r))).cell? ⟨w.heap.size, 3, none⟩ = some (.int .i64 (d)) := blk_cell b3 3; have z3 := blk_frozen b3 3; have b4 : (((((w1).setCell ⟨w.heap.size, 0, none⟩ (.int .i64 (p))).setCell ⟨w.heap.size, 1, none⟩ (.int .i64 (q))).setCell ⟨w.heap.size, 2, none⟩ (.int .i64 (r))).setCell ⟨w.heap.size, 3, none⟩ (.int .i64 (s))).heap[w.heap.size]? = some (.cells #[.int .i64 (p), .int .i64 (q), .int .i64 (r), .int .i64 (s)] 22 (0, 0)) := blk_put b3 3 _ rfl;  rw [hw]; exact b4); have hb : Below w.heap.size w w2 := (by rw [hw]; exact below_set (below_set (below_set (below_set (by repeat (first | (with_reducible first | exact HB.out | apply below_alloc | apply pw_below_drewN | apply below_drew1) | exact HB.out)) GB.out) GB.out) GB.out) GB.out); clear hw HB H2; have HB := Aside0.mk hb; have H2 := Aside0.mk hh; clear hb hh)))
  have c0 : w2.cell? ⟨w.heap.size, 0, none⟩ = some (.int .i64 p) := blk_cell H2.out 0
  have c1 : w2.cell? ⟨w.heap.size, 1, none⟩ = some (.int .i64 q) := blk_cell H2.out 1
  go_upto_region 3 with (first
    | (go_at_call 11; refine (N1.out _).mono ?_; rintro e w3 ⟨rfl, hb⟩; have H3 := Aside0.mk (blk_below H2.out hb); clear H2; (have n0_ := Aside0.mk (below_step (by repeat (first | (with_reducible first | exact HB.out | apply below_alloc | apply pw_below_drewN | apply below_drew1) | exact HB.out)) hb); clear HB; have HB := n0_; clear n0_ hb); clear c0 c1))
  have c2 : w3.cell? ⟨w.heap.size, 2, none⟩ = some (.int .i64 r) := blk_cell H3.out 2
  have c3 : w3.cell? ⟨w.heap.size, 3, none⟩ = some (.int .i64 s) := blk_cell H3.out 3
  go_upto_region 5 with (first
    | (go_at_call 11; refine (N2.out _).mono ?_; rintro e w4 ⟨rfl, hb⟩; have H4 := Aside0.mk (blk_below H3.out hb); clear H3; (have n0_ := Aside0.mk (below_step (by repeat (first | (with_reducible first | exact HB.out | apply below_alloc | apply pw_below_drewN | apply below_drew1) | exact HB.out)) hb); clear HB; have HB := n0_; clear n0_ hb); clear c2 c3)
    | (go_at_call 12; refine (R.out _).mono ?_; rintro e w5 ⟨v, rfl, ho, hb⟩; have HO := Aside0.mk ho; clear ho; have H5 := Aside0.mk (blk_below H4.out hb); clear H4; (have n0_ := Aside0.mk (below_step (by repeat (first | (with_reducible first | exact HB.out | apply below_alloc | apply pw_below_drewN | apply below_drew1) | exact HB.out)) hb); clear HB; have HB := n0_; clear n0_ hb)))
  obtain ⟨B, cb, rfl, hcb, hcr⟩ := Kd.R_reads HO.out
  have hcb' : 4 ≤ cb := hcb
  have HC := Aside0.mk hcr
  have HC2 := Aside0.mk (C4 H5.out)
  clear hcr hcb
  go_wp2_with (first
    | (go_at_call 13; refine (PrefSameInts.laws_refSameInts.calls 6 _ _ [p, q, r, s] _ _ [p, q, r, s] true _ HC.out hcb' HC2.out (Nat.le_refl _) (same4 p q r s)).mono ?_; rintro e w6 ⟨rfl, ⟨⟨nd, rfl⟩⟩⟩)
    | (go_at_call 14; refine (refLives _).mono ?_; rintro e w7 ⟨rfl, hb⟩; (have n0_ := Aside0.mk (below_step (by repeat (first | (with_reducible first | exact HB.out | apply below_alloc | apply pw_below_drewN | apply below_drew1) | exact HB.out)) hb); clear HB; have HB := n0_; clear n0_ hb)))
  go_ret
  exact ⟨by rfl, by repeat (first | (with_reducible first | exact HB.out | apply below_alloc | apply pw_below_drewN | apply below_drew1) | exact HB.out)⟩

theorem written_size (abs : Bool) (n t : ByteArray) : (written abs n t).size ≤ n.size + t.size + 2 := by
  unfold written
  split
  · rw [ByteArray.size_append, ByteArray.size_append, ByteArray.size_append]
    have : (⟨#[36]⟩ : ByteArray).size = 1 := rfl
    omega
  · rw [ByteArray.size_append]; omega
theorem written_filter (abs : Bool) (n t : ByteArray) (ls ds : List Int) (h : IsCell (n ++ t) ls ds) : (bytesOf (written abs n t)).filter (fun x => x != 36) = bytesOf (n ++ t) := by
  have hn : (bytesOf (n ++ t)).filter (fun x => x != 36) = bytesOf (n ++ t) := by
    refine List.filter_eq_self.2 fun x hx => ?_
    rw [h.all] at hx
    rcases List.mem_append.1 hx with hx | hx
    · have := h.up x hx
      simp; omega
    · have := h.dig x hx
      simp; omega
  unfold written
  split
  · rw [← hn, bytes_append, bytes_append, bytes_append, bytes_append, show bytesOf (⟨#[36]⟩ : ByteArray) = [36] from rfl]
    simp [List.filter_append]
  · exact hn

theorem law (a b c d : Int) (abs : Bool) (w : World) :
    Calls Tryd.prog 3 #[.agg #[.int .i64 a, .int .i64 b, .int .i64 c, .int .i64 d], .bool abs] w fun e w' => e = .returned (.bool true) ∧ Below w.heap.size w w' := by
  obtain ⟨x, hx, x1, x2⟩ := grid a 16384 (by decide)
  obtain ⟨y, hy, y1, y2⟩ := grid b 1048576 (by decide)
  obtain ⟨z, hz, z1, z2⟩ := grid c 16384 (by decide)
  obtain ⟨t, ht, t1, t2⟩ := grid d 1048576 (by decide)
  obtain ⟨kc, n1, kd, t1', ls, ds, a1, a2, a3, a4, a5, a6, a7⟩ := Names.cell_name (min x z) (min y t) (by omega) (by omega)
  obtain ⟨kc2, n2, kd2, t2', ls2, ds2, b1, b2, b3, b4, b5, b6, b7⟩ := Names.cell_name (max x z) (max y t) (by omega) (by omega)
  have sa : n1.size ≤ 100 ∧ t1'.size ≤ 100 := by
    rw [← bytesOf_length, ← bytesOf_length t1', a3, a4]
    have := a5.l3; have := a5.d10; omega
  have sb : n2.size ≤ 100 ∧ t2'.size ≤ 100 := by
    rw [← bytesOf_length, ← bytesOf_length t2', b3, b4]
    have := b5.l3; have := b5.d10; omega
  have wa := written_size abs n1 t1'
  have wb := written_size abs n2 t2'
  refine walk a b c d abs w (min x z) (min y t) (max x z) (max y t) (written abs n1 t1') (written abs n2 t2')
    (fun w => refArea a b c d w x y z t hx hy hz ht)
    (fun w => cellNameAbs _ _ kc kd n1 t1' a1 a2 (by omega) sa abs w)
    (fun w => cellNameAbs _ _ kc2 kd2 n2 t2' b1 b2 (by omega) sb abs w)
    (fun w => ?_) ⟨by omega, by omega⟩
  have h := implRange (written abs n1 t1' ++ ⟨#[58]⟩ ++ written abs n2 t2') _ _ _ _ _ _ a5 b5 (by
    rw [ByteArray.size_append, ByteArray.size_append]
    have : (⟨#[58]⟩ : ByteArray).size = 1 := rfl
    omega) (by
    rw [bytes_append, bytes_append, List.filter_append, List.filter_append, written_filter abs n1 t1' ls ds a5, written_filter abs n2 t2' ls2 ds2 b5, show bytesOf (⟨#[58]⟩ : ByteArray) = [58] from rfl, List.append_assoc]
    rfl) w
  rw [a6, a7, b6, b7] at h
  exact h
end Go.Proofs.YtfbenlenihlpbaaDoor.RangeWalks
