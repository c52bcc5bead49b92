/- Walks: the law FnOverlap. -/
import Derived.Test.YtfbenlenihlpbaaDoorLapWalks
import Derived.Test.YtfbenlenihlpbaaDoorCellC
namespace Go.Proofs.YtfbenlenihlpbaaDoor.OverlapWalks
open Go.RowKit Go.Proofs.YtfbenlenihlpbaaDoorW.PrintWords Go.Proofs.YtfbenlenihlpbaaDoorW.PrintLast Go.Proofs.YtfbenlenihlpbaaDoorW.PrintMore
open Go.Proofs.YtfbenlenihlpbaaDoor.Str Go.Proofs.YtfbenlenihlpbaaDoor.Tac Go.Proofs.YtfbenlenihlpbaaDoor.AreaWalks Go.Proofs.YtfbenlenihlpbaaDoor.LapWalks Go.Proofs.YtfbenlenihlpbaaDoor.CellC

set_option maxHeartbeats 4000000 in
set_option maxRecDepth 100000 in
theorem doorOverlap (a b : Ar) (g1 g2 : Nat) (T1 T2 : TypeId) (w : World) (h1 : w.heap[g1]? = some (.cells #[.int .i64 a.c, .int .i64 a.r, .int .i64 a.d, .int .i64 a.s] T1 (0, 0))) (h2 : w.heap[g2]? = some (.cells #[.int .i64 b.c, .int .i64 b.r, .int .i64 b.d, .int .i64 b.s] T2 (0, 0))) :
    Calls Tryd.prog 40 #[.slice (some ⟨g1, 0, none⟩) 4 4, .slice (some ⟨g2, 0, none⟩) 4 4] w fun e w' => e = .returned (.bool (lap a b)) ∧ Below w.heap.size w w' := by
  have A := Aside0.mk (isOverlap a b g1 g2 T1 T2 w h1 h2)
  clear h1 h2
  have HB := Aside0.mk (Below.refl w.heap.size w)
  go_enter Tryd.func40, Tryd.ntmps40
  go_wp2_with (first
    | (go_at_call 52; refine A.out.mono ?_; rintro e w1 ⟨rfl, hb⟩; (have n0_ := Aside0.mk (below_step (by repeat (first | (with_reducible first | exact HB.out | apply below_alloc | apply pw_below_drewN | apply below_drew1) | exact HB.out)) hb); clear HB; have HB := n0_; clear n0_ hb)))
  go_ret
  exact ⟨by rfl, by repeat (first | (with_reducible first | exact HB.out | apply below_alloc | apply pw_below_drewN | apply below_drew1) | exact HB.out)⟩

set_option maxHeartbeats 4000000 in
set_option maxRecDepth 100000 in
theorem implOverlap (a b : Ar) (g1 g2 : Nat) (T1 T2 : TypeId) (w : World) (h1 : w.heap[g1]? = some (.cells #[.int .i64 a.c, .int .i64 a.r, .int .i64 a.d, .int .i64 a.s] T1 (0, 0))) (h2 : w.heap[g2]? = some (.cells #[.int .i64 b.c, .int .i64 b.r, .int .i64 b.d, .int .i64 b.s] T2 (0, 0))) :
    Calls Tryd.prog 18 #[.slice (some ⟨g1, 0, none⟩) 4 4, .slice (some ⟨g2, 0, none⟩) 4 4] w fun e w' => e = .returned (.bool (lap a b)) ∧ Below w.heap.size w w' := by
  have A := Aside0.mk (doorOverlap a b g1 g2 T1 T2 w h1 h2)
  clear h1 h2
  have HB := Aside0.mk (Below.refl w.heap.size w)
  go_enter Tryd.func18, Tryd.ntmps18
  go_wp2_with (first
    | (go_at_call 40; refine A.out.mono ?_; rintro e w1 ⟨rfl, hb⟩; (have n0_ := Aside0.mk (below_step (by repeat (first | (with_reducible first | exact HB.out | apply below_alloc | apply pw_below_drewN | apply below_drew1) | exact HB.out)) hb); clear HB; have HB := n0_; clear n0_ hb)))
  go_ret
  exact ⟨by rfl, by repeat (first | (with_reducible first | exact HB.out | apply below_alloc | apply pw_below_drewN | apply below_drew1) | exact HB.out)⟩


theorem lap_meets (a b : Ar) (ha : a.c ≤ a.d ∧ a.r ≤ a.s) (hb : b.c ≤ b.d ∧ b.r ≤ b.s) (h : crosses a b = false) : lap a b = meets a b := by
  obtain ⟨a0, a1, a2, a3⟩ := a
  obtain ⟨b0, b1, b2, b3⟩ := b
  simp only [crosses, meets, corner, within, lap] at *
  rw [Bool.eq_iff_iff]
  simp only [Bool.and_eq_false_iff, Bool.not_eq_false', Bool.or_eq_true, Bool.and_eq_true, decide_eq_true_eq, decide_eq_false_iff_not] at h ⊢
  omega
theorem lap_comm (a b : Ar) : lap b a = lap a b := by
  unfold lap
  cases within a.c a.r b <;> cases within a.d a.r b <;> cases within a.c a.s b <;> cases within a.d a.s b <;> cases within b.c b.r a <;> cases within b.d b.r a <;> cases within b.c b.s a <;> cases within b.d b.s a <;> rfl
theorem lap_self (a : Ar) (ha : a.c ≤ a.d ∧ a.r ≤ a.s) : lap a a = true := by
  unfold lap within
  rw [decide_eq_true (Int.le_refl a.c), decide_eq_true ha.1, decide_eq_true (Int.le_refl a.r), decide_eq_true ha.2]
  rfl
theorem norm_ok (p q r s : Int) : (norm p q r s).c ≤ (norm p q r s).d ∧ (norm p q r s).r ≤ (norm p q r s).s := by
  have e1 : (if r < p then r else p) ≤ (if p < r then r else p) := by split <;> split <;> omega
  have e2 : (if s < q then s else q) ≤ (if q < s then s else q) := by split <;> split <;> omega
  unfold norm
  generalize (if r < p then r else p) = c at *
  generalize (if p < r then r else p) = d at *
  generalize (if s < q then s else q) = y at *
  generalize (if q < s then s else q) = z at *
  split
  · split
    · exact ⟨e1, by show y ≤ z + 1; omega⟩
    · exact ⟨e1, by show y - 1 ≤ z; omega⟩
  · exact ⟨e1, e2⟩
end Go.Proofs.YtfbenlenihlpbaaDoor.OverlapWalks
