/- The package's DoorFilter: a File made for the call, its parseFilterExpression. -/
import Derived.Test.YtjefbpfpobgmaaaDoorPFwx1
namespace Go.Proofs.YtjefbpfpobgmaaaDoor.FwDoor
open Go.RowKit Go.Proofs.YtjefbpfpobgmaaaDoorW.PrintWords Go.Proofs.YtjefbpfpobgmaaaDoorW.PrintLast Go.Proofs.YtjefbpfpobgmaaaDoorW.PrintMore Go.Proofs.YtjefbpfpobgmaaaDoor.PFw
set_option linter.unusedVariables false
set_option linter.unusedSimpArgs false
theorem j1_eq (k : Nat) (a b : Value) (x1 : ByteArray) (x2 : List ByteArray) (x9 : List Int) (x10 : List ByteArray) (x11 : Int) : excelize_File_parseFilterExpression.j1 k a x1 x2 x9 x10 x11 = excelize_File_parseFilterExpression.j1 k b x1 x2 x9 x10 x11 := by
  cases k with
  | zero => rw [excelize_File_parseFilterExpression.j1, excelize_File_parseFilterExpression.j1]
  | succ k => rw [excelize_File_parseFilterExpression.j1, excelize_File_parseFilterExpression.j1]; rfl
theorem j0_eq (k : Nat) (a b : Value) (x1 : ByteArray) (x2 : List ByteArray) (x9 : List Int) (x10 : List ByteArray) (x11 : Int) (x : Bool) : excelize_File_parseFilterExpression.j0 k a x1 x2 x9 x10 x11 x = excelize_File_parseFilterExpression.j0 k b x1 x2 x9 x10 x11 x := by
  cases k with
  | zero => rw [excelize_File_parseFilterExpression.j0, excelize_File_parseFilterExpression.j0]
  | succ k => rw [excelize_File_parseFilterExpression.j0, excelize_File_parseFilterExpression.j0, j1_eq k a b, j1_eq k a b]
theorem f_eq (k : Nat) (a b : Value) (x1 : ByteArray) (x2 : List ByteArray) : excelize_File_parseFilterExpression.f k a x1 x2 = excelize_File_parseFilterExpression.f k b x1 x2 := by
  unfold excelize_File_parseFilterExpression.f
  rw [j0_eq k a b]
  have : ∀ t, excelize_File_parseFilterExpression.j0 k a x1 x2 [] [] 0 t = excelize_File_parseFilterExpression.j0 k b x1 x2 [] [] 0 t := fun t => j0_eq k a b _ _ _ _ _ _
  simp only [this]
  rfl
def excelize_DoorFilter.f (k : Nat) (l0 : List ByteArray) : Option (List Int × List ByteArray × Bool) := (excelize_File_parseFilterExpression.f k Value.nilIface ByteArray.empty l0).bind fun t => some (t.1, t.2.1, t.2.2.isNone)
theorem excelize_DoorFilter.mono : ∀ l0 k, LeO (excelize_DoorFilter.f k l0) (excelize_DoorFilter.f (k + 1) l0) := fun l0 k => LeO.bind (excelize_File_parseFilterExpression.mono _ _ _ _) (fun _ => LeO.refl _)
set_option maxHeartbeats 4000000 in
set_option maxRecDepth 100000 in
theorem excelize_DoorFilter.calls (k : Nat) (A0 : Option Addr) (c0 : Nat) (l0 : List ByteArray) (r1 : List Int) (r2 : List ByteArray) (r3 : Bool) (w : World) (hr0 : Kd.C Kd.string w A0 l0.length l0) (hc0 : l0.length ≤ c0) (h : excelize_DoorFilter.f k l0 = some (r1, r2, r3)) :
    Calls Tryd.prog 21 #[.slice A0 l0.length c0] w fun e w' => ∃ v0_ v1_ : Value, e = .returned (.tuple #[v0_, v1_, .bool r3]) ∧ Kd.R (Kd.int .i64) 3 w' w.heap.size (fun _ => True) v0_ r1 ∧ Kd.R Kd.string 9 w' w.heap.size (fun _ => True) v1_ r2 ∧ Below w.heap.size w w' := by
  obtain ⟨⟨t1, t2, t3⟩, e1, h⟩ := Option.bind_eq_some_iff.mp h
  simp only [Option.some.injEq, Prod.mk.injEq] at h
  obtain ⟨rfl, rfl, rfl⟩ := h
  have E1 := Aside0.mk e1
  have HR := Aside0.mk hr0
  have HC := Aside0.mk hc0
  have HB := Aside0.mk (Below.refl w.heap.size w)
  clear e1 hr0 hc0
  have hu41 := Tryd.underlying41
  cases t3
  all_goals
    go_enter Tryd.func21, Tryd.ntmps21
    go_wp2_with (first | (go_at_call 28; refine (excelize_File_parseFilterExpression.calls k _ ByteArray.empty _ _ l0 t1 t2 _ _ (Kd.C_below HR.out (by repeat (first | (with_reducible first | exact HB.out | apply below_alloc | apply pw_below_drewN | apply below_drew1) | exact HB.out))) HC.out ((f_eq k _ Value.nilIface _ _).trans E1.out)).mono ?_; rintro e w2 ⟨v0, v1, rfl, h0, h1, hb⟩; have H0 := Aside0.mk (Kd.R_lower h0 (below_size (by repeat (first | (with_reducible first | exact HB.out | apply below_alloc | apply pw_below_drewN | apply below_drew1) | exact HB.out)))); have H1 := Aside0.mk (Kd.R_lower h1 (below_size (by repeat (first | (with_reducible first | exact HB.out | apply below_alloc | apply pw_below_drewN | apply below_drew1) | exact HB.out)))); have n0_ := Aside0.mk (below_step (by repeat (first | (with_reducible first | exact HB.out | apply below_alloc | apply pw_below_drewN | apply below_drew1) | exact HB.out)) hb); clear HB hb h0 h1; have HB := n0_; clear n0_; try simp only [errW_none, errW_some]))
    go_region
    go_wp2
    go_ret3
    exact ⟨_, _, by first | rfl | (simp <;> rfl) | (simp [*] <;> rfl), by (with_reducible repeat (first | apply Kd.R_alloc | apply Kd.R_drewN | apply Kd.R_drew)); exact H0.out, by (with_reducible repeat (first | apply Kd.R_alloc | apply Kd.R_drewN | apply Kd.R_drew)); exact H1.out, by repeat (first | (with_reducible first | exact HB.out | apply below_alloc | apply pw_below_drewN | apply below_drew1) | exact HB.out)⟩
end Go.Proofs.YtjefbpfpobgmaaaDoor.FwDoor
