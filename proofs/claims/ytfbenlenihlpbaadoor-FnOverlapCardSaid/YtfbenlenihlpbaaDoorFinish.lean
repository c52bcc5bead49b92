/- A law of no one function: in a region that draws its order, operations whose guard says no, copies and picks are taken in a given order, all at once. -/
import Derived.Test.YtfbenlenihlpbaaDoorTac
namespace Go.Proofs.YtfbenlenihlpbaaDoor.Finish
open Go Go.RowKit

/-- What an operation leaves that is passed over, copies or picks. -/
def pureVal (ops : Array Oper) (o : Oper) (a : Act) : Option Value :=
  if Region.wanted o (yielded ops a.tmps) then
    match o.op with
    | .move x => some (a.eval x)
    | .assign x => some (a.eval x)
    | .pick c x y => match a.eval c with
      | .bool true => some (a.eval x)
      | .bool false => some (a.eval y)
      | _ => none
    | _ => none
  else some undef
theorem pureVal_yields {P : Program} {ops : Array Oper} {S : World → Prop} {o : Oper} {a : Act} {v : Value} (h : pureVal ops o a = some v) : YieldsIf P ops S o v a := by
  unfold pureVal at h
  cases hw : Region.wanted o (yielded ops a.tmps) with
  | false =>
    rw [hw] at h
    exact .inr ⟨hw, (Option.some.inj h).symm⟩
  | true =>
    rw [hw, if_pos rfl] at h
    refine .inl ⟨hw, fun w _ => ?_⟩
    split at h
    · rename_i x ho
      simp only [execOp, ho]
      rw [← Option.some.inj h]; rfl
    · rename_i x ho
      simp only [execOp, ho]
      rw [← Option.some.inj h]; rfl
    · rename_i c x y ho
      split at h
      · rename_i hc
        simp only [execOp, ho, hc]
        rw [← Option.some.inj h]; rfl
      · rename_i hc
        simp only [execOp, ho, hc]
        rw [← Option.some.inj h]; rfl
      · cases h
    · cases h
/-- The order alone: it hangs on the operations and on what is listed, on no value. -/
def sched (md : Region.Mode) (ops : Array Oper) : List Nat → Array Bool → Bool
  | [], l => (Region.ready md ops l).isEmpty
  | i :: is, l => Region.free md ops l i && (Region.ready md ops l).contains i && sched md ops is (l.setIfInBounds i true)
/-- The values alone. -/
def vals (ops : Array Oper) : List Nat → Act → Option Act
  | [], a => some a
  | i :: is, a => match ops[i]? with
    | none => none
    | some o => match pureVal ops o a with
      | some v => vals ops is (a.put o.dst v)
      | none => none
theorem sched_drop {md : Region.Mode} {ops : Array Oper} : ∀ (xs ys : List Nat) (l : Array Bool), sched md ops (xs ++ ys) l = true → sched md ops ys (xs.foldl (fun l i => l.setIfInBounds i true) l) = true
  | [], _, _, h => h
  | x :: xs, ys, l, h => by
    rw [List.cons_append, sched, Bool.and_eq_true] at h
    exact sched_drop xs ys _ h.2
theorem finish_vals {P : Program} {md : Region.Mode} {ops : Array Oper} {Q : Exit → Act → World → Prop} {S : World → Prop} {w : World} (hs : Region.noSelect ops = true)
    (hQ : ∀ d v c a w, Q (.panic c) (Act.put a d v) w → Q (.panic c) a w) (hS : S w) :
    ∀ (is : List Nat) (n : Nat) (l : Array Bool) (a : Act) (a' : Act), sched md ops is l = true → vals ops is a = some a' → Q .normal a' w → wpAnyH P md ops Q S (n + is.length) l a w
  | [], n, l, a, a', h, hv, hq => by
    have e := Option.some.inj hv
    subst e
    exact wpAnyH_done (List.isEmpty_iff.1 h) hq _
  | i :: is, n, l, a, a', h, hv, hq => by
    rw [sched, Bool.and_eq_true, Bool.and_eq_true] at h
    unfold vals at hv
    split at hv
    · cases hv
    · rename_i o ho
      split at hv
      · rename_i v hp
        exact wpAnyH_take ho hs h.1.1 h.1.2 (fun c a w => hQ _ _ c a w) (pureVal_yields hp) hS (finish_vals hs hQ hS is n _ _ a' h.2 hv hq)
      · cases hv
/-- Do the values end with 'true' in the slot of the result? -/
def endsTrue (ops : Array Oper) (r : Nat) (is : List Nat) (a : Act) : Bool :=
  match vals ops is a with
  | some a' => (match a'.tmps.getD r undef, a'.defers with | .bool true, [] => true | _, _ => false)
  | none => false
theorem finish_true {P : Program} {md : Region.Mode} {ops : Array Oper} {Q : Exit → Act → World → Prop} {S : World → Prop} {w : World} {l : Array Bool} {a : Act} (r : Nat) (is : List Nat) (n : Nat) (hs : Region.noSelect ops = true)
    (hsch : sched md ops is l = true) (he : endsTrue ops r is a = true) (hQ : ∀ d v c a w, Q (.panic c) (Act.put a d v) w → Q (.panic c) a w) (hS : S w)
    (hq : ∀ a', a'.tmps.getD r undef = .bool true → a'.defers = [] → Q .normal a' w) : wpAnyH P md ops Q S (n + is.length) l a w := by
  unfold endsTrue at he
  split at he
  · rename_i a' h
    split at he
    · rename_i h3 h4
      exact finish_vals hs hQ hS is n l a a' hsch h (hq a' h3 h4)
    · cases he
  · cases he
end Go.Proofs.YtfbenlenihlpbaaDoor.Finish
