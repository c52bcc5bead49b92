/- Rules of no one program for the walk: a cell takes a float, as it takes a number; a block's cells stored one behind the other, by one name. -/
import Derived.Test.YtmcppajgfhmpaaaGreatDoorWMore
namespace Go.Proofs.YtmcppajgfhmpaaaGreatDoor.Flt
open Go Go.RowKit Go.Proofs.YtmcppajgfhmpaaaGreatDoorW.PrintWords Go.Proofs.YtmcppajgfhmpaaaGreatDoorW.PrintLast Go.Proofs.YtmcppajgfhmpaaaGreatDoorW.PrintMore
theorem run_store_float (P : Program) (w : World) (a : Addr) (m : Mode) (k : FloatKind) (b : Nat) : (store a (.float k b) m).run P w = stored P w a (.float k b) m := run_store P w a _ m rfl
/-- Cells of a block, stored one behind the other. -/
def sets (w : World) (g : Nat) : Nat → List Value → World
  | _, [] => w
  | i, v :: vs => sets (w.setCell ⟨g, i, none⟩ v) g (i + 1) vs
theorem sets_far {g k : Nat} (hk : k ≠ g) : ∀ (vs : List Value) (w : World) (i : Nat), (sets w g i vs).heap[k]? = w.heap[k]?
  | [], _, _ => rfl
  | _ :: vs, w, i => (sets_far hk vs _ (i + 1)).trans (Below.heap_setCell w _ _ k hk)
theorem sets_below {g : Nat} {w0 : World} (hg : w0.heap.size ≤ g) : ∀ (vs : List Value) (w : World) (i : Nat), Below w0.heap.size w0 w → Below w0.heap.size w0 (sets w g i vs)
  | [], _, _, h => h
  | _ :: vs, _, i, h => sets_below hg vs _ (i + 1) (below_set h hg)
theorem sets_block {g : Nat} {T : TypeId} : ∀ (vs : List Value) (w : World) (i : Nat) (cs : Array Value), w.heap[g]? = some (.cells cs T (0, 0)) → cs.size = i + vs.length →
    ∃ ds : Array Value, (sets w g i vs).heap[g]? = some (.cells ds T (0, 0)) ∧ ds.toList = cs.toList.take i ++ vs
  | [], _, i, cs, h, hs => ⟨cs, h, by rw [List.append_nil, List.take_of_length_le (by simpa using Nat.le_of_eq hs)]⟩
  | v :: vs, w, i, cs, h, hs => by
    obtain ⟨ds, h1, h2⟩ := sets_block vs (w.setCell ⟨g, i, none⟩ v) (i + 1) (cs.setIfInBounds i v) (blk_put h i v rfl) (by simp at hs ⊢; omega)
    refine ⟨ds, h1, ?_⟩
    rw [h2, Array.toList_setIfInBounds]
    have hi : i < cs.toList.length := by simp at hs ⊢; omega
    rw [List.take_add_one, List.getElem?_set_self hi, List.take_set_of_le (Nat.le_refl _)]
    simp
/-- A block all of whose cells are stored. -/
theorem sets_all {g : Nat} {T : TypeId} {w : World} {cs : Array Value} (vs : List Value) (h : w.heap[g]? = some (.cells cs T (0, 0))) (hs : cs.size = vs.length) : (sets w g 0 vs).heap[g]? = some (.cells vs.toArray T (0, 0)) := by
  obtain ⟨ds, h1, h2⟩ := sets_block vs w 0 cs h (by omega)
  rw [h1]
  have : ds = vs.toArray := by
    apply Array.ext'
    rw [h2]; simp
  rw [this]
section
variable {P : Program} {ops : Array Oper} {Q : Exit → Act → World → Prop}
/-- A call through a slot that holds a function value without captured variables, in a region that draws its order. -/
theorem goesT_ {oi : Oper} {N : Option Tmp} {a : Act} {w : World} {K : Act → World → Prop} {f : FuncId} {fn : Func} {as : Array Operand} {ts : Array TypeId} {s : Tmp} (hf : P.funcs[f]? = some fn) (hname : (fn.name == "runtime.NumGoroutine") = false) (hb : fn.body.isSome = true) (args : Array Value)
    (hw : Region.wanted oi (yielded ops a.tmps) = true) (hN : oi.dst = N) (hop : oi.op = .call { callee := .value (.tmp s), args := as, argTypes := ts }) (hcal : a.eval (.tmp s) = .func (.func f) #[] #[]) (hargs : as.map a.eval = args)
    (h : Calls P f args w fun e w' => ∃ v, e = .returned v ∧ K (a.put N v) w') : if Region.wanted oi (yielded ops a.tmps) = true then Oper.wp P oi a w K Q else K (a.put N undef) w := by
  refine call_ f args hw hN ?_ h
  have he := enters_ hf hname hb args w
  have hcal' : a.tmps[s]?.getD undef = .func (.func f) #[] #[] := by simpa [Act.eval] using hcal
  unfold execOp
  simp [hop, resolve, Deferred.ofValue, invoke, Act.eval, hargs, hcal', he]
end
end Go.Proofs.YtmcppajgfhmpaaaGreatDoor.Flt
