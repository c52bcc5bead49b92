/- Short words for the walks of this seat: one world relation, held aside under the name HB, that grows at each call. -/
import Derived.Test.YtmcppajgfhmpaaaGreatDoorStr
import Derived.Deep.QuietTactic
import Derived.BigQuiet
import Derived.StillTailTactics
import Derived.Deep.RegionHeld3
namespace Go.Proofs.YtmcppajgfhmpaaaGreatDoor.Tac
open Go.RowKit Go.Proofs.YtmcppajgfhmpaaaGreatDoorW.PrintWords Go.Proofs.YtmcppajgfhmpaaaGreatDoorW.PrintLast Go.Proofs.YtmcppajgfhmpaaaGreatDoorW.PrintMore

theorem bytesWorld_below (w : World) (e : TypeId) (s : ByteArray) : Below w.heap.size w (Lib.bytesWorld w e s) :=
  ⟨rfl, rfl, rfl, by rw [Lib.bytesWorld_size]; omega, fun k hk => Lib.bytesWorld_at_old w e s k hk⟩

theorem quiet0 {P : Program} {f : FuncId} {args : Array Value} {w : World} {n : Nat} {v : Value}
    (h : Calls P f args (w.drewN n) fun e w' => e = .returned v ∧ Drawn0 (w.drewN n) w') : Calls P f args (w.drewN n) fun e w'' => e = .returned v ∧ ∃ m, w'' = w.drewN m :=
  Calls.quiet_of (h.mono fun _ _ ⟨he, hd⟩ => ⟨he, hd.out⟩)

/-- A block of four numbers reads as the list of them. -/
theorem C4 {W : World} {g : Nat} {T : TypeId} {a b c d : Int} (h : W.heap[g]? = some (.cells #[.int .i64 a, .int .i64 b, .int .i64 c, .int .i64 d] T (0, 0))) : Kd.C (Kd.int .i64) W (some ⟨g, 0, none⟩) 4 [a, b, c, d] :=
  Kd.C_of_reads (d := (0 : Int)) ⟨rfl, by decide, fun _ => ⟨_, rfl, fun j hj => by
    have e := blk_cell h j
    match j, hj, e with
    | 0, _, e => exact e
    | 1, _, e => exact e
    | 2, _, e => exact e
    | 3, _, e => exact e⟩⟩

abbrev AR (a b c d : Int) : Obj := .cells #[.int .i64 a, .int .i64 b, .int .i64 c, .int .i64 d] 34 (0, 0)
abbrev AG (a b c d : Int) : Value := .agg #[.int .i64 a, .int .i64 b, .int .i64 c, .int .i64 d]
/-- One array boxed, two arrays boxed: the new world by a letter. -/
theorem box1 {w w0 : World} {a b c d : Int} (e : w.alloc (AR a b c d) = w0) : Below w.heap.size w w0 ∧ w0.heap[w.heap.size]? = some (AR a b c d) := by
  subst e
  exact ⟨below_alloc (Below.refl _ _) _, blk_new _ _⟩
theorem box2 {w w0 : World} {a b c d a' b' c' d' : Int} (e : (w.alloc (AR a b c d)).alloc (AR a' b' c' d') = w0) : Below w.heap.size w w0 ∧ w0.heap[w.heap.size]? = some (AR a b c d) ∧ w0.heap[w.heap.size + 1]? = some (AR a' b' c' d') := by
  subst e
  refine ⟨below_alloc (below_alloc (Below.refl _ _) _) _, blk_alloc (blk_new _ _) _, ?_⟩
  have := blk_new (w.alloc (AR a b c d)) (AR a' b' c' d')
  rwa [World.size_alloc] at this

end Go.Proofs.YtmcppajgfhmpaaaGreatDoor.Tac
