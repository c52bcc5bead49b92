/- The closure of the package's adjustCellRef: the two ends at or after a number move by another one, in place. -/
import Derived.Test.YtfbenlenihlpbaaDoorCellC
import Derived.Test.YtfbenlenihlpbaaDoorCellWide
import Derived.Test.YtfbenlenihlpbaaDoorPAc
section
namespace Go.Proofs.YtfbenlenihlpbaaDoor.AdjA
open Go.RowKit Go.Proofs.YtfbenlenihlpbaaDoorW.PrintWords Go.Proofs.YtfbenlenihlpbaaDoorW.PrintLast Go.Proofs.YtfbenlenihlpbaaDoorW.PrintMore
open Go.Proofs.YtfbenlenihlpbaaDoor.Str Go.Proofs.YtfbenlenihlpbaaDoor.Tac
set_option linter.unusedVariables false

/-- A row of four numbers in block g. -/
abbrev R4 (w : World) (base g c : Nat) (l : List Int) : Prop := Kd.R (Kd.int .i64) 3 w base (fun _ => True) (.slice (some ⟨g, 0, none⟩) 4 c) l
/-- What the closure leaves: the block g alone is another one. -/
def Left (w w' : World) (base g cp : Nat) (l : List Int) : Prop :=
  R4 w' base g cp l ∧ (∀ k, k ≠ g → w'.heap[k]? = w.heap[k]?) ∧ w'.heap.size = w.heap.size ∧ ∀ w0 : World, Below w0.heap.size w0 w → w0.heap.size ≤ g → Below w0.heap.size w0 w'
theorem Left.refl {w : World} {base g cp : Nat} {l : List Int} (h : R4 w base g cp l) : Left w w base g cp l := ⟨h, fun _ _ => rfl, rfl, fun _ h _ => h⟩
theorem Left.drew {w w' : World} {base g cp : Nat} {l : List Int} (h : Left w w' base g cp l) (n : Nat) : Left w (w'.drewN n) base g cp l := ⟨Kd.R_drewN h.1 n, h.2.1, h.2.2.1, fun w0 k e => pw_below_drewN (h.2.2.2 w0 k e) n⟩
theorem Left.drew1 {w w' : World} {base g cp : Nat} {l : List Int} (h : Left w w' base g cp l) : Left w w'.drew base g cp l := ⟨Kd.R_drew h.1, h.2.1, h.2.2.1, fun w0 k e => below_drew (h.2.2.2 w0 k e)⟩
theorem Left.put {w w' : World} {base g cp : Nat} {l : List Int} (h : Left w w' base g cp l) (i : Nat) (u : Int) : Left w (w'.setCell ⟨g, i, none⟩ (.int .i64 u)) base g cp (l.set i u) :=
  ⟨Kd.R_putn h.1 (i : Int) u, fun k hk => (Below.heap_setCell w' _ _ k hk).trans (h.2.1 k hk), by rw [← h.2.2.1]; simp [World.setCell], fun w0 k e => below_set (h.2.2.2 w0 k e) e⟩
theorem Left.cell {w w' : World} {base g cp k : Nat} {l : List Int} {v : Value} (h : Left w w' base g cp l) (hk : k ≠ g) (e : w.cell? ⟨k, 0, none⟩ = some v) : w'.cell? ⟨k, 0, none⟩ = some v := by
  simpa [World.cell?, h.2.1 k hk] using e
theorem R4.at {w : World} {base g cp : Nat} {l : List Int} (h : R4 w base g cp l) (i : Nat) (hi : i < 4) (x : Int) (e : l[i]? = some x) : w.cell? ⟨g, i, none⟩ = some (.int .i64 x) := by
  have := (Kd.R_celln 0 h (i : Int) (by omega) (by omega)).1
  rw [show rdOf (0 : Int) l (i : Int) = x by unfold rdOf; rw [List.getD_eq_getElem?_getD, show ((i : Int)).toNat = i from rfl, e]; rfl] at this
  exact this
theorem R4.frozen {w : World} {base g cp : Nat} {l : List Int} (h : R4 w base g cp l) (i : Nat) (hi : i < 4) : w.frozen? ⟨g, i, none⟩ = false := (Kd.R_celln 0 h (i : Int) (by omega) (by omega)).2

set_option maxHeartbeats 4000000 in
set_option maxRecDepth 100000 in
theorem apply000 (base g cp gn go m : Nat) (a b c d n o : Int) (w : World) (H : R4 w base g cp [a, b, c, d])
    (hn : w.cell? ⟨gn, 0, none⟩ = some (.int .i64 n)) (ho : w.cell? ⟨go, 0, none⟩ = some (.int .i64 o)) (n1 : gn ≠ g) (n2 : go ≠ g) (h1 : a < n) (h2 : c < n) (b1 : 0 ≤ a ∧ a ≤ 1000) (b2 : 0 ≤ c ∧ c ≤ 1000) (b3 : 0 ≤ o ∧ o ≤ 1000) (bm : 2000 ≤ m) :
    Calls Tryd.prog 74 #[.slice (some ⟨g, 0, none⟩) 4 cp, .int .i64 0, .int .i64 2, .int .i64 m, .pointer (some ⟨gn, 0, none⟩), .pointer (some ⟨go, 0, none⟩)] w fun e w' => e = .returned (.slice (some ⟨g, 0, none⟩) 4 cp) ∧ Left w w' base g cp [a, b, c, d] := by
  have L := Aside0.mk (Left.refl H)
  clear H
  have d1 : decide (a ≥ n) = false := decide_eq_false (by omega)
  have d1b : decide (n ≤ a) = false := decide_eq_false (by omega)
  have d2 : decide (c ≥ n) = false := decide_eq_false (by omega)
  have d2b : decide (n ≤ c) = false := decide_eq_false (by omega)
  go_enter Tryd.func74, Tryd.ntmps74
  go_upto_region 1 with fail
  have x_ : w.cell? ⟨g, 0, none⟩ = some (.int .i64 a) := R4.at L.out.1 0 (by decide) _ rfl
  have y_ : w.cell? ⟨g, 2, none⟩ = some (.int .i64 c) := R4.at L.out.1 2 (by decide) _ rfl
  have z_ := R4.frozen L.out.1 0 (by decide)
  have t_ := R4.frozen L.out.1 2 (by decide)
  have KN := Aside0.mk hn
  have KO := Aside0.mk ho
  go_region_held3 (fun W => W.cell? ⟨g, 0, none⟩ = some (.int .i64 a) ∧ W.cell? ⟨gn, 0, none⟩ = some (.int .i64 n)) (exact ⟨x_, hn⟩) (fail)
  go_upto_region 3 with fail
  go_region_held3 (fun W => W.cell? ⟨g, 2, none⟩ = some (.int .i64 c) ∧ W.cell? ⟨gn, 0, none⟩ = some (.int .i64 n)) (exact ⟨y_, hn⟩) (fail)
  go_wp2_with fail
  go_ret
  exact ⟨by rfl, L.out.drew 2⟩
set_option maxHeartbeats 4000000 in
set_option maxRecDepth 100000 in
theorem apply001 (base g cp gn go m : Nat) (a b c d n o : Int) (w : World) (H : R4 w base g cp [a, b, c, d])
    (hn : w.cell? ⟨gn, 0, none⟩ = some (.int .i64 n)) (ho : w.cell? ⟨go, 0, none⟩ = some (.int .i64 o)) (n1 : gn ≠ g) (n2 : go ≠ g) (h1 : a < n) (h2 : n ≤ c) (b1 : 0 ≤ a ∧ a ≤ 1000) (b2 : 0 ≤ c ∧ c ≤ 1000) (b3 : 0 ≤ o ∧ o ≤ 1000) (bm : 2000 ≤ m) :
    Calls Tryd.prog 74 #[.slice (some ⟨g, 0, none⟩) 4 cp, .int .i64 0, .int .i64 2, .int .i64 m, .pointer (some ⟨gn, 0, none⟩), .pointer (some ⟨go, 0, none⟩)] w fun e w' => e = .returned (.slice (some ⟨g, 0, none⟩) 4 cp) ∧ Left w w' base g cp [a, b, (c + o), d] := by
  have L := Aside0.mk (Left.refl H)
  clear H
  have d1 : decide (a ≥ n) = false := decide_eq_false (by omega)
  have d1b : decide (n ≤ a) = false := decide_eq_false (by omega)
  have d2 : decide (c ≥ n) = true := decide_eq_true h2
  have d2b : decide (n ≤ c) = true := decide_eq_true h2
  have e2 : IntKind.i64.wrap (c + o) = c + o := IntWalk.i64_in _ (by omega)
  have d3 : decide (c + o > (m : Int)) = false := decide_eq_false (by omega)
  have d3b : decide ((m : Int) < c + o) = false := decide_eq_false (by omega)
  go_enter Tryd.func74, Tryd.ntmps74
  go_upto_region 1 with fail
  have x_ : w.cell? ⟨g, 0, none⟩ = some (.int .i64 a) := R4.at L.out.1 0 (by decide) _ rfl
  have y_ : w.cell? ⟨g, 2, none⟩ = some (.int .i64 c) := R4.at L.out.1 2 (by decide) _ rfl
  have z_ := R4.frozen L.out.1 0 (by decide)
  have t_ := R4.frozen L.out.1 2 (by decide)
  have KN := Aside0.mk hn
  have KO := Aside0.mk ho
  go_region_held3 (fun W => W.cell? ⟨g, 0, none⟩ = some (.int .i64 a) ∧ W.cell? ⟨gn, 0, none⟩ = some (.int .i64 n)) (exact ⟨x_, hn⟩) (fail)
  go_upto_region 3 with fail
  go_region_held3 (fun W => W.cell? ⟨g, 2, none⟩ = some (.int .i64 c) ∧ W.cell? ⟨gn, 0, none⟩ = some (.int .i64 n)) (exact ⟨y_, hn⟩) (fail)
  go_upto_region 4 with fail
  go_region_with (fail)
  all_goals
    go_upto_region 5 with fail
    have L3 : Left w _ base g cp [a, b, (c + o), d] := (L.out.put 2 (c + o)).drew1.drew1.drew1
    generalize hw3 : (w.setCell ⟨g, 2, none⟩ (.int .i64 (c + o))).drew.drew.drew = w3 at L3 ⊢
    have q_ : w3.cell? ⟨g, 2, none⟩ = some (.int .i64 (c + o)) := R4.at L3.1 2 (by decide) _ rfl
    clear hw3
    have L4 := Aside0.mk L3
    clear L3
    go_wp2_with fail
    go_ret
    exact ⟨by rfl, L4.out⟩
set_option maxHeartbeats 4000000 in
set_option maxRecDepth 100000 in
theorem apply010 (base g cp gn go m : Nat) (a b c d n o : Int) (w : World) (H : R4 w base g cp [a, b, c, d])
    (hn : w.cell? ⟨gn, 0, none⟩ = some (.int .i64 n)) (ho : w.cell? ⟨go, 0, none⟩ = some (.int .i64 o)) (n1 : gn ≠ g) (n2 : go ≠ g) (h1 : n ≤ a) (h2 : c < n) (b1 : 0 ≤ a ∧ a ≤ 1000) (b2 : 0 ≤ c ∧ c ≤ 1000) (b3 : 0 ≤ o ∧ o ≤ 1000) (bm : 2000 ≤ m) :
    Calls Tryd.prog 74 #[.slice (some ⟨g, 0, none⟩) 4 cp, .int .i64 0, .int .i64 2, .int .i64 m, .pointer (some ⟨gn, 0, none⟩), .pointer (some ⟨go, 0, none⟩)] w fun e w' => e = .returned (.slice (some ⟨g, 0, none⟩) 4 cp) ∧ Left w w' base g cp [(a + o), b, c, d] := by
  have L := Aside0.mk (Left.refl H)
  clear H
  have d1 : decide (a ≥ n) = true := decide_eq_true h1
  have d1b : decide (n ≤ a) = true := decide_eq_true h1
  have d2 : decide (c ≥ n) = false := decide_eq_false (by omega)
  have d2b : decide (n ≤ c) = false := decide_eq_false (by omega)
  have e1 : IntKind.i64.wrap (a + o) = a + o := IntWalk.i64_in _ (by omega)
  go_enter Tryd.func74, Tryd.ntmps74
  go_upto_region 1 with fail
  have x_ : w.cell? ⟨g, 0, none⟩ = some (.int .i64 a) := R4.at L.out.1 0 (by decide) _ rfl
  have y_ : w.cell? ⟨g, 2, none⟩ = some (.int .i64 c) := R4.at L.out.1 2 (by decide) _ rfl
  have z_ := R4.frozen L.out.1 0 (by decide)
  have t_ := R4.frozen L.out.1 2 (by decide)
  have KN := Aside0.mk hn
  have KO := Aside0.mk ho
  go_region_held3 (fun W => W.cell? ⟨g, 0, none⟩ = some (.int .i64 a) ∧ W.cell? ⟨gn, 0, none⟩ = some (.int .i64 n)) (exact ⟨x_, hn⟩) (fail)
  go_upto_region 2 with fail
  go_region_with (fail)
  all_goals
    go_upto_region 3 with fail
    have L2 : Left w _ base g cp [(a + o), b, c, d] := (L.out.put 0 (a + o)).drew1.drew1
    generalize ((w.setCell ⟨g, 0, none⟩ (.int .i64 (a + o))).drew).drew = w2 at L2 ⊢
    have hn := L2.cell n1 KN.out
    have ho := L2.cell n2 KO.out
    have y_ : w2.cell? ⟨g, 2, none⟩ = some (.int .i64 c) := R4.at L2.1 2 (by decide) _ rfl
    have t_ := R4.frozen L2.1 2 (by decide)
    clear x_ z_ L
    have L := Aside0.mk L2
    clear L2
    go_region_held3 (fun W => W.cell? ⟨g, 2, none⟩ = some (.int .i64 c) ∧ W.cell? ⟨gn, 0, none⟩ = some (.int .i64 n)) (exact ⟨y_, hn⟩) (fail)
    go_wp2_with fail
    go_ret
    exact ⟨by rfl, L.out.drew1⟩
set_option maxHeartbeats 4000000 in
set_option maxRecDepth 100000 in
theorem apply011 (base g cp gn go m : Nat) (a b c d n o : Int) (w : World) (H : R4 w base g cp [a, b, c, d])
    (hn : w.cell? ⟨gn, 0, none⟩ = some (.int .i64 n)) (ho : w.cell? ⟨go, 0, none⟩ = some (.int .i64 o)) (n1 : gn ≠ g) (n2 : go ≠ g) (h1 : n ≤ a) (h2 : n ≤ c) (b1 : 0 ≤ a ∧ a ≤ 1000) (b2 : 0 ≤ c ∧ c ≤ 1000) (b3 : 0 ≤ o ∧ o ≤ 1000) (bm : 2000 ≤ m) :
    Calls Tryd.prog 74 #[.slice (some ⟨g, 0, none⟩) 4 cp, .int .i64 0, .int .i64 2, .int .i64 m, .pointer (some ⟨gn, 0, none⟩), .pointer (some ⟨go, 0, none⟩)] w fun e w' => e = .returned (.slice (some ⟨g, 0, none⟩) 4 cp) ∧ Left w w' base g cp [(a + o), b, (c + o), d] := by
  have L := Aside0.mk (Left.refl H)
  clear H
  have d1 : decide (a ≥ n) = true := decide_eq_true h1
  have d1b : decide (n ≤ a) = true := decide_eq_true h1
  have d2 : decide (c ≥ n) = true := decide_eq_true h2
  have d2b : decide (n ≤ c) = true := decide_eq_true h2
  have e1 : IntKind.i64.wrap (a + o) = a + o := IntWalk.i64_in _ (by omega)
  have e2 : IntKind.i64.wrap (c + o) = c + o := IntWalk.i64_in _ (by omega)
  have d3 : decide (c + o > (m : Int)) = false := decide_eq_false (by omega)
  have d3b : decide ((m : Int) < c + o) = false := decide_eq_false (by omega)
  go_enter Tryd.func74, Tryd.ntmps74
  go_upto_region 1 with fail
  have x_ : w.cell? ⟨g, 0, none⟩ = some (.int .i64 a) := R4.at L.out.1 0 (by decide) _ rfl
  have y_ : w.cell? ⟨g, 2, none⟩ = some (.int .i64 c) := R4.at L.out.1 2 (by decide) _ rfl
  have z_ := R4.frozen L.out.1 0 (by decide)
  have t_ := R4.frozen L.out.1 2 (by decide)
  have KN := Aside0.mk hn
  have KO := Aside0.mk ho
  go_region_held3 (fun W => W.cell? ⟨g, 0, none⟩ = some (.int .i64 a) ∧ W.cell? ⟨gn, 0, none⟩ = some (.int .i64 n)) (exact ⟨x_, hn⟩) (fail)
  go_upto_region 2 with fail
  go_region_with (fail)
  all_goals
    go_upto_region 3 with fail
    have L2 : Left w _ base g cp [(a + o), b, c, d] := (L.out.put 0 (a + o)).drew1.drew1
    generalize ((w.setCell ⟨g, 0, none⟩ (.int .i64 (a + o))).drew).drew = w2 at L2 ⊢
    have hn := L2.cell n1 KN.out
    have ho := L2.cell n2 KO.out
    have y_ : w2.cell? ⟨g, 2, none⟩ = some (.int .i64 c) := R4.at L2.1 2 (by decide) _ rfl
    have t_ := R4.frozen L2.1 2 (by decide)
    clear x_ z_ L
    have L := Aside0.mk L2
    clear L2
    go_region_held3 (fun W => W.cell? ⟨g, 2, none⟩ = some (.int .i64 c) ∧ W.cell? ⟨gn, 0, none⟩ = some (.int .i64 n)) (exact ⟨y_, hn⟩) (fail)
    go_upto_region 4 with fail
    go_region_with (fail)
    all_goals
      go_upto_region 5 with fail
      have L3 : Left w _ base g cp [(a + o), b, (c + o), d] := (L.out.put 2 (c + o)).drew1.drew1
      generalize hw3 : (w2.setCell ⟨g, 2, none⟩ (.int .i64 (c + o))).drew.drew = w3 at L3 ⊢
      have q_ : w3.cell? ⟨g, 2, none⟩ = some (.int .i64 (c + o)) := R4.at L3.1 2 (by decide) _ rfl
      clear hw3
      have L4 := Aside0.mk L3
      clear L3
      go_wp2_with fail
      go_ret
      exact ⟨by rfl, L4.out⟩
set_option maxHeartbeats 4000000 in
set_option maxRecDepth 100000 in
theorem apply100 (base g cp gn go m : Nat) (a b c d n o : Int) (w : World) (H : R4 w base g cp [a, b, c, d])
    (hn : w.cell? ⟨gn, 0, none⟩ = some (.int .i64 n)) (ho : w.cell? ⟨go, 0, none⟩ = some (.int .i64 o)) (n1 : gn ≠ g) (n2 : go ≠ g) (h1 : b < n) (h2 : d < n) (b1 : 0 ≤ b ∧ b ≤ 1000) (b2 : 0 ≤ d ∧ d ≤ 1000) (b3 : 0 ≤ o ∧ o ≤ 1000) (bm : 2000 ≤ m) :
    Calls Tryd.prog 74 #[.slice (some ⟨g, 0, none⟩) 4 cp, .int .i64 1, .int .i64 3, .int .i64 m, .pointer (some ⟨gn, 0, none⟩), .pointer (some ⟨go, 0, none⟩)] w fun e w' => e = .returned (.slice (some ⟨g, 0, none⟩) 4 cp) ∧ Left w w' base g cp [a, b, c, d] := by
  have L := Aside0.mk (Left.refl H)
  clear H
  have d1 : decide (b ≥ n) = false := decide_eq_false (by omega)
  have d1b : decide (n ≤ b) = false := decide_eq_false (by omega)
  have d2 : decide (d ≥ n) = false := decide_eq_false (by omega)
  have d2b : decide (n ≤ d) = false := decide_eq_false (by omega)
  go_enter Tryd.func74, Tryd.ntmps74
  go_upto_region 1 with fail
  have x_ : w.cell? ⟨g, 1, none⟩ = some (.int .i64 b) := R4.at L.out.1 1 (by decide) _ rfl
  have y_ : w.cell? ⟨g, 3, none⟩ = some (.int .i64 d) := R4.at L.out.1 3 (by decide) _ rfl
  have z_ := R4.frozen L.out.1 1 (by decide)
  have t_ := R4.frozen L.out.1 3 (by decide)
  have KN := Aside0.mk hn
  have KO := Aside0.mk ho
  go_region_held3 (fun W => W.cell? ⟨g, 1, none⟩ = some (.int .i64 b) ∧ W.cell? ⟨gn, 0, none⟩ = some (.int .i64 n)) (exact ⟨x_, hn⟩) (fail)
  go_upto_region 3 with fail
  go_region_held3 (fun W => W.cell? ⟨g, 3, none⟩ = some (.int .i64 d) ∧ W.cell? ⟨gn, 0, none⟩ = some (.int .i64 n)) (exact ⟨y_, hn⟩) (fail)
  go_wp2_with fail
  go_ret
  exact ⟨by rfl, L.out.drew 2⟩
set_option maxHeartbeats 4000000 in
set_option maxRecDepth 100000 in
theorem apply101 (base g cp gn go m : Nat) (a b c d n o : Int) (w : World) (H : R4 w base g cp [a, b, c, d])
    (hn : w.cell? ⟨gn, 0, none⟩ = some (.int .i64 n)) (ho : w.cell? ⟨go, 0, none⟩ = some (.int .i64 o)) (n1 : gn ≠ g) (n2 : go ≠ g) (h1 : b < n) (h2 : n ≤ d) (b1 : 0 ≤ b ∧ b ≤ 1000) (b2 : 0 ≤ d ∧ d ≤ 1000) (b3 : 0 ≤ o ∧ o ≤ 1000) (bm : 2000 ≤ m) :
    Calls Tryd.prog 74 #[.slice (some ⟨g, 0, none⟩) 4 cp, .int .i64 1, .int .i64 3, .int .i64 m, .pointer (some ⟨gn, 0, none⟩), .pointer (some ⟨go, 0, none⟩)] w fun e w' => e = .returned (.slice (some ⟨g, 0, none⟩) 4 cp) ∧ Left w w' base g cp [a, b, c, (d + o)] := by
  have L := Aside0.mk (Left.refl H)
  clear H
  have d1 : decide (b ≥ n) = false := decide_eq_false (by omega)
  have d1b : decide (n ≤ b) = false := decide_eq_false (by omega)
  have d2 : decide (d ≥ n) = true := decide_eq_true h2
  have d2b : decide (n ≤ d) = true := decide_eq_true h2
  have e2 : IntKind.i64.wrap (d + o) = d + o := IntWalk.i64_in _ (by omega)
  have d3 : decide (d + o > (m : Int)) = false := decide_eq_false (by omega)
  have d3b : decide ((m : Int) < d + o) = false := decide_eq_false (by omega)
  go_enter Tryd.func74, Tryd.ntmps74
  go_upto_region 1 with fail
  have x_ : w.cell? ⟨g, 1, none⟩ = some (.int .i64 b) := R4.at L.out.1 1 (by decide) _ rfl
  have y_ : w.cell? ⟨g, 3, none⟩ = some (.int .i64 d) := R4.at L.out.1 3 (by decide) _ rfl
  have z_ := R4.frozen L.out.1 1 (by decide)
  have t_ := R4.frozen L.out.1 3 (by decide)
  have KN := Aside0.mk hn
  have KO := Aside0.mk ho
  go_region_held3 (fun W => W.cell? ⟨g, 1, none⟩ = some (.int .i64 b) ∧ W.cell? ⟨gn, 0, none⟩ = some (.int .i64 n)) (exact ⟨x_, hn⟩) (fail)
  go_upto_region 3 with fail
  go_region_held3 (fun W => W.cell? ⟨g, 3, none⟩ = some (.int .i64 d) ∧ W.cell? ⟨gn, 0, none⟩ = some (.int .i64 n)) (exact ⟨y_, hn⟩) (fail)
  go_upto_region 4 with fail
  go_region_with (fail)
  all_goals
    go_upto_region 5 with fail
    have L3 : Left w _ base g cp [a, b, c, (d + o)] := (L.out.put 3 (d + o)).drew1.drew1.drew1
    generalize hw3 : (w.setCell ⟨g, 3, none⟩ (.int .i64 (d + o))).drew.drew.drew = w3 at L3 ⊢
    have q_ : w3.cell? ⟨g, 3, none⟩ = some (.int .i64 (d + o)) := R4.at L3.1 3 (by decide) _ rfl
    clear hw3
    have L4 := Aside0.mk L3
    clear L3
    go_wp2_with fail
    go_ret
    exact ⟨by rfl, L4.out⟩
set_option maxHeartbeats 4000000 in
set_option maxRecDepth 100000 in
theorem apply110 (base g cp gn go m : Nat) (a b c d n o : Int) (w : World) (H : R4 w base g cp [a, b, c, d])
    (hn : w.cell? ⟨gn, 0, none⟩ = some (.int .i64 n)) (ho : w.cell? ⟨go, 0, none⟩ = some (.int .i64 o)) (n1 : gn ≠ g) (n2 : go ≠ g) (h1 : n ≤ b) (h2 : d < n) (b1 : 0 ≤ b ∧ b ≤ 1000) (b2 : 0 ≤ d ∧ d ≤ 1000) (b3 : 0 ≤ o ∧ o ≤ 1000) (bm : 2000 ≤ m) :
    Calls Tryd.prog 74 #[.slice (some ⟨g, 0, none⟩) 4 cp, .int .i64 1, .int .i64 3, .int .i64 m, .pointer (some ⟨gn, 0, none⟩), .pointer (some ⟨go, 0, none⟩)] w fun e w' => e = .returned (.slice (some ⟨g, 0, none⟩) 4 cp) ∧ Left w w' base g cp [a, (b + o), c, d] := by
  have L := Aside0.mk (Left.refl H)
  clear H
  have d1 : decide (b ≥ n) = true := decide_eq_true h1
  have d1b : decide (n ≤ b) = true := decide_eq_true h1
  have d2 : decide (d ≥ n) = false := decide_eq_false (by omega)
  have d2b : decide (n ≤ d) = false := decide_eq_false (by omega)
  have e1 : IntKind.i64.wrap (b + o) = b + o := IntWalk.i64_in _ (by omega)
  go_enter Tryd.func74, Tryd.ntmps74
  go_upto_region 1 with fail
  have x_ : w.cell? ⟨g, 1, none⟩ = some (.int .i64 b) := R4.at L.out.1 1 (by decide) _ rfl
  have y_ : w.cell? ⟨g, 3, none⟩ = some (.int .i64 d) := R4.at L.out.1 3 (by decide) _ rfl
  have z_ := R4.frozen L.out.1 1 (by decide)
  have t_ := R4.frozen L.out.1 3 (by decide)
  have KN := Aside0.mk hn
  have KO := Aside0.mk ho
  go_region_held3 (fun W => W.cell? ⟨g, 1, none⟩ = some (.int .i64 b) ∧ W.cell? ⟨gn, 0, none⟩ = some (.int .i64 n)) (exact ⟨x_, hn⟩) (fail)
  go_upto_region 2 with fail
  go_region_with (fail)
  all_goals
    go_upto_region 3 with fail
    have L2 : Left w _ base g cp [a, (b + o), c, d] := (L.out.put 1 (b + o)).drew1.drew1
    generalize ((w.setCell ⟨g, 1, none⟩ (.int .i64 (b + o))).drew).drew = w2 at L2 ⊢
    have hn := L2.cell n1 KN.out
    have ho := L2.cell n2 KO.out
    have y_ : w2.cell? ⟨g, 3, none⟩ = some (.int .i64 d) := R4.at L2.1 3 (by decide) _ rfl
    have t_ := R4.frozen L2.1 3 (by decide)
    clear x_ z_ L
    have L := Aside0.mk L2
    clear L2
    go_region_held3 (fun W => W.cell? ⟨g, 3, none⟩ = some (.int .i64 d) ∧ W.cell? ⟨gn, 0, none⟩ = some (.int .i64 n)) (exact ⟨y_, hn⟩) (fail)
    go_wp2_with fail
    go_ret
    exact ⟨by rfl, L.out.drew1⟩
set_option maxHeartbeats 4000000 in
set_option maxRecDepth 100000 in
theorem apply111 (base g cp gn go m : Nat) (a b c d n o : Int) (w : World) (H : R4 w base g cp [a, b, c, d])
    (hn : w.cell? ⟨gn, 0, none⟩ = some (.int .i64 n)) (ho : w.cell? ⟨go, 0, none⟩ = some (.int .i64 o)) (n1 : gn ≠ g) (n2 : go ≠ g) (h1 : n ≤ b) (h2 : n ≤ d) (b1 : 0 ≤ b ∧ b ≤ 1000) (b2 : 0 ≤ d ∧ d ≤ 1000) (b3 : 0 ≤ o ∧ o ≤ 1000) (bm : 2000 ≤ m) :
    Calls Tryd.prog 74 #[.slice (some ⟨g, 0, none⟩) 4 cp, .int .i64 1, .int .i64 3, .int .i64 m, .pointer (some ⟨gn, 0, none⟩), .pointer (some ⟨go, 0, none⟩)] w fun e w' => e = .returned (.slice (some ⟨g, 0, none⟩) 4 cp) ∧ Left w w' base g cp [a, (b + o), c, (d + o)] := by
  have L := Aside0.mk (Left.refl H)
  clear H
  have d1 : decide (b ≥ n) = true := decide_eq_true h1
  have d1b : decide (n ≤ b) = true := decide_eq_true h1
  have d2 : decide (d ≥ n) = true := decide_eq_true h2
  have d2b : decide (n ≤ d) = true := decide_eq_true h2
  have e1 : IntKind.i64.wrap (b + o) = b + o := IntWalk.i64_in _ (by omega)
  have e2 : IntKind.i64.wrap (d + o) = d + o := IntWalk.i64_in _ (by omega)
  have d3 : decide (d + o > (m : Int)) = false := decide_eq_false (by omega)
  have d3b : decide ((m : Int) < d + o) = false := decide_eq_false (by omega)
  go_enter Tryd.func74, Tryd.ntmps74
  go_upto_region 1 with fail
  have x_ : w.cell? ⟨g, 1, none⟩ = some (.int .i64 b) := R4.at L.out.1 1 (by decide) _ rfl
  have y_ : w.cell? ⟨g, 3, none⟩ = some (.int .i64 d) := R4.at L.out.1 3 (by decide) _ rfl
  have z_ := R4.frozen L.out.1 1 (by decide)
  have t_ := R4.frozen L.out.1 3 (by decide)
  have KN := Aside0.mk hn
  have KO := Aside0.mk ho
  go_region_held3 (fun W => W.cell? ⟨g, 1, none⟩ = some (.int .i64 b) ∧ W.cell? ⟨gn, 0, none⟩ = some (.int .i64 n)) (exact ⟨x_, hn⟩) (fail)
  go_upto_region 2 with fail
  go_region_with (fail)
  all_goals
    go_upto_region 3 with fail
    have L2 : Left w _ base g cp [a, (b + o), c, d] := (L.out.put 1 (b + o)).drew1.drew1
    generalize ((w.setCell ⟨g, 1, none⟩ (.int .i64 (b + o))).drew).drew = w2 at L2 ⊢
    have hn := L2.cell n1 KN.out
    have ho := L2.cell n2 KO.out
    have y_ : w2.cell? ⟨g, 3, none⟩ = some (.int .i64 d) := R4.at L2.1 3 (by decide) _ rfl
    have t_ := R4.frozen L2.1 3 (by decide)
    clear x_ z_ L
    have L := Aside0.mk L2
    clear L2
    go_region_held3 (fun W => W.cell? ⟨g, 3, none⟩ = some (.int .i64 d) ∧ W.cell? ⟨gn, 0, none⟩ = some (.int .i64 n)) (exact ⟨y_, hn⟩) (fail)
    go_upto_region 4 with fail
    go_region_with (fail)
    all_goals
      go_upto_region 5 with fail
      have L3 : Left w _ base g cp [a, (b + o), c, (d + o)] := (L.out.put 3 (d + o)).drew1.drew1
      generalize hw3 : (w2.setCell ⟨g, 3, none⟩ (.int .i64 (d + o))).drew.drew = w3 at L3 ⊢
      have q_ : w3.cell? ⟨g, 3, none⟩ = some (.int .i64 (d + o)) := R4.at L3.1 3 (by decide) _ rfl
      clear hw3
      have L4 := Aside0.mk L3
      clear L3
      go_wp2_with fail
      go_ret
      exact ⟨by rfl, L4.out⟩
end Go.Proofs.YtfbenlenihlpbaaDoor.AdjA
end

section
namespace Go.Proofs.YtfbenlenihlpbaaDoor.AdjT
open Go.RowKit Go.Proofs.YtfbenlenihlpbaaDoorW.PrintWords Go.Proofs.YtfbenlenihlpbaaDoorW.PrintLast Go.Proofs.YtfbenlenihlpbaaDoorW.PrintMore
open Go.Proofs.YtfbenlenihlpbaaDoor.Str Go.Proofs.YtfbenlenihlpbaaDoor.CellB Go.Proofs.YtfbenlenihlpbaaDoor.CellWide Go.Proofs.YtfbenlenihlpbaaDoor.PFnCols
set_option linter.unusedVariables false
set_option linter.unusedSimpArgs false

abbrev Ar := Int × Int × Int × Int
def Ok (a : Ar) : Prop := (1 ≤ a.1 ∧ a.1 ≤ 60) ∧ (1 ≤ a.2.1 ∧ a.2.1 ≤ 99) ∧ (1 ≤ a.2.2.1 ∧ a.2.2.1 ≤ 60) ∧ (1 ≤ a.2.2.2 ∧ a.2.2.2 ≤ 99)
/-- Within the limits. -/
def In (a : Ar) : Prop := (1 ≤ a.1 ∧ a.1 ≤ 30) ∧ (1 ≤ a.2.1 ∧ a.2.1 ≤ 60) ∧ (1 ≤ a.2.2.1 ∧ a.2.2.1 ≤ 30) ∧ (1 ≤ a.2.2.2 ∧ a.2.2.2 ≤ 60)
theorem In.ok {a : Ar} (h : In a) : Ok a := by
  obtain ⟨h1, h2, h3, h4⟩ := h
  exact ⟨by omega, by omega, by omega, by omega⟩
/-- Where a number goes, and where an area goes. -/
def ix (n o x : Int) : Int := if x < n then x else x + o
def mv (rows : Bool) (n o : Int) (a : Ar) : Ar := if rows then (a.1, ix n o a.2.1, a.2.2.1, ix n o a.2.2.2) else (ix n o a.1, a.2.1, ix n o a.2.2.1, a.2.2.2)
theorem ix_le {n o x m : Int} (ho : 1 ≤ o ∧ o ≤ 20) (h : 1 ≤ x ∧ x ≤ m) : 1 ≤ ix n o x ∧ ix n o x ≤ m + 20 := by
  unfold ix
  split <;> omega
theorem mv_ok {rows : Bool} {n o : Int} {a : Ar} (ho : 1 ≤ o ∧ o ≤ 20) (h : In a) : Ok (mv rows n o a) := by
  obtain ⟨h1, h2, h3, h4⟩ := h
  have i1 := ix_le (n := n) ho h1
  have i2 := ix_le (n := n) ho h2
  have i3 := ix_le (n := n) ho h3
  have i4 := ix_le (n := n) ho h4
  cases rows
  · exact ⟨⟨i1.1, by show ix n o a.1 ≤ 60; omega⟩, by show 1 ≤ a.2.1 ∧ a.2.1 ≤ 99; omega, ⟨i3.1, by show ix n o a.2.2.1 ≤ 60; omega⟩, by show 1 ≤ a.2.2.2 ∧ a.2.2.2 ≤ 99; omega⟩
  · exact ⟨by show 1 ≤ a.1 ∧ a.1 ≤ 60; omega, ⟨i2.1, by show ix n o a.2.1 ≤ 99; omega⟩, by show 1 ≤ a.2.2.1 ∧ a.2.2.1 ≤ 60; omega, ⟨i4.1, by show ix n o a.2.2.2 ≤ 99; omega⟩⟩
/-- An area's text. -/
def tx (a : Ar) : ByteArray := rng a.1 a.2.1 a.2.2.1 a.2.2.2

/-! ### names of cells -/
def okC (c : Nat) : Bool := decide (1 ≤ (bytesOf (colT ((c : Int) + 1))).length ∧ (bytesOf (colT ((c : Int) + 1))).length ≤ 3 ∧ ((bytesOf (colT ((c : Int) + 1))).all fun x => decide (65 ≤ x ∧ x ≤ 90)) = true ∧ colVal (bytesOf (colT ((c : Int) + 1))) = (c : Int) + 1)
theorem okC_all : (List.range 60).all okC = true := by decide +kernel
def okR (r : Nat) : Bool := decide (1 ≤ (bytesOf (rowT ((r : Int) + 1))).length ∧ (bytesOf (rowT ((r : Int) + 1))).length ≤ 10 ∧ ((bytesOf (rowT ((r : Int) + 1))).all fun x => decide (48 ≤ x ∧ x ≤ 57)) = true ∧ rowVal (bytesOf (rowT ((r : Int) + 1))) = (r : Int) + 1)
theorem okR_all : (List.range 99).all okR = true := by decide +kernel
theorem cell_name (c r : Int) (hc : 1 ≤ c ∧ c ≤ 60) (hr : 1 ≤ r ∧ r ≤ 99) : IsCell (txt c r) (bytesOf (colT c)) (bytesOf (rowT r)) ∧ colVal (bytesOf (colT c)) = c ∧ rowVal (bytesOf (rowT r)) = r := by
  have h1 := List.all_eq_true.1 okC_all (c.toNat - 1) (List.mem_range.2 (by omega))
  have h2 := List.all_eq_true.1 okR_all (r.toNat - 1) (List.mem_range.2 (by omega))
  unfold okC at h1
  unfold okR at h2
  rw [show ((c.toNat - 1 : Nat) : Int) + 1 = c by omega] at h1
  rw [show ((r.toNat - 1 : Nat) : Int) + 1 = r by omega] at h2
  obtain ⟨a1, a2, a3, a4⟩ := of_decide_eq_true h1
  obtain ⟨b1, b2, b3, b4⟩ := of_decide_eq_true h2
  exact ⟨⟨bytes_append _ _, a1, a2, fun x hx => of_decide_eq_true (List.all_eq_true.1 a3 x hx), b1, b2, fun x hx => of_decide_eq_true (List.all_eq_true.1 b3 x hx), by omega, by omega, by omega⟩, a4, b4⟩
theorem tx_bytes (a : Ar) : bytesOf (tx a) = bytesOf (txt a.1 a.2.1) ++ 58 :: bytesOf (txt a.2.2.1 a.2.2.2) := by
  unfold tx rng
  rw [bytes_append, bytes_append, show bytesOf (⟨#[58]⟩ : ByteArray) = [58] from rfl, List.append_assoc, List.singleton_append]
theorem tx_no {a : Ar} (h : Ok a) : ∀ x ∈ bytesOf (tx a), 48 ≤ x := by
  intro x hx
  rw [tx_bytes, List.mem_append, List.mem_cons] at hx
  rcases hx with hx | hx | hx
  · exact ((txt_bytes _ _ h.1 h.2.1).1 x hx).1
  · omega
  · exact ((txt_bytes _ _ h.2.2.1 h.2.2.2).1 x hx).1
theorem tx_size {a : Ar} (h : Ok a) : 1 ≤ (tx a).size ∧ (tx a).size ≤ 9 := by
  have h1 := (txt_bytes _ _ h.1 h.2.1).2
  have h2 := (txt_bytes _ _ h.2.2.1 h.2.2.2).2
  have h3 : (⟨#[58]⟩ : ByteArray).size = 1 := rfl
  unfold tx rng
  rw [ByteArray.size_append, ByteArray.size_append]
  omega
theorem tx_strike {a : Ar} (h : Ok a) : (bytesOf (tx a)).filter (fun x => x != 36) = bytesOf (txt a.1 a.2.1) ++ 58 :: bytesOf (txt a.2.2.1 a.2.2.2) := by
  rw [← tx_bytes, List.filter_eq_self]
  intro x hx
  have := tx_no h x hx
  have h36 : x ≠ 36 := by omega
  simpa using h36
theorem tx_contains {a : Ar} (h : Ok a) : excelize_zzIndex.f 100 (tx a) ⟨#[58]⟩ = some ((txt a.1 a.2.1).size : Int) := by
  have hs := tx_size h
  have h1 := (txt_bytes _ _ h.1 h.2.1)
  have hb := tx_bytes a
  have hl := congrArg List.length hb
  rw [bytesOf_length, List.length_append, List.length_cons, bytesOf_length, bytesOf_length] at hl
  refine index_at (tx a) ⟨#[58]⟩ 58 rfl (by omega) 100 _ (by omega) ?_ (by omega) ?_
  · intro j hj e
    have : bt (tx a) (j : Int) = bt (txt a.1 a.2.1) (j : Int) := bt_bytes _ _ _ (by
      rw [hb, List.getElem?_append_left (by rw [bytesOf_length]; exact hj)]
      exact bytes_get _ j hj)
    rw [this] at e
    exact not_colon _ h1.1 j hj e
  · exact bt_bytes _ _ _ (by rw [hb, List.getElem?_append_right (by rw [bytesOf_length]; omega), bytesOf_length, Nat.sub_self]; rfl)
theorem tx_inj {a b : Ar} (ha : Ok a) (hb : Ok b) (h : tx a = tx b) : a = b := by
  have h1 := read_range _ _ _ _ ha.1 ha.2.1 ha.2.2.1 ha.2.2.2
  have h2 := read_range _ _ _ _ hb.1 hb.2.1 hb.2.2.1 hb.2.2.2
  change Ev (fun k => PRo.spec_gridReadOne.f k (tx a)) _ at h1
  change Ev (fun k => PRo.spec_gridReadOne.f k (tx b)) _ at h2
  rw [h] at h1
  obtain ⟨k1, h1⟩ := h1
  obtain ⟨k2, h2⟩ := h2
  have e1 := h1 (k1 + k2) (by omega)
  have e2 := h2 (k1 + k2) (by omega)
  have e := Option.some.inj (e1.symm.trans e2)
  obtain ⟨a1, a2, a3, a4⟩ := a
  obtain ⟨b1, b2, b3, b4⟩ := b
  simp only [Prod.mk.injEq] at e ⊢
  exact ⟨e.1, e.2.1, e.2.2.1, e.2.2.2.1⟩

/-! ### the list of areas -/
def tailI (l : List ByteArray) : List Int := (l.map fun y => 32 :: bytesOf y).flatten
theorem split_l0 : ∀ (r : List ByteArray) (x s : ByteArray) (acc : List ByteArray) (k : Nat), bytesOf s = bytesOf x ++ tailI r → (32 : Int) ∉ bytesOf x → (∀ y ∈ r, (32 : Int) ∉ bytesOf y) → s.size ≤ 1000000 → acc.length + r.length ≤ 1000 → s.size + r.length + 2 ≤ k →
    excelize_zzSplit.l0 k s ⟨#[32]⟩ acc = some (acc ++ x :: r)
  | [], x, s, acc, k, hs, hx, _, hz, hl, hk => by
    obtain ⟨k, rfl⟩ : ∃ m, k = m + 1 := ⟨k - 1, by omega⟩
    have e : s = x := bytes_inj (by rw [hs]; simp [tailI])
    subst e
    have i := index_none s ⟨#[32]⟩ 32 rfl (by omega) k (by omega) (not_mem_bt hx)
    simp only [excelize_zzSplit.l0]
    rw [i, Option.bind_some, if_pos (by decide), if_pos (by simp at hl; omega)]
  | y :: r, x, s, acc, k, hs, hx, hy, hz, hl, hk => by
    obtain ⟨k, rfl⟩ : ∃ m, k = m + 1 := ⟨k - 1, by omega⟩
    have hs2 : bytesOf s = bytesOf x ++ 32 :: (bytesOf y ++ tailI r) := by rw [hs]; simp [tailI]
    have hlen : s.size = x.size + 1 + (bytesOf y ++ tailI r).length := by
      have := congrArg List.length hs2
      rw [bytesOf_length, List.length_append, List.length_cons, bytesOf_length] at this
      omega
    have hat : bt s ((x.size : Nat) : Int) = 32 := bt_bytes _ _ _ (by
      rw [hs2, List.getElem?_append_right (by rw [bytesOf_length]; omega), bytesOf_length, Nat.sub_self]; rfl)
    have hbef : ∀ j : Nat, j < x.size → bt s (j : Int) ≠ 32 := by
      intro j hj
      have : bt s (j : Int) = bt x (j : Int) := bt_bytes _ _ _ (by
        rw [hs2, List.getElem?_append_left (by rw [bytesOf_length]; omega)]
        exact bytes_get x j hj)
      rw [this]
      exact not_mem_bt hx j hj
    have i1 := index_at s ⟨#[32]⟩ 32 rfl (by omega) k x.size (by omega) hbef (by omega) hat
    have x1 : s.extract 0 x.size = x := bytes_inj (by
      rw [bytes_extract, hs2, List.drop_zero, Nat.sub_zero, List.take_left' (bytesOf_length x)])
    have x2 : bytesOf (s.extract (x.size + 1) s.size) = bytesOf y ++ tailI r := by
      rw [bytes_extract, hs2, ← List.drop_drop, List.drop_left' (bytesOf_length x), List.drop_succ_cons, List.drop_zero]
      exact List.take_of_length_le (by omega)
    have x3 : (s.extract (x.size + 1) s.size).size = s.size - (x.size + 1) := by rw [ByteArray.size_extract]; omega
    have ih := split_l0 r y (s.extract (x.size + 1) s.size) (acc ++ [x]) k x2 (hy y List.mem_cons_self) (fun z hz => hy z (List.mem_cons_of_mem _ hz)) (by omega) (by simp at hl ⊢; omega) (by simp at hk ⊢; omega)
    have hsz : (⟨#[32]⟩ : ByteArray).size = 1 := rfl
    simp only [excelize_zzSplit.l0]
    rw [i1, Option.bind_some, if_neg (by omega), if_pos (by omega), if_pos (by omega), if_pos (by simp at hl; omega)]
    rw [hsz, w64 _ (by omega) (by omega), if_pos (by omega), if_pos (by omega), Int.toNat_natCast, show ((x.size : Int) + ((1 : Nat) : Int)).toNat = x.size + 1 from by omega, x1, ih]
    simp
/-- The texts of areas, with blanks between. -/
def texts : List Ar → ByteArray
  | [] => ⟨#[]⟩
  | a :: l => strOfNums (bytesOf (tx a) ++ tailI (l.map tx))
theorem tailI_range (l : List ByteArray) : ∀ x ∈ tailI l, 0 ≤ x ∧ x ≤ 255 := by
  intro x hx
  unfold tailI at hx
  obtain ⟨m, hm, hx⟩ := List.mem_flatten.1 hx
  obtain ⟨y, _, rfl⟩ := List.mem_map.1 hm
  rcases List.mem_cons.1 hx with rfl | hx
  · omega
  · exact bytes_range y x hx
theorem texts_bytes (a : Ar) (l : List Ar) : bytesOf (texts (a :: l)) = bytesOf (tx a) ++ tailI (l.map tx) :=
  str_bytes _ (fun x hx => (List.mem_append.1 hx).elim (bytes_range _ x) (tailI_range _ x))
theorem tail_size : ∀ (l : List Ar), (∀ a ∈ l, Ok a) → (tailI (l.map tx)).length ≤ 10 * l.length
  | [], _ => by simp [tailI]
  | a :: l, h => by
    have h1 := (tx_size (h a List.mem_cons_self)).2
    have h2 := tail_size l (fun b hb => h b (List.mem_cons_of_mem _ hb))
    have e : tailI ((a :: l).map tx) = 32 :: bytesOf (tx a) ++ tailI (l.map tx) := by simp [tailI]
    rw [e, List.length_append, List.length_cons, List.length_cons, bytesOf_length]
    omega
theorem texts_size (l : List Ar) (h : ∀ a ∈ l, Ok a) : (texts l).size ≤ 10 * l.length := by
  cases l with
  | nil => exact Nat.zero_le _
  | cons a l =>
    have h1 := (tx_size (h a List.mem_cons_self)).2
    have h2 := tail_size l (fun b hb => h b (List.mem_cons_of_mem _ hb))
    have := congrArg List.length (texts_bytes a l)
    rw [bytesOf_length, List.length_append, bytesOf_length] at this
    rw [List.length_cons]
    omega
theorem split_texts (a : Ar) (l : List Ar) (h : ∀ b ∈ a :: l, Ok b) (hl : l.length ≤ 10) : Ev (fun k => excelize_zzSplit.f k (texts (a :: l)) ⟨#[32]⟩) ((a :: l).map tx) := by
  have no : ∀ b ∈ a :: l, (32 : Int) ∉ bytesOf (tx b) := fun b hb hm => by
    have := tx_no (h b hb) 32 hm
    omega
  have hz := texts_size (a :: l) h
  rw [List.length_cons] at hz
  refine Ev.of (excelize_zzSplit.mono _ _) (k := 1000) ?_
  unfold excelize_zzSplit.f
  rw [split_l0 (l.map tx) (tx a) (texts (a :: l)) [] 1000 (texts_bytes a l) (no a List.mem_cons_self) (fun y hy => by
    obtain ⟨b, hb, rfl⟩ := List.mem_map.1 hy
    exact no b (List.mem_cons_of_mem _ hb)) (by omega) (by simp; omega) (by simp; omega)]
  rfl
end Go.Proofs.YtfbenlenihlpbaaDoor.AdjT
end

section
namespace Go.Proofs.YtfbenlenihlpbaaDoor.AdjB
open Go.RowKit Go.Proofs.YtfbenlenihlpbaaDoorW.PrintWords Go.Proofs.YtfbenlenihlpbaaDoorW.PrintLast Go.Proofs.YtfbenlenihlpbaaDoorW.PrintMore
open Go.Proofs.YtfbenlenihlpbaaDoor.Str Go.Proofs.YtfbenlenihlpbaaDoor.Tac Go.Proofs.YtfbenlenihlpbaaDoor.AdjA Go.Proofs.YtfbenlenihlpbaaDoor.AdjT Go.Proofs.YtfbenlenihlpbaaDoor.CellWide Go.Proofs.YtfbenlenihlpbaaDoor.PAc
set_option linter.unusedVariables false

theorem ix_lt {n o x : Int} (h : x < n) : ix n o x = x := if_pos h
theorem ix_ge {n o x : Int} (h : ¬ x < n) : ix n o x = x + o := if_neg h
theorem applyCols (base g cp gn go : Nat) (a b c d n o : Int) (w : World) (H : R4 w base g cp [a, b, c, d])
    (hn : w.cell? ⟨gn, 0, none⟩ = some (.int .i64 n)) (ho : w.cell? ⟨go, 0, none⟩ = some (.int .i64 o)) (n1 : gn ≠ g) (n2 : go ≠ g) (b1 : 0 ≤ a ∧ a ≤ 1000) (b2 : 0 ≤ c ∧ c ≤ 1000) (b3 : 0 ≤ o ∧ o ≤ 1000) :
    Calls Tryd.prog 74 #[.slice (some ⟨g, 0, none⟩) 4 cp, .int .i64 0, .int .i64 2, .int .i64 16384, .pointer (some ⟨gn, 0, none⟩), .pointer (some ⟨go, 0, none⟩)] w fun e w' => e = .returned (.slice (some ⟨g, 0, none⟩) 4 cp) ∧ AdjA.Left w w' base g cp [ix n o a, b, ix n o c, d] := by
  by_cases h1 : a < n <;> by_cases h2 : c < n
  · rw [ix_lt h1, ix_lt h2]; exact apply000 base g cp gn go 16384 a b c d n o w H hn ho n1 n2 h1 h2 b1 b2 b3 (by decide)
  · rw [ix_lt h1, ix_ge h2]; exact apply001 base g cp gn go 16384 a b c d n o w H hn ho n1 n2 h1 (by omega) b1 b2 b3 (by decide)
  · rw [ix_ge h1, ix_lt h2]; exact apply010 base g cp gn go 16384 a b c d n o w H hn ho n1 n2 (by omega) h2 b1 b2 b3 (by decide)
  · rw [ix_ge h1, ix_ge h2]; exact apply011 base g cp gn go 16384 a b c d n o w H hn ho n1 n2 (by omega) (by omega) b1 b2 b3 (by decide)
theorem applyRows (base g cp gn go : Nat) (a b c d n o : Int) (w : World) (H : R4 w base g cp [a, b, c, d])
    (hn : w.cell? ⟨gn, 0, none⟩ = some (.int .i64 n)) (ho : w.cell? ⟨go, 0, none⟩ = some (.int .i64 o)) (n1 : gn ≠ g) (n2 : go ≠ g) (b1 : 0 ≤ b ∧ b ≤ 1000) (b2 : 0 ≤ d ∧ d ≤ 1000) (b3 : 0 ≤ o ∧ o ≤ 1000) :
    Calls Tryd.prog 74 #[.slice (some ⟨g, 0, none⟩) 4 cp, .int .i64 1, .int .i64 3, .int .i64 1048576, .pointer (some ⟨gn, 0, none⟩), .pointer (some ⟨go, 0, none⟩)] w fun e w' => e = .returned (.slice (some ⟨g, 0, none⟩) 4 cp) ∧ AdjA.Left w w' base g cp [a, ix n o b, c, ix n o d] := by
  by_cases h1 : b < n <;> by_cases h2 : d < n
  · rw [ix_lt h1, ix_lt h2]; exact apply100 base g cp gn go 1048576 a b c d n o w H hn ho n1 n2 h1 h2 b1 b2 b3 (by decide)
  · rw [ix_lt h1, ix_ge h2]; exact apply101 base g cp gn go 1048576 a b c d n o w H hn ho n1 n2 h1 (by omega) b1 b2 b3 (by decide)
  · rw [ix_ge h1, ix_lt h2]; exact apply110 base g cp gn go 1048576 a b c d n o w H hn ho n1 n2 (by omega) h2 b1 b2 b3 (by decide)
  · rw [ix_ge h1, ix_ge h2]; exact apply111 base g cp gn go 1048576 a b c d n o w H hn ho n1 n2 (by omega) (by omega) b1 b2 b3 (by decide)

/-! ### the text of an area, written -/
def okCol (c : Nat) : Bool := decide (excelize_zzColumnName.f 10 ((c : Int) + 1) = some (colT ((c : Int) + 1)))
theorem cols_ok : ((List.range 60).all okCol) = true := by decide +kernel
theorem col_name (c : Int) (hc : 1 ≤ c ∧ c ≤ 60) : Ev (fun k => excelize_zzColumnName.f k c) (colT c) := by
  have h := List.all_eq_true.1 cols_ok (c.toNat - 1) (List.mem_range.2 (by omega))
  unfold okCol at h
  have h := of_decide_eq_true h
  rw [show ((c.toNat - 1 : Nat) : Int) + 1 = c by omega] at h
  exact Ev.of (excelize_zzColumnName.mono _) h
theorem small (c r : Int) : (colT c).size ≤ 2 ∧ (rowT r).size ≤ 2 := by
  unfold colT rowT colB rowB
  constructor <;> split <;> (simp [ByteArray.size])
theorem cell_text (c r : Int) (hc : 1 ≤ c ∧ c ≤ 60) (hr : 1 ≤ r ∧ r ≤ 99) : Ev (fun k => excelize_CoordinatesToCellName.f k c r []) (txt c r, none) := by
  have hs := small c r
  have hN : Ev (fun k => excelize_ColumnNumberToName.f k c) (colT c, none) := by
    unfold excelize_ColumnNumberToName.f
    refine Ev.congr (fun k => by rw [if_neg (by omega), if_neg (by omega)]) ?_
    exact Ev.bind (col_name c hc) (Ev.now _)
  unfold excelize_CoordinatesToCellName.f
  refine Ev.congr (fun k => by rw [if_neg (by omega), decide_eq_false (show ¬ r < 1 by omega)]) ?_
  refine Ev.step (fun k => by rw [excelize_CoordinatesToCellName.j0, if_neg (by decide), if_neg (by omega)]) ?_
  refine Ev.bind hN ?_
  refine Ev.congr (fun k => if_pos rfl) ?_
  refine Ev.step (f := fun _ => some (txt c r, none)) (fun k => ?_) (Ev.now _)
  dsimp only
  rw [excelize_CoordinatesToCellName.l0, if_neg (by simp), itoa_row r hr, Option.bind_some, if_pos (by omega)]
  rfl
theorem nn : (none : Option Int).isNone = true := rfl
theorem range_text (c a d b : Int) (hc : 1 ≤ c ∧ c ≤ 60) (ha : 1 ≤ a ∧ a ≤ 99) (hd : 1 ≤ d ∧ d ≤ 60) (hb : 1 ≤ b ∧ b ≤ 99) : Ev (fun k => excelize_coordinatesToRangeRef.f k [c, a, d, b] []) (rng c a d b, none) := by
  have h1 := (txt_bytes c a hc ha).2.2
  have h2 := (txt_bytes d b hd hb).2.2
  have h3 : (⟨#[58]⟩ : ByteArray).size = 1 := rfl
  unfold excelize_coordinatesToRangeRef.f
  refine Ev.congr (fun k => by rw [if_pos (by rfl), if_pos (by simp), if_pos (by simp), show rd [c, a, d, b] 0 = c from rfl, show rd [c, a, d, b] 1 = a from rfl, show rd [c, a, d, b] 2 = d from rfl, show rd [c, a, d, b] 3 = b from rfl]) ?_
  refine Ev.bind (cell_text c a hc ha) ?_
  refine Ev.congr (fun k => ((if_pos nn).trans (if_pos (by simp))).trans (if_pos (by simp))) ?_
  refine Ev.bind (cell_text d b hd hb) ?_
  exact Ev.congr (f := fun _ => some (rng c a d b, none)) (fun k => by dsimp only; rw [if_pos nn, if_pos (by omega), if_pos (by rw [ByteArray.size_append]; omega)]; try rfl) (Ev.now _)
theorem contains_colon {a : Ar} (h : Ok a) : excelize_zzContains.f 100 (tx a) ⟨#[58]⟩ = some true := by
  unfold excelize_zzContains.f
  rw [tx_contains h, Option.bind_some, decide_eq_true (by omega)]
theorem outs_succ {rows : Bool} {n o : Int} {ar : List Ar} {i : Nat} {a : Ar} (h : ar[i]? = some a) : ((ar.take (i + 1)).map (mv rows n o)).map tx = ((ar.take i).map (mv rows n o)).map tx ++ [tx (mv rows n o a)] := by
  rw [List.take_add_one, h]
  simp

theorem refText (a : Ar) (h : Ok a) (base g cp : Nat) (W : World) (H : R4 W base g cp [a.1, a.2.1, a.2.2.1, a.2.2.2]) :
    Calls Tryd.prog 72 #[.slice (some ⟨g, 0, none⟩) 4 cp, .slice none 0 0] W fun e w' => e = .returned (.tuple #[.string (tx a), .nilIface]) ∧ Below W.heap.size W w' := by
  obtain ⟨K, hK⟩ := range_text _ _ _ _ h.1 h.2.1 h.2.2.1 h.2.2.2
  have hr := Kd.R_reads' H
  exact excelize_coordinatesToRangeRef.calls K (some ⟨g, 0, none⟩) cp [a.1, a.2.1, a.2.2.1, a.2.2.2] none 0 [] (tx a) none W hr.2.2 hr.2.1 (Kd.C_nil _ _) (Nat.le_refl _) (hK K (Nat.le_refl _))

set_option maxHeartbeats 8000000 in
set_option maxRecDepth 100000 in
theorem adjust (k : Nat) (t : ByteArray) (ar : List Ar) (refs : List ByteArray) (rows : Bool) (n o : Int) (v : Value) (w : World) (res : ByteArray) (hs : PFnCols.excelize_zzSplit.f k t ⟨#[32]⟩ = some refs) (hrefs : refs = ar.map tx) (hv : ∀ a ∈ ar, In a) (hl : ar.length ≤ 10) (hres : Given.strings_Join.f ((ar.map (mv rows n o)).map tx) ⟨#[32]⟩ = some res) (ho : 1 ≤ o ∧ o ≤ 20) :
    Calls Tryd.prog 57 #[v, .string t, .bool rows, .int .i64 n, .int .i64 o] w fun e w' => e = .returned (.tuple #[.string res, .nilIface]) ∧ Below w.heap.size w w' := by
  have A1 := Aside0.mk hs
  have HR := Aside0.mk hrefs
  have HV := Aside0.mk hv
  have HS := Aside0.mk hres
  have HL := Aside0.mk hl
  have HOO := Aside0.mk ho
  clear hs hrefs hv hres hl
  have d0 : decide (o < 0) = false := decide_eq_false (by omega)
  have d0' : (o < 0) = False := eq_false (by omega)
  clear ho
  have HB0 := Aside0.mk (Below.refl w.heap.size w)
  go_enter Tryd.func57, Tryd.ntmps57
  go_wp2_with (first
    | (go_at_call 66; refine (PFnCols.excelize_zzSplit.calls k _ _ _ _ A1.out).mono ?_; rintro e w2 ⟨v2, rfl, hr, hb⟩; have HP := Aside0.mk hr; clear hr; have hn2 := blk_below (blk_alloc (blk_new w (.cells #[.int .i64 n] 3)) (.cells #[.int .i64 o] 3)) hb; have ho2 := blk_below (blk_new (w.alloc (.cells #[.int .i64 n] 3)) (.cells #[.int .i64 o] 3)) hb; have hz2 : w.heap.size + 2 ≤ w2.heap.size := (by have := hb.size; simpa [World.size_alloc] using this); have HN := Aside0.mk hn2; have HO2 := Aside0.mk ho2; have HZ := Aside0.mk hz2; clear hn2 ho2 hz2; have n0_ := Aside0.mk (below_step (below_alloc (below_alloc HB0.out _) _) hb); clear HB0; have HB0 := n0_; clear n0_ hb; obtain ⟨Ao, co, eo⟩ := Kd.R_slice HP.out; subst eo))
  rw [World.size_alloc] at HO2
  go_loopg [12, 22] ar.length (fun gf v12 v22 w' => ∃ x : Int, v22 = .int .i64 x ∧ Aside0 (0 ≤ x ∧ x.toNat + gf = ar.length) ∧ Aside0 (Kd.R Kd.string 9 w' w2.heap.size (fun _ => True) v12 (((ar.take x.toNat).map (mv rows n o)).map tx)) ∧ Aside0 (Below w2.heap.size w2 w'))
  case atStart => exact ⟨0, by first | rfl | simp, ⟨by simp⟩, ⟨Kd.R_nil _ _ _ _ _⟩, ⟨Below.refl _ _⟩⟩
  case round =>
    obtain ⟨x, rfl, HX, HQ, HB⟩ := hrel
    by_cases hlt : x.toNat < ar.length
    · obtain ⟨g', rfl⟩ : ∃ g', gk = g' + 1 := ⟨gk - 1, by have := HX.out; omega⟩
      obtain ⟨a, ha⟩ : ∃ a, ar[x.toNat]? = some a := ⟨ar[x.toNat], List.getElem?_eq_getElem hlt⟩
      have HIN := Aside0.mk (HV.out a (List.mem_of_getElem? ha))
      have hrl : refs.length = ar.length := by rw [HR.out, List.length_map]
      have hrd : rdOf ByteArray.empty refs x = tx a := by
        rw [HR.out]; unfold rdOf; rw [List.getD_eq_getElem?_getD, List.getElem?_map, ha]; rfl
      have HA := Aside0.mk ha
      have HRL := Aside0.mk hrl
      have HC := Aside0.mk (Below.refl wr.heap.size wr)
      have HBr := Aside0.mk (below_size HB.out)
      have p1 : 0 ≤ x := HX.out.1
      have q1 : x < (refs.length : Int) := by omega
      obtain ⟨ad, e0, hx⟩ := Kd.at_string (Kd.R_reads' (Kd.R_below HP.out HB.out)).2.2 x p1 q1
      cases e0
      rw [hrd] at hx
      have c1 : decide (x < (refs.length : Int)) = true := decide_eq_true q1
      have c2 : decide (0 ≤ x) = true := decide_eq_true p1
      replace p1 := eq_true p1
      replace q1 := eq_true q1
      clear hlt ha hrl hrd
      have HCN := Aside0.mk (contains_colon HIN.out.ok)
      obtain ⟨i1, i2, i3⟩ := cell_name a.1 a.2.1 HIN.out.ok.1 HIN.out.ok.2.1
      obtain ⟨j1, j2, j3⟩ := cell_name a.2.2.1 a.2.2.2 HIN.out.ok.2.2.1 HIN.out.ok.2.2.2
      have HRR := Aside0.mk (fun W => CellC.rangeRef (tx a) _ _ _ _ _ _ i1 j1 (by have := (tx_size HIN.out.ok).2; omega) (tx_strike HIN.out.ok) W)
      rw [i2, i3, j2, j3] at HRR
      clear i1 i2 i3 j1 j2 j3
      go_upto_region 9 with (first
        | (go_at_call 75; (with_reducible refine (excelize_zzContains.calls 100 _ _ _ _ HCN.out).mono ?_); rintro e w' ⟨rfl, ⟨nd, rfl⟩⟩)
        | (go_at_call 50; refine (HRR.out _).mono ?_; rintro e w3 ⟨v3, rfl, hr, hb⟩; have HG := Aside0.mk hr; clear hr; (have n0_ := Aside0.mk (below_step (by repeat (first | (with_reducible first | exact HB.out | apply below_alloc | apply pw_below_drewN | apply below_drew1) | exact HB.out)) hb); have n1_ := Aside0.mk (below_step (by repeat (first | (with_reducible first | exact HC.out | apply below_alloc | apply pw_below_drewN | apply below_drew1) | exact HC.out)) hb); clear HB HC; have HB := n0_; have HC := n1_; clear n0_ n1_ hb)))
      obtain ⟨g, cp, ev, gb, gl, cl, hcl⟩ := Kd.R_form HG.out (by simp)
      have ev' : v3 = .slice (some ⟨g, 0, none⟩) 4 cp := ev
      clear ev
      subst ev'
      have hgr : wr.heap.size ≤ g := by simpa using gb
      have hg2 : w2.heap.size ≤ g := Nat.le_trans HBr.out hgr
      have n1 : w.heap.size ≠ g := by have := HZ.out; omega
      have n2 : w.heap.size + 1 ≠ g := by have := HZ.out; omega
      clear gb gl cl hcl
      have hn3 : w3.cell? ⟨w.heap.size, 0, none⟩ = some (.int .i64 n) := blk_cell (blk_below HN.out HB.out) 0
      have ho3 : w3.cell? ⟨w.heap.size + 1, 0, none⟩ = some (.int .i64 o) := blk_cell (blk_below HO2.out HB.out) 0
      have GR := Aside0.mk hgr
      have G2 := Aside0.mk hg2
      have N1 := Aside0.mk n1
      have N2 := Aside0.mk n2
      clear hgr hg2 n1 n2
      have HOK := Aside0.mk (fun rw_ => mv_ok (rows := rw_) (n := n) HOO.out HIN.out)
      cases rows
      · have HT := Aside0.mk (fun W (H : R4 W wr.heap.size g cp [ix n o a.1, a.2.1, ix n o a.2.2.1, a.2.2.2]) => refText (mv false n o a) (HOK.out false) wr.heap.size g cp W H)
        go_upto_region 12 with fail
        go_quiet (fail)
        go_wp2_with (first
          | (go_at_call 74; refine (applyCols wr.heap.size g cp _ _ _ _ _ _ n o _ (Kd.R_drewN (by have := HG.out; exact this) nq) (blk_cell (blk_below HN.out (by repeat (first | (with_reducible first | exact HB.out | apply below_alloc | apply pw_below_drewN | apply below_drew1) | exact HB.out))) 0) (blk_cell (blk_below HO2.out (by repeat (first | (with_reducible first | exact HB.out | apply below_alloc | apply pw_below_drewN | apply below_drew1) | exact HB.out))) 0) N1.out N2.out (by have := HIN.out.1; omega) (by have := HIN.out.2.2.1; omega) (by have := HOO.out; omega)).mono ?_; rintro e w4 ⟨rfl, hleft⟩; have HL4 := Aside0.mk hleft.1; have n0_ := Aside0.mk (hleft.2.2.2 w2 (by repeat (first | (with_reducible first | exact HB.out | apply below_alloc | apply pw_below_drewN | apply below_drew1) | exact HB.out)) G2.out); have n1_ := Aside0.mk (hleft.2.2.2 wr (by repeat (first | (with_reducible first | exact HC.out | apply below_alloc | apply pw_below_drewN | apply below_drew1) | exact HC.out)) GR.out); clear HB HC hleft; have HB := n0_; have HC := n1_; clear n0_ n1_)
          | (go_at_call 72; refine (HT.out _ HL4.out).mono ?_; rintro e w5 ⟨rfl, hb⟩; (have n0_ := Aside0.mk (below_step (by repeat (first | (with_reducible first | exact HB.out | apply below_alloc | apply pw_below_drewN | apply below_drew1) | exact HB.out)) hb); have n1_ := Aside0.mk (below_step (by repeat (first | (with_reducible first | exact HC.out | apply below_alloc | apply pw_below_drewN | apply below_drew1) | exact HC.out)) hb); clear HB HC; have HB := n0_; have HC := n1_; clear n0_ n1_ hb))
          | ((with_reducible refine gate_builtin (b := .append) (xs := #[.tmp 93, .tmp 95]) rfl ?_); at_builtin; refine Kd.R_append Kd.string (w0 := w2) w2.heap.size rfl (.tmp 93) (.tmp 95) 39 9 (.string ⟨#[]⟩) 16 rfl Tryd.underlying39 PFnCols.info9 rfl (by decide) (by omega) u12 (((ar.take x.toNat).map (mv false n o)).map tx) (tx (mv false n o a)) [.string (tx (mv false n o a))] (fun _ => True) (fun _ => False) rfl rfl ?aP (fun _ hk => hk.elim) ?aF ?aO ?aB ?aS ?aL ?_; (case aP => exact rfl); (case aB => exact (by repeat (first | (with_reducible first | exact HB.out | apply below_alloc | apply pw_below_drewN | apply below_drew1) | exact HB.out))); (case aF => exact (fun _ _ => trivial)); (case aO => exact Kd.R_below HQ.out (by repeat (first | (with_reducible first | exact HC.out | apply below_alloc | apply pw_below_drewN | apply below_drew1) | exact HC.out))); (case aS => exact (below_size (by repeat (first | (with_reducible first | exact HB.out | apply below_alloc | apply pw_below_drewN | apply below_drew1) | exact HB.out)))); (case aL => have h1_ := HX.out; have h2_ := HL.out; have h3_ := List.length_take_le x.toNat ar; rw [List.length_map, List.length_map]; omega); intro v13 w6 ho hb hg hat; have n0_ := Aside0.mk hb; have n1_ := Aside0.mk ho; clear HB; have HB := n0_; have HO6 := n1_; clear n0_ n1_; clear ho hb hg hat))
        go_roundg g'
        case measure => omega
        case rel => exact ⟨wrap64 (x + 1), by first | rfl | simp, ⟨by have := HX.out; have := HL.out; rw [w64 _ (by omega) (by omega)]; omega⟩, ⟨by have h1_ := HX.out; have h2_ := HL.out; rw [w64 _ (by omega) (by omega), show (x + 1).toNat = x.toNat + 1 by omega, outs_succ HA.out]; exact HO6.out⟩, ⟨by repeat (first | (with_reducible first | exact HB.out | apply below_alloc | apply pw_below_drewN | apply below_drew1) | exact HB.out)⟩⟩
      · have HT := Aside0.mk (fun W (H : R4 W wr.heap.size g cp [a.1, ix n o a.2.1, a.2.2.1, ix n o a.2.2.2]) => refText (mv true n o a) (HOK.out true) wr.heap.size g cp W H)
        go_upto_region 14 with fail
        go_quiet (fail)
        go_wp2_with (first
          | (go_at_call 74; refine (applyRows wr.heap.size g cp _ _ _ _ _ _ n o _ (Kd.R_drewN (by have := HG.out; exact this) nq) (blk_cell (blk_below HN.out (by repeat (first | (with_reducible first | exact HB.out | apply below_alloc | apply pw_below_drewN | apply below_drew1) | exact HB.out))) 0) (blk_cell (blk_below HO2.out (by repeat (first | (with_reducible first | exact HB.out | apply below_alloc | apply pw_below_drewN | apply below_drew1) | exact HB.out))) 0) N1.out N2.out (by have := HIN.out.2.1; omega) (by have := HIN.out.2.2.2; omega) (by have := HOO.out; omega)).mono ?_; rintro e w4 ⟨rfl, hleft⟩; have HL4 := Aside0.mk hleft.1; have n0_ := Aside0.mk (hleft.2.2.2 w2 (by repeat (first | (with_reducible first | exact HB.out | apply below_alloc | apply pw_below_drewN | apply below_drew1) | exact HB.out)) G2.out); have n1_ := Aside0.mk (hleft.2.2.2 wr (by repeat (first | (with_reducible first | exact HC.out | apply below_alloc | apply pw_below_drewN | apply below_drew1) | exact HC.out)) GR.out); clear HB HC hleft; have HB := n0_; have HC := n1_; clear n0_ n1_)
          | (go_at_call 72; refine (HT.out _ HL4.out).mono ?_; rintro e w5 ⟨rfl, hb⟩; (have n0_ := Aside0.mk (below_step (by repeat (first | (with_reducible first | exact HB.out | apply below_alloc | apply pw_below_drewN | apply below_drew1) | exact HB.out)) hb); have n1_ := Aside0.mk (below_step (by repeat (first | (with_reducible first | exact HC.out | apply below_alloc | apply pw_below_drewN | apply below_drew1) | exact HC.out)) hb); clear HB HC; have HB := n0_; have HC := n1_; clear n0_ n1_ hb))
          | ((with_reducible refine gate_builtin (b := .append) (xs := #[.tmp 93, .tmp 95]) rfl ?_); at_builtin; refine Kd.R_append Kd.string (w0 := w2) w2.heap.size rfl (.tmp 93) (.tmp 95) 39 9 (.string ⟨#[]⟩) 16 rfl Tryd.underlying39 PFnCols.info9 rfl (by decide) (by omega) u12 (((ar.take x.toNat).map (mv true n o)).map tx) (tx (mv true n o a)) [.string (tx (mv true n o a))] (fun _ => True) (fun _ => False) rfl rfl ?aP (fun _ hk => hk.elim) ?aF ?aO ?aB ?aS ?aL ?_; (case aP => exact rfl); (case aB => exact (by repeat (first | (with_reducible first | exact HB.out | apply below_alloc | apply pw_below_drewN | apply below_drew1) | exact HB.out))); (case aF => exact (fun _ _ => trivial)); (case aO => exact Kd.R_below HQ.out (by repeat (first | (with_reducible first | exact HC.out | apply below_alloc | apply pw_below_drewN | apply below_drew1) | exact HC.out))); (case aS => exact (below_size (by repeat (first | (with_reducible first | exact HB.out | apply below_alloc | apply pw_below_drewN | apply below_drew1) | exact HB.out)))); (case aL => have h1_ := HX.out; have h2_ := HL.out; have h3_ := List.length_take_le x.toNat ar; rw [List.length_map, List.length_map]; omega); intro v13 w6 ho hb hg hat; have n0_ := Aside0.mk hb; have n1_ := Aside0.mk ho; clear HB; have HB := n0_; have HO6 := n1_; clear n0_ n1_; clear ho hb hg hat))
        go_roundg g'
        case measure => omega
        case rel => exact ⟨wrap64 (x + 1), by first | rfl | simp, ⟨by have := HX.out; have := HL.out; rw [w64 _ (by omega) (by omega)]; omega⟩, ⟨by have h1_ := HX.out; have h2_ := HL.out; rw [w64 _ (by omega) (by omega), show (x + 1).toNat = x.toNat + 1 by omega, outs_succ HA.out]; exact HO6.out⟩, ⟨by repeat (first | (with_reducible first | exact HB.out | apply below_alloc | apply pw_below_drewN | apply below_drew1) | exact HB.out)⟩⟩
    · have hxl : x.toNat = ar.length := by have := HX.out; omega
      have hrl : refs.length = ar.length := by rw [HR.out, List.length_map]
      have hq := HQ.out
      rw [hxl, List.take_length] at hq
      have c1 : decide (x < (refs.length : Int)) = false := decide_eq_false (by have := HX.out; omega)
      have c2 : (x < (refs.length : Int)) = False := eq_false (by have := HX.out; omega)
      obtain ⟨outs, houts⟩ : ∃ outs, (ar.map (mv rows n o)).map tx = outs := ⟨_, rfl⟩
      have hS := HS.out
      rw [houts] at hq hS
      have HS2 := Aside0.mk hS
      obtain ⟨Aq, cq, eq⟩ := Kd.R_slice hq
      subst eq
      have HQ2 := Aside0.mk hq
      clear hS houts HS
      clear hq hxl hrl HQ hlt
      go_wp2_with (first
        | (go_at_call 76; (with_reducible refine (Given.strings_Join.calls _ _ outs (⟨#[32]⟩ : ByteArray) res _ ?side1 ?side2 HS2.out).mono ?_); (case side1 => exact (Kd.R_reads' HQ2.out).2.2); (case side2 => exact (Kd.R_reads' HQ2.out).2.1); rintro e w3 ⟨rfl, hb⟩; have HE := Aside0.mk (below_step HB.out hb); clear hb))
      go_ret2
      exact ⟨by rfl, below_step HB0.out HE.out⟩

set_option maxHeartbeats 4000000 in
set_option maxRecDepth 100000 in
theorem door (k : Nat) (t : ByteArray) (ar : List Ar) (refs : List ByteArray) (rows : Bool) (n o : Int) (w : World) (res : ByteArray) (hs : PFnCols.excelize_zzSplit.f k t ⟨#[32]⟩ = some refs) (hrefs : refs = ar.map tx) (hv : ∀ a ∈ ar, In a) (hl : ar.length ≤ 10) (hres : Given.strings_Join.f ((ar.map (mv rows n o)).map tx) ⟨#[32]⟩ = some res) (ho : 1 ≤ o ∧ o ≤ 20) :
    Calls Tryd.prog 45 #[.string t, .bool rows, .int .i64 n, .int .i64 o] w fun e w' => e = .returned (.tuple #[.string res, .bool true]) ∧ Below w.heap.size w w' := by
  have A := Aside0.mk (fun v W => adjust k t ar refs rows n o v W res hs hrefs hv hl hres ho)
  clear hs hrefs hv hl hres ho
  have HB := Aside0.mk (Below.refl w.heap.size w)
  go_enter Tryd.func45, Tryd.ntmps45
  go_upto_region 2 with (first
    | (go_at_call 57; refine (A.out _ _).mono ?_; rintro e w1 ⟨rfl, hb⟩; (have n0_ := Aside0.mk (below_step (by repeat (first | (with_reducible first | exact HB.out | apply below_alloc | apply pw_below_drewN | apply below_drew1) | exact HB.out)) hb); clear HB; have HB := n0_; clear n0_ hb)))
  go_quiet (fail)
  go_wp2_with fail
  go_ret2
  exact ⟨by rfl, by repeat (first | (with_reducible first | exact HB.out | apply below_alloc | apply pw_below_drewN | apply below_drew1) | exact HB.out)⟩
set_option maxHeartbeats 4000000 in
set_option maxRecDepth 100000 in
theorem impl (k : Nat) (t : ByteArray) (ar : List Ar) (refs : List ByteArray) (rows : Bool) (n o : Int) (w : World) (res : ByteArray) (hs : PFnCols.excelize_zzSplit.f k t ⟨#[32]⟩ = some refs) (hrefs : refs = ar.map tx) (hv : ∀ a ∈ ar, In a) (hl : ar.length ≤ 10) (hres : Given.strings_Join.f ((ar.map (mv rows n o)).map tx) ⟨#[32]⟩ = some res) (ho : 1 ≤ o ∧ o ≤ 20) :
    Calls Tryd.prog 26 #[.string t, .bool rows, .int .i64 n, .int .i64 o] w fun e w' => e = .returned (.tuple #[.string res, .bool true]) ∧ Below w.heap.size w w' := by
  have A := Aside0.mk (fun W => door k t ar refs rows n o W res hs hrefs hv hl hres ho)
  clear hs hrefs hv hl hres ho
  have HB := Aside0.mk (Below.refl w.heap.size w)
  go_enter Tryd.func26, Tryd.ntmps26
  go_wp2_with (first
    | (go_at_call 45; refine (A.out _).mono ?_; rintro e w1 ⟨rfl, hb⟩; (have n0_ := Aside0.mk (below_step (by repeat (first | (with_reducible first | exact HB.out | apply below_alloc | apply pw_below_drewN | apply below_drew1) | exact HB.out)) hb); clear HB; have HB := n0_; clear n0_ hb)))
  go_ret2
  exact ⟨by rfl, by repeat (first | (with_reducible first | exact HB.out | apply below_alloc | apply pw_below_drewN | apply below_drew1) | exact HB.out)⟩

/-! ### the contract as a plain function -/
theorem join_texts (a : Ar) (l : List Ar) (h : ∀ b ∈ a :: l, Ok b) (hl : l.length ≤ 10) : Given.strings_Join.f ((a :: l).map tx) ⟨#[32]⟩ = some (texts (a :: l)) := by
  have e : Given.joined ((a :: l).map tx) ⟨#[32]⟩ = texts (a :: l) := bytes_inj (by
    rw [texts_bytes]
    unfold Given.joined
    rw [List.map_cons, List.map_cons, Lib.join_cons, Lib.joinTail]
    unfold bytesOf
    simp only [List.map_append, tailI]
    congr 1
    rw [List.map_flatten, List.map_map, List.map_map, List.map_map, List.map_map]
    congr 1)
  have hz := texts_size (a :: l) h
  rw [List.length_cons] at hz
  unfold Given.strings_Join.f
  rw [e, if_pos ⟨by simp; omega, by omega⟩]
theorem texts_inj {l m : List Ar} (hl : ∀ b ∈ l, Ok b) (hm : ∀ b ∈ m, Ok b) (l1 : l ≠ [] ∧ l.length ≤ 10) (m1 : m ≠ [] ∧ m.length ≤ 10) (h : texts l = texts m) : l = m := by
  obtain ⟨a, l, rfl⟩ := List.exists_cons_of_ne_nil l1.1
  obtain ⟨b, m, rfl⟩ := List.exists_cons_of_ne_nil m1.1
  obtain ⟨k1, h1⟩ := split_texts a l hl (by have := l1.2; simp at this; omega)
  obtain ⟨k2, h2⟩ := split_texts b m hm (by have := m1.2; simp at this; omega)
  rw [h] at h1
  have e := Option.some.inj ((h1 (k1 + k2) (by omega)).symm.trans (h2 (k1 + k2) (by omega)))
  have key : ∀ (l m : List Ar), (∀ b ∈ l, Ok b) → (∀ b ∈ m, Ok b) → l.map tx = m.map tx → l = m := by
    intro l
    induction l with
    | nil => intro m _ _ h; cases m with
      | nil => rfl
      | cons b m => simp at h
    | cons a l ih => intro m hl hm h; cases m with
      | nil => simp at h
      | cons b m =>
        rw [List.map_cons, List.map_cons, List.cons.injEq] at h
        rw [tx_inj (hl a List.mem_cons_self) (hm b List.mem_cons_self) h.1, ih m (fun x hx => hl x (List.mem_cons_of_mem _ hx)) (fun x hx => hm x (List.mem_cons_of_mem _ hx)) h.2]
  exact key _ _ hl hm e
/-- What a text of areas within the limits becomes. -/
def Fits (t : ByteArray) (o : Int) (l : List Ar) : Prop := (l ≠ [] ∧ l.length ≤ 10) ∧ (∀ b ∈ l, In b) ∧ t = texts l ∧ 1 ≤ o ∧ o ≤ 20
open Classical in
noncomputable def impl_AdjustRef.f (t : ByteArray) (rows : Bool) (n o : Int) : Option (ByteArray × Bool) :=
  if h : ∃ l, Fits t o l then some (texts (h.choose.map (mv rows n o)), true) else none
theorem adjusted (rows : Bool) (n o : Int) (l : List Ar) (hl : l ≠ [] ∧ l.length ≤ 10) (hin : ∀ b ∈ l, In b) (ho : 1 ≤ o ∧ o ≤ 20) : impl_AdjustRef.f (texts l) rows n o = some (texts (l.map (mv rows n o)), true) := by
  unfold impl_AdjustRef.f
  have h : ∃ m, Fits (texts l) o m := ⟨l, hl, hin, rfl, ho⟩
  rw [dif_pos h]
  have hs := h.choose_spec
  have e := texts_inj (fun b hb => (hs.2.1 b hb).ok) (fun b hb => (hin b hb).ok) hs.1 hl hs.2.2.1.symm
  rw [e]
theorem impl_AdjustRef.calls (a0 : ByteArray) (a1 : Bool) (a2 a3 : Int) (r1 : ByteArray) (r2 : Bool) (w : World) (h : impl_AdjustRef.f a0 a1 a2 a3 = some (r1, r2)) :
    Calls Tryd.prog 26 #[.string a0, .bool a1, .int .i64 a2, .int .i64 a3] w fun e w' => e = .returned (.tuple #[.string r1, .bool r2]) ∧ Below w.heap.size w w' := by
  unfold impl_AdjustRef.f at h
  split at h
  · rename_i hh
    have hs := hh.choose_spec
    generalize hh.choose = l at hs h
    obtain ⟨h1, h2, h3, h4⟩ := hs
    obtain ⟨a, l, rfl⟩ := List.exists_cons_of_ne_nil h1.1
    have hl : l.length ≤ 10 := by have := h1.2; simp at this; omega
    obtain ⟨k, hk⟩ := split_texts a l (fun b hb => (h2 b hb).ok) hl
    have hj := join_texts (mv a1 a2 a3 a) (l.map (mv a1 a2 a3)) (fun b hb => by
      rw [← List.map_cons (f := mv a1 a2 a3)] at hb
      obtain ⟨c, hc, rfl⟩ := List.mem_map.1 hb
      exact mv_ok h4 (h2 c hc)) (by simpa using hl)
    obtain ⟨e1, e2⟩ := Prod.mk.inj (Option.some.inj h)
    subst e1 e2 h3
    exact impl k _ (a :: l) _ a1 a2 a3 w _ (hk k (Nat.le_refl _)) rfl h2 h1.2 hj h4
  · cases h
end Go.Proofs.YtfbenlenihlpbaaDoor.AdjB
end
