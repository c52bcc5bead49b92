/- Contracts of functions that the text "Lv" uses: the call ends in what the plain Lean function says, where that says something. Written by a program of this session. No conditions. -/
import Derived.Test.YtjefbpfpobgmaaaProg
import Derived.Below
import Derived.Deep.Draws
import Derived.Deep.AppendLies
import Derived.Maps.AppendAt
import Derived.OwnWalk
import Derived.Laws.BytesArg
import Derived.Laws.MakeOwn
import Derived.Laws.OwnMore
import Derived.Deep.OwnRows
import Derived.Tactics
import Derived.Lib.ConvBytes
import Derived.Laws.Slices
import Derived.WalkKit
import Derived.KernelRfl
import Derived.RowKit3
import Derived.Deep.LoopGhost
import Derived.Deep.QuietTactic
import Derived.BigQuiet
import Derived.WideLaws
import Derived.Deep.DeepCutAuto
import Derived.Deep.CutBlock
import Derived.Deep.RegionHeld3
import Derived.Laws.Rows
import Derived.Lib.AppendStr
import Derived.ArgAppend
import Derived.Laws.IdiomCopy
import Derived.OrdersHeld
import Derived.Laws.BitsLemmas
import Derived.RowKit
import Derived.Test.YtjefbpfpobgmaaaFlt
import Derived.Test.YtjefbpfpobgmaaaWWords
import Derived.Test.YtjefbpfpobgmaaaWLast
import Derived.Test.YtjefbpfpobgmaaaWTab
import Derived.Test.YtjefbpfpobgmaaaWFour
import Derived.Test.YtjefbpfpobgmaaaWQPut
import Derived.Test.YtjefbpfpobgmaaaWApart
import Derived.Test.YtjefbpfpobgmaaaWArr
import Derived.Test.YtjefbpfpobgmaaaWZeros
import Derived.Test.YtjefbpfpobgmaaaWFoot
import Derived.Test.YtjefbpfpobgmaaaWKept
import Derived.Test.YtjefbpfpobgmaaaWShare
import Derived.Test.YtjefbpfpobgmaaaWN
import Derived.Test.YtjefbpfpobgmaaaWFootNe
import Derived.Test.YtjefbpfpobgmaaaWAt
import Derived.Test.YtjefbpfpobgmaaaWEqStruct
import Derived.Test.YtjefbpfpobgmaaaWRepsOne
import Derived.Test.YtjefbpfpobgmaaaWInv
import Derived.Test.YtjefbpfpobgmaaaWInvWords
import Derived.Test.YtjefbpfpobgmaaaWGuard
import Derived.Test.YtjefbpfpobgmaaaWNEv
import Derived.Test.YtjefbpfpobgmaaaWMore
namespace Go.Proofs.Ytjefbpfpobgmaaa.PLv
open Go.RowKit Go.Proofs.YtjefbpfpobgmaaaW.PrintWords Go.Proofs.YtjefbpfpobgmaaaW.PrintLast Go.Proofs.YtjefbpfpobgmaaaW.PrintMore
attribute [local go_sem] Go.Proofs.Ytjefbpfpobgmaaa.Flt.run_store_float max2_int min2_int max_two min_two max_three min_three max_four min_four   -- for this text's walks alone
set_option linter.unusedVariables false
set_option linter.unusedSimpArgs false



def errW : Option Int → Value
  | none => .nilIface
  | some c => .iface 0 (.int .i64 c)
theorem errW_none : errW none = .nilIface := rfl
theorem errW_some (c : Int) : errW (some c) = .iface 0 (.int .i64 c) := rfl

theorem info34 : (Try.prog.info? 34).map (fun i => (i.zero, i.size, i.bytes)) = some (some (.agg #[(.int .i64 0), (.int .i64 0), (.int .i64 0), (.int .i64 0), (.float .f64 0), (.bool false), (.bool false)]), 7, 48) := by kernel_rfl
theorem info68 : (Try.prog.info? 68).map (fun i => (i.zero, i.size, i.bytes)) = some (some (.agg #[(.int .i64 0), (.int .i64 0), (.int .i64 0), (.int .i64 0), (.float .f64 0), (.bool false), (.bool false)]), 7, 48) := by kernel_rfl
theorem info103 : (Try.prog.info? 103).map (fun i => (i.zero, i.size, i.bytes)) = some (some (.agg #[(.int .i64 0), (.int .i64 0), (.float .f64 0), (.bool false), (.int .i64 0), (.int .i64 0), (.bool false)]), 7, 56) := by kernel_rfl
-- the values' own types
/-! #### struct type 103 -/
structure S103 where
  f0 : Int
  f1 : Int
  f2 : Nat
  f3 : Bool
  f4 : Int
  f5 : Int
  f6 : Bool
def z103 : S103 := ⟨(0 : Int), (0 : Int), (0 : Nat), false, (0 : Int), (0 : Int), false⟩
def k103 : Kd S103 := Kd.iso (Kd.pair (Kd.int .i64) (Kd.pair (Kd.int .i64) (Kd.pair (Kd.scalar (Value.float .f64) (fun _ => rfl)) (Kd.pair Kd.bool (Kd.pair (Kd.int .i64) (Kd.pair (Kd.int .i64) Kd.bool)))))) (fun x : S103 => (x.f0, x.f1, x.f2, x.f3, x.f4, x.f5, x.f6))
theorem k103_open {w : World} {x : S103} {cs : List Value} (h : k103.K w x cs) : cs = [.int .i64 x.f0, .int .i64 x.f1, .float .f64 x.f2, .bool x.f3, .int .i64 x.f4, .int .i64 x.f5, .bool x.f6] := by
  obtain ⟨_, _, rfl, rfl, ⟨_, _, rfl, rfl, ⟨_, _, rfl, rfl, ⟨_, _, rfl, rfl, ⟨_, _, rfl, rfl, ⟨_, _, rfl, rfl, rfl⟩⟩⟩⟩⟩⟩ := h
  exact rfl
theorem k103_openM {w : World} {base : Nat} {ok : Nat → Prop} {x : S103} {cs : List Value} (h : k103.M w base ok x cs) : cs = [.int .i64 x.f0, .int .i64 x.f1, .float .f64 x.f2, .bool x.f3, .int .i64 x.f4, .int .i64 x.f5, .bool x.f6] := by
  obtain ⟨_, _, rfl, rfl, ⟨_, _, rfl, rfl, ⟨_, _, rfl, rfl, ⟨_, _, rfl, rfl, ⟨_, _, rfl, rfl, ⟨_, _, rfl, rfl, rfl⟩⟩⟩⟩⟩⟩ := h
  exact rfl
theorem k103_mk (w : World) (x : S103)  : k103.K w x [.int .i64 x.f0, .int .i64 x.f1, .float .f64 x.f2, .bool x.f3, .int .i64 x.f4, .int .i64 x.f5, .bool x.f6] := ⟨[.int .i64 x.f0], [.int .i64 x.f1, .float .f64 x.f2, .bool x.f3, .int .i64 x.f4, .int .i64 x.f5, .bool x.f6], rfl, rfl, ⟨[.int .i64 x.f1], [.float .f64 x.f2, .bool x.f3, .int .i64 x.f4, .int .i64 x.f5, .bool x.f6], rfl, rfl, ⟨[.float .f64 x.f2], [.bool x.f3, .int .i64 x.f4, .int .i64 x.f5, .bool x.f6], rfl, rfl, ⟨[.bool x.f3], [.int .i64 x.f4, .int .i64 x.f5, .bool x.f6], rfl, rfl, ⟨[.int .i64 x.f4], [.int .i64 x.f5, .bool x.f6], rfl, rfl, ⟨[.int .i64 x.f5], [.bool x.f6], rfl, rfl, rfl⟩⟩⟩⟩⟩⟩
theorem k103_mkM (w : World) (base : Nat) (ok : Nat → Prop) (x : S103)  : k103.M w base ok x [.int .i64 x.f0, .int .i64 x.f1, .float .f64 x.f2, .bool x.f3, .int .i64 x.f4, .int .i64 x.f5, .bool x.f6] := ⟨[.int .i64 x.f0], [.int .i64 x.f1, .float .f64 x.f2, .bool x.f3, .int .i64 x.f4, .int .i64 x.f5, .bool x.f6], rfl, rfl, ⟨[.int .i64 x.f1], [.float .f64 x.f2, .bool x.f3, .int .i64 x.f4, .int .i64 x.f5, .bool x.f6], rfl, rfl, ⟨[.float .f64 x.f2], [.bool x.f3, .int .i64 x.f4, .int .i64 x.f5, .bool x.f6], rfl, rfl, ⟨[.bool x.f3], [.int .i64 x.f4, .int .i64 x.f5, .bool x.f6], rfl, rfl, ⟨[.int .i64 x.f4], [.int .i64 x.f5, .bool x.f6], rfl, rfl, ⟨[.int .i64 x.f5], [.bool x.f6], rfl, rfl, rfl⟩⟩⟩⟩⟩⟩
def rd_T103 (xs : List S103) (i : Int) : S103 := xs.getD i.toNat z103
theorem at_T103 {w : World} {A : Option Addr} {n : Nat} {xs : List S103} (h : Kd.C k103 w A n xs) (i : Int) (h0 : 0 ≤ i) (h1 : i < n) : ∃ ad , A = some ad ∧ w.cell? (ad.add (i.toNat * 7)) = some (.int .i64 (rd_T103 xs i).f0) ∧ w.cell? ⟨(ad.add (i.toNat * 7)).block, (ad.add (i.toNat * 7)).off + 1, none⟩ = some (.int .i64 (rd_T103 xs i).f1) ∧ w.cell? ⟨(ad.add (i.toNat * 7)).block, (ad.add (i.toNat * 7)).off + 2, none⟩ = some (.float .f64 (rd_T103 xs i).f2) ∧ w.cell? ⟨(ad.add (i.toNat * 7)).block, (ad.add (i.toNat * 7)).off + 3, none⟩ = some (.bool (rd_T103 xs i).f3) ∧ w.cell? ⟨(ad.add (i.toNat * 7)).block, (ad.add (i.toNat * 7)).off + 4, none⟩ = some (.int .i64 (rd_T103 xs i).f4) ∧ w.cell? ⟨(ad.add (i.toNat * 7)).block, (ad.add (i.toNat * 7)).off + 5, none⟩ = some (.int .i64 (rd_T103 xs i).f5) ∧ w.cell? ⟨(ad.add (i.toNat * 7)).block, (ad.add (i.toNat * 7)).off + 6, none⟩ = some (.bool (rd_T103 xs i).f6) := by
  obtain ⟨ad, c, e, _, hK, hc0⟩ := Kd.C_get h z103 i h0 h1
  have hc : ∀ j u, c[j]? = some u → w.cell? (ad.add (i.toNat * 7 + j)) = some u := hc0
  obtain rfl := k103_open hK
  exact ⟨ad, e, hc 0 _ rfl, by rw [← add_field _ _ 1 (by omega)]; exact hc 1 _ rfl, by rw [← add_field _ _ 2 (by omega)]; exact hc 2 _ rfl, by rw [← add_field _ _ 3 (by omega)]; exact hc 3 _ rfl, by rw [← add_field _ _ 4 (by omega)]; exact hc 4 _ rfl, by rw [← add_field _ _ 5 (by omega)]; exact hc 5 _ rfl, by rw [← add_field _ _ 6 (by omega)]; exact hc 6 _ rfl⟩

/-! #### struct type 34 -/
structure S34 where
  f0 : Int
  f1 : Int
  f2 : Int
  f3 : Int
  f4 : Nat
  f5 : Bool
  f6 : Bool
def z34 : S34 := ⟨(0 : Int), (0 : Int), (0 : Int), (0 : Int), (0 : Nat), false, false⟩
def k34 : Kd S34 := Kd.iso (Kd.pair (Kd.int .i64) (Kd.pair (Kd.int .i64) (Kd.pair (Kd.int .i64) (Kd.pair (Kd.int .i64) (Kd.pair (Kd.scalar (Value.float .f64) (fun _ => rfl)) (Kd.pair Kd.bool Kd.bool)))))) (fun x : S34 => (x.f0, x.f1, x.f2, x.f3, x.f4, x.f5, x.f6))
theorem k34_open {w : World} {x : S34} {cs : List Value} (h : k34.K w x cs) : cs = [.int .i64 x.f0, .int .i64 x.f1, .int .i64 x.f2, .int .i64 x.f3, .float .f64 x.f4, .bool x.f5, .bool x.f6] := by
  obtain ⟨_, _, rfl, rfl, ⟨_, _, rfl, rfl, ⟨_, _, rfl, rfl, ⟨_, _, rfl, rfl, ⟨_, _, rfl, rfl, ⟨_, _, rfl, rfl, rfl⟩⟩⟩⟩⟩⟩ := h
  exact rfl
theorem k34_openM {w : World} {base : Nat} {ok : Nat → Prop} {x : S34} {cs : List Value} (h : k34.M w base ok x cs) : cs = [.int .i64 x.f0, .int .i64 x.f1, .int .i64 x.f2, .int .i64 x.f3, .float .f64 x.f4, .bool x.f5, .bool x.f6] := by
  obtain ⟨_, _, rfl, rfl, ⟨_, _, rfl, rfl, ⟨_, _, rfl, rfl, ⟨_, _, rfl, rfl, ⟨_, _, rfl, rfl, ⟨_, _, rfl, rfl, rfl⟩⟩⟩⟩⟩⟩ := h
  exact rfl
theorem k34_mk (w : World) (x : S34)  : k34.K w x [.int .i64 x.f0, .int .i64 x.f1, .int .i64 x.f2, .int .i64 x.f3, .float .f64 x.f4, .bool x.f5, .bool x.f6] := ⟨[.int .i64 x.f0], [.int .i64 x.f1, .int .i64 x.f2, .int .i64 x.f3, .float .f64 x.f4, .bool x.f5, .bool x.f6], rfl, rfl, ⟨[.int .i64 x.f1], [.int .i64 x.f2, .int .i64 x.f3, .float .f64 x.f4, .bool x.f5, .bool x.f6], rfl, rfl, ⟨[.int .i64 x.f2], [.int .i64 x.f3, .float .f64 x.f4, .bool x.f5, .bool x.f6], rfl, rfl, ⟨[.int .i64 x.f3], [.float .f64 x.f4, .bool x.f5, .bool x.f6], rfl, rfl, ⟨[.float .f64 x.f4], [.bool x.f5, .bool x.f6], rfl, rfl, ⟨[.bool x.f5], [.bool x.f6], rfl, rfl, rfl⟩⟩⟩⟩⟩⟩
theorem k34_mkM (w : World) (base : Nat) (ok : Nat → Prop) (x : S34)  : k34.M w base ok x [.int .i64 x.f0, .int .i64 x.f1, .int .i64 x.f2, .int .i64 x.f3, .float .f64 x.f4, .bool x.f5, .bool x.f6] := ⟨[.int .i64 x.f0], [.int .i64 x.f1, .int .i64 x.f2, .int .i64 x.f3, .float .f64 x.f4, .bool x.f5, .bool x.f6], rfl, rfl, ⟨[.int .i64 x.f1], [.int .i64 x.f2, .int .i64 x.f3, .float .f64 x.f4, .bool x.f5, .bool x.f6], rfl, rfl, ⟨[.int .i64 x.f2], [.int .i64 x.f3, .float .f64 x.f4, .bool x.f5, .bool x.f6], rfl, rfl, ⟨[.int .i64 x.f3], [.float .f64 x.f4, .bool x.f5, .bool x.f6], rfl, rfl, ⟨[.float .f64 x.f4], [.bool x.f5, .bool x.f6], rfl, rfl, ⟨[.bool x.f5], [.bool x.f6], rfl, rfl, rfl⟩⟩⟩⟩⟩⟩
def rd_T34 (xs : List S34) (i : Int) : S34 := xs.getD i.toNat z34
theorem at_T34 {w : World} {A : Option Addr} {n : Nat} {xs : List S34} (h : Kd.C k34 w A n xs) (i : Int) (h0 : 0 ≤ i) (h1 : i < n) : ∃ ad , A = some ad ∧ w.cell? (ad.add (i.toNat * 7)) = some (.int .i64 (rd_T34 xs i).f0) ∧ w.cell? ⟨(ad.add (i.toNat * 7)).block, (ad.add (i.toNat * 7)).off + 1, none⟩ = some (.int .i64 (rd_T34 xs i).f1) ∧ w.cell? ⟨(ad.add (i.toNat * 7)).block, (ad.add (i.toNat * 7)).off + 2, none⟩ = some (.int .i64 (rd_T34 xs i).f2) ∧ w.cell? ⟨(ad.add (i.toNat * 7)).block, (ad.add (i.toNat * 7)).off + 3, none⟩ = some (.int .i64 (rd_T34 xs i).f3) ∧ w.cell? ⟨(ad.add (i.toNat * 7)).block, (ad.add (i.toNat * 7)).off + 4, none⟩ = some (.float .f64 (rd_T34 xs i).f4) ∧ w.cell? ⟨(ad.add (i.toNat * 7)).block, (ad.add (i.toNat * 7)).off + 5, none⟩ = some (.bool (rd_T34 xs i).f5) ∧ w.cell? ⟨(ad.add (i.toNat * 7)).block, (ad.add (i.toNat * 7)).off + 6, none⟩ = some (.bool (rd_T34 xs i).f6) := by
  obtain ⟨ad, c, e, _, hK, hc0⟩ := Kd.C_get h z34 i h0 h1
  have hc : ∀ j u, c[j]? = some u → w.cell? (ad.add (i.toNat * 7 + j)) = some u := hc0
  obtain rfl := k34_open hK
  exact ⟨ad, e, hc 0 _ rfl, by rw [← add_field _ _ 1 (by omega)]; exact hc 1 _ rfl, by rw [← add_field _ _ 2 (by omega)]; exact hc 2 _ rfl, by rw [← add_field _ _ 3 (by omega)]; exact hc 3 _ rfl, by rw [← add_field _ _ 4 (by omega)]; exact hc 4 _ rfl, by rw [← add_field _ _ 5 (by omega)]; exact hc 5 _ rfl, by rw [← add_field _ _ 6 (by omega)]; exact hc 6 _ rfl⟩

/-! #### struct type 68 -/
structure S68 where
  f0 : Int
  f1 : Int
  f2 : Int
  f3 : Int
  f4 : Nat
  f5 : Bool
  f6 : Bool
def z68 : S68 := ⟨(0 : Int), (0 : Int), (0 : Int), (0 : Int), (0 : Nat), false, false⟩
def k68 : Kd S68 := Kd.iso (Kd.pair (Kd.int .i64) (Kd.pair (Kd.int .i64) (Kd.pair (Kd.int .i64) (Kd.pair (Kd.int .i64) (Kd.pair (Kd.scalar (Value.float .f64) (fun _ => rfl)) (Kd.pair Kd.bool Kd.bool)))))) (fun x : S68 => (x.f0, x.f1, x.f2, x.f3, x.f4, x.f5, x.f6))
theorem k68_open {w : World} {x : S68} {cs : List Value} (h : k68.K w x cs) : cs = [.int .i64 x.f0, .int .i64 x.f1, .int .i64 x.f2, .int .i64 x.f3, .float .f64 x.f4, .bool x.f5, .bool x.f6] := by
  obtain ⟨_, _, rfl, rfl, ⟨_, _, rfl, rfl, ⟨_, _, rfl, rfl, ⟨_, _, rfl, rfl, ⟨_, _, rfl, rfl, ⟨_, _, rfl, rfl, rfl⟩⟩⟩⟩⟩⟩ := h
  exact rfl
theorem k68_openM {w : World} {base : Nat} {ok : Nat → Prop} {x : S68} {cs : List Value} (h : k68.M w base ok x cs) : cs = [.int .i64 x.f0, .int .i64 x.f1, .int .i64 x.f2, .int .i64 x.f3, .float .f64 x.f4, .bool x.f5, .bool x.f6] := by
  obtain ⟨_, _, rfl, rfl, ⟨_, _, rfl, rfl, ⟨_, _, rfl, rfl, ⟨_, _, rfl, rfl, ⟨_, _, rfl, rfl, ⟨_, _, rfl, rfl, rfl⟩⟩⟩⟩⟩⟩ := h
  exact rfl
theorem k68_mk (w : World) (x : S68)  : k68.K w x [.int .i64 x.f0, .int .i64 x.f1, .int .i64 x.f2, .int .i64 x.f3, .float .f64 x.f4, .bool x.f5, .bool x.f6] := ⟨[.int .i64 x.f0], [.int .i64 x.f1, .int .i64 x.f2, .int .i64 x.f3, .float .f64 x.f4, .bool x.f5, .bool x.f6], rfl, rfl, ⟨[.int .i64 x.f1], [.int .i64 x.f2, .int .i64 x.f3, .float .f64 x.f4, .bool x.f5, .bool x.f6], rfl, rfl, ⟨[.int .i64 x.f2], [.int .i64 x.f3, .float .f64 x.f4, .bool x.f5, .bool x.f6], rfl, rfl, ⟨[.int .i64 x.f3], [.float .f64 x.f4, .bool x.f5, .bool x.f6], rfl, rfl, ⟨[.float .f64 x.f4], [.bool x.f5, .bool x.f6], rfl, rfl, ⟨[.bool x.f5], [.bool x.f6], rfl, rfl, rfl⟩⟩⟩⟩⟩⟩
theorem k68_mkM (w : World) (base : Nat) (ok : Nat → Prop) (x : S68)  : k68.M w base ok x [.int .i64 x.f0, .int .i64 x.f1, .int .i64 x.f2, .int .i64 x.f3, .float .f64 x.f4, .bool x.f5, .bool x.f6] := ⟨[.int .i64 x.f0], [.int .i64 x.f1, .int .i64 x.f2, .int .i64 x.f3, .float .f64 x.f4, .bool x.f5, .bool x.f6], rfl, rfl, ⟨[.int .i64 x.f1], [.int .i64 x.f2, .int .i64 x.f3, .float .f64 x.f4, .bool x.f5, .bool x.f6], rfl, rfl, ⟨[.int .i64 x.f2], [.int .i64 x.f3, .float .f64 x.f4, .bool x.f5, .bool x.f6], rfl, rfl, ⟨[.int .i64 x.f3], [.float .f64 x.f4, .bool x.f5, .bool x.f6], rfl, rfl, ⟨[.float .f64 x.f4], [.bool x.f5, .bool x.f6], rfl, rfl, ⟨[.bool x.f5], [.bool x.f6], rfl, rfl, rfl⟩⟩⟩⟩⟩⟩
def rd_T68 (xs : List S68) (i : Int) : S68 := xs.getD i.toNat z68
theorem at_T68 {w : World} {A : Option Addr} {n : Nat} {xs : List S68} (h : Kd.C k68 w A n xs) (i : Int) (h0 : 0 ≤ i) (h1 : i < n) : ∃ ad , A = some ad ∧ w.cell? (ad.add (i.toNat * 7)) = some (.int .i64 (rd_T68 xs i).f0) ∧ w.cell? ⟨(ad.add (i.toNat * 7)).block, (ad.add (i.toNat * 7)).off + 1, none⟩ = some (.int .i64 (rd_T68 xs i).f1) ∧ w.cell? ⟨(ad.add (i.toNat * 7)).block, (ad.add (i.toNat * 7)).off + 2, none⟩ = some (.int .i64 (rd_T68 xs i).f2) ∧ w.cell? ⟨(ad.add (i.toNat * 7)).block, (ad.add (i.toNat * 7)).off + 3, none⟩ = some (.int .i64 (rd_T68 xs i).f3) ∧ w.cell? ⟨(ad.add (i.toNat * 7)).block, (ad.add (i.toNat * 7)).off + 4, none⟩ = some (.float .f64 (rd_T68 xs i).f4) ∧ w.cell? ⟨(ad.add (i.toNat * 7)).block, (ad.add (i.toNat * 7)).off + 5, none⟩ = some (.bool (rd_T68 xs i).f5) ∧ w.cell? ⟨(ad.add (i.toNat * 7)).block, (ad.add (i.toNat * 7)).off + 6, none⟩ = some (.bool (rd_T68 xs i).f6) := by
  obtain ⟨ad, c, e, _, hK, hc0⟩ := Kd.C_get h z68 i h0 h1
  have hc : ∀ j u, c[j]? = some u → w.cell? (ad.add (i.toNat * 7 + j)) = some u := hc0
  obtain rfl := k68_open hK
  exact ⟨ad, e, hc 0 _ rfl, by rw [← add_field _ _ 1 (by omega)]; exact hc 1 _ rfl, by rw [← add_field _ _ 2 (by omega)]; exact hc 2 _ rfl, by rw [← add_field _ _ 3 (by omega)]; exact hc 3 _ rfl, by rw [← add_field _ _ 4 (by omega)]; exact hc 4 _ rfl, by rw [← add_field _ _ 5 (by omega)]; exact hc 5 _ rfl, by rw [← add_field _ _ 6 (by omega)]; exact hc 6 _ rfl⟩

end Go.Proofs.Ytjefbpfpobgmaaa.PLv
