/-
  No cell of these rows narrows 'for every input' (looked for: loops, veiled, ifaces, maps, wideKeys, modest, calm, conditions, laid).
  DERIVED. THE GIVEN ROWS OF THIS SEAT. 3 by the template 'for every input the law returns true; each argument reads behind the call as it read before'; 0 by the template 'total and deterministic' (their statements: YtjefbpfpobgmaaaTotals.lean).
  GIVEN WITH THE SEED: the statements are not yours to turn. If you find one false, say at which input.
  Laid BY PROGRAM, IN A SANDBOX (cutbox-rows.mjs): the forced cells as the released guide's own fill.sh prints them over the translation a6f3f28b6a44a55b… (all of the seat's roots in one cut). By AI agents, Wed Nov 11 2026. No macro, syntax, notation, axiom, sorry.
-/
import Derived.Test.YtjefbpfpobgmaaaChecked
import GoSem.Claim
import GoSem.ClaimJoined
import GoSem.ClaimMapViews
import Derived.JoinedTies
import Derived.KernelRfl
namespace Go.Proofs.Ytjefbpfpobgmaaa
/- THE CELL 'sum', in the pinned program and in every row, IS THE sha256 OF THE DUMP (.gsa) THAT YtjefbpfpobgmaaaProg.lean LOADS. Nothing in Lean hashes anything: it is a label: what it is worth is what the hold of that sum in a sandbox is worth. -/
noncomputable def Try.pinned : Pinned := { name := "ytjefbpfpobgmaaa", sum := "a6f3f28b6a44a55b6f3eb289b2f1cff976ac46f46161ee3b8332e3df46b72248", checked := Try.checked }
namespace Rows
def none {H : Type} : Left H := { results := [], args := [] }

/-- 'laws.FnJulianNext': WHATEVER THE INPUT: true; the input reads as it did. -/
def fnJulianNextSpec : ChangeSpec := { name := "fnJulianNext", fn := fun _ => fun
  | [d] => { results := [.lit (.bool true)], args := [d] }
  | _ => none }
def fnJulianNextRow : OpenClaim := { program := "ytjefbpfpobgmaaa", sum := "a6f3f28b6a44a55b6f3eb289b2f1cff976ac46f46161ee3b8332e3df46b72248", func := "pub-gridwork/laws.FnJulianNext", spec := "fnJulianNext", apart := false }
def FnJulianNextSaid : Prop := fnJulianNextRow.holds Try.pinned (OpenSpec.ofChange fnJulianNextSpec)

/-- ITS FALSE NEIGHBOUR: 'it returns false'. Refute it at one input. -/
def fnJulianNextWrong : ChangeSpec := { name := "fnJulianNext", fn := fun _ => fun
  | [d] => { results := [.lit (.bool false)], args := [d] }
  | _ => none }
def FnJulianNextWrongFalsely : Prop := fnJulianNextRow.holds Try.pinned (OpenSpec.ofChange fnJulianNextWrong)

/-- 'laws.FnLevel': WHATEVER THE INPUT: true; the input reads as it did. -/
def fnLevelSpec : ChangeSpec := { name := "fnLevel", fn := fun _ => fun
  | [d1, d2, d3] => { results := [.lit (.bool true)], args := [d1, d2, d3] }
  | _ => none }
def fnLevelRow : OpenClaim := { program := "ytjefbpfpobgmaaa", sum := "a6f3f28b6a44a55b6f3eb289b2f1cff976ac46f46161ee3b8332e3df46b72248", func := "pub-gridwork/laws.FnLevel", spec := "fnLevel", unfollowed := true, recurses := true, apart := false }
def FnLevelSaid : Prop := fnLevelRow.holds Try.pinned (OpenSpec.ofChange fnLevelSpec)

/-- ITS FALSE NEIGHBOUR: 'it returns false'. Refute it at one input. -/
def fnLevelWrong : ChangeSpec := { name := "fnLevel", fn := fun _ => fun
  | [d1, d2, d3] => { results := [.lit (.bool false)], args := [d1, d2, d3] }
  | _ => none }
def FnLevelWrongFalsely : Prop := fnLevelRow.holds Try.pinned (OpenSpec.ofChange fnLevelWrong)

/-- 'laws.FnFrequency': WHATEVER THE INPUT: true; the input reads as it did. -/
def fnFrequencySpec : ChangeSpec := { name := "fnFrequency", fn := fun _ => fun
  | [d1, d2] => { results := [.lit (.bool true)], args := [d1, d2] }
  | _ => none }
def fnFrequencyRow : OpenClaim := { program := "ytjefbpfpobgmaaa", sum := "a6f3f28b6a44a55b6f3eb289b2f1cff976ac46f46161ee3b8332e3df46b72248", func := "pub-gridwork/laws.FnFrequency", spec := "fnFrequency", inPlace := ["internal/reflectlite.ValueOf", "internal/reflectlite.Swapper", "(internal/reflectlite.Value).Len"], unfollowed := true, recurses := true, apart := false }
def FnFrequencySaid : Prop := fnFrequencyRow.holds Try.pinned (OpenSpec.ofChange fnFrequencySpec)

/-- ITS FALSE NEIGHBOUR: 'it returns false'. Refute it at one input. -/
def fnFrequencyWrong : ChangeSpec := { name := "fnFrequency", fn := fun _ => fun
  | [d1, d2] => { results := [.lit (.bool false)], args := [d1, d2] }
  | _ => none }
def FnFrequencyWrongFalsely : Prop := fnFrequencyRow.holds Try.pinned (OpenSpec.ofChange fnFrequencyWrong)

/- THE SECOND FORM. 'bulk': how many values and letters a reading holds, each counted each time it is reached (what is shared counts as often as it is met; a slice's spare places count too). A statement '..UptoSaid' is the law's where the arguments, and the package variables that the reading takes, are together of bulk at most 1048576: NARROWER than '..Said'. Prove '..Said' where nothing that the law and all that it calls make is longer than what came in: it says more and counts as full. Else prove '..UptoSaid'. A law counts once. -/
mutual
def uptoBulk {H : Type} : DataW H → Nat
  | .lit (.string bytes) => bytes.length + 1
  | .lit _ => 1
  | .nil => 1
  | .ptr d => uptoBulk d + 1
  | .slice elems spare => uptoBulkAll elems + uptoBulkAll spare + 1
  | .agg parts => uptoBulkAll parts + 1
  | .iface _ d => uptoBulk d + 1
  | .map entries => uptoBulkEntries entries + 1
  | .held _ => 1
def uptoBulkAll {H : Type} : List (DataW H) → Nat
  | [] => 0
  | d :: r => uptoBulk d + uptoBulkAll r
def uptoBulkEntries {H : Type} : List (Lit × DataW H) → Nat
  | [] => 0
  | x :: r => uptoBulkEntry x + uptoBulkEntries r
def uptoBulkEntry {H : Type} : Lit × DataW H → Nat
  | (.string bytes, d) => bytes.length + uptoBulk d + 1
  | (_, d) => uptoBulk d + 1
 end
def uptoSmall : (H : Type) → List (DataW H) → Bool := fun _ ds => decide (uptoBulkAll ds ≤ 1048576)
def OpenSpec.upto (s : _root_.Go.ChangeSpec) : _root_.Go.OpenSpec := { _root_.Go.OpenSpec.ofChange s with cond := some uptoSmall }

/-- 'laws.FnJulianNext', WHERE WHAT IT READS IS OF BULK AT MOST 1048576: true; the input reads as it did. -/
def fnJulianNextUptoRow : OpenClaim := { program := "ytjefbpfpobgmaaa", sum := "a6f3f28b6a44a55b6f3eb289b2f1cff976ac46f46161ee3b8332e3df46b72248", func := "pub-gridwork/laws.FnJulianNext", spec := "fnJulianNext", apart := false, narrowed := true }
def FnJulianNextUptoSaid : Prop := fnJulianNextUptoRow.holds Try.pinned (OpenSpec.upto fnJulianNextSpec)

/-- 'laws.FnLevel', WHERE WHAT IT READS IS OF BULK AT MOST 1048576: true; the input reads as it did. -/
def fnLevelUptoRow : OpenClaim := { program := "ytjefbpfpobgmaaa", sum := "a6f3f28b6a44a55b6f3eb289b2f1cff976ac46f46161ee3b8332e3df46b72248", func := "pub-gridwork/laws.FnLevel", spec := "fnLevel", unfollowed := true, recurses := true, apart := false, narrowed := true }
def FnLevelUptoSaid : Prop := fnLevelUptoRow.holds Try.pinned (OpenSpec.upto fnLevelSpec)

/-- 'laws.FnFrequency', WHERE WHAT IT READS IS OF BULK AT MOST 1048576: true; the input reads as it did. -/
def fnFrequencyUptoRow : OpenClaim := { program := "ytjefbpfpobgmaaa", sum := "a6f3f28b6a44a55b6f3eb289b2f1cff976ac46f46161ee3b8332e3df46b72248", func := "pub-gridwork/laws.FnFrequency", spec := "fnFrequency", inPlace := ["internal/reflectlite.ValueOf", "internal/reflectlite.Swapper", "(internal/reflectlite.Value).Len"], unfollowed := true, recurses := true, apart := false, narrowed := true }
def FnFrequencyUptoSaid : Prop := fnFrequencyUptoRow.holds Try.pinned (OpenSpec.upto fnFrequencySpec)

end Rows
end Go.Proofs.Ytjefbpfpobgmaaa
