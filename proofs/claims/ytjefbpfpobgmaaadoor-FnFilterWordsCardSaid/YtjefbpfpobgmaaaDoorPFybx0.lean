/- Contracts of functions that the text "Fyb" uses: the call ends in what the plain Lean function says, where that says something. Written by a program of this session. No conditions. -/
import Derived.Test.YtjefbpfpobgmaaaDoorProg
import Derived.Below
import Derived.Deep.Draws
import Derived.Deep.AppendLies
import Derived.Maps.AppendAt
import Derived.OwnWalk
import Derived.Laws.BytesArg
import Derived.Laws.MakeOwn
import Derived.Laws.OwnMore
import Derived.Deep.OwnRows
import Derived.Tactics
import Derived.Lib.ConvBytes
import Derived.Laws.Slices
import Derived.WalkKit
import Derived.KernelRfl
import Derived.RowKit3
import Derived.Deep.LoopGhost
import Derived.Deep.QuietTactic
import Derived.BigQuiet
import Derived.WideLaws
import Derived.Deep.DeepCutAuto
import Derived.Deep.CutBlock
import Derived.Deep.RegionHeld3
import Derived.Laws.Rows
import Derived.Lib.AppendStr
import Derived.ArgAppend
import Derived.Laws.IdiomCopy
import Derived.OrdersHeld
import Derived.Laws.BitsLemmas
import Derived.RowKit
import Derived.Test.YtjefbpfpobgmaaaDoorFwDoor
import Derived.Test.YtjefbpfpobgmaaaDoorPFxx2
import Derived.Test.YtjefbpfpobgmaaaDoorPFxx3
import Derived.Test.YtjefbpfpobgmaaaDoorPFxx6
import Derived.Test.YtjefbpfpobgmaaaDoorPFxx7
import Derived.Test.YtjefbpfpobgmaaaDoorWWords
import Derived.Test.YtjefbpfpobgmaaaDoorWLast
import Derived.Test.YtjefbpfpobgmaaaDoorWTab
import Derived.Test.YtjefbpfpobgmaaaDoorWFour
import Derived.Test.YtjefbpfpobgmaaaDoorWQPut
import Derived.Test.YtjefbpfpobgmaaaDoorWApart
import Derived.Test.YtjefbpfpobgmaaaDoorWArr
import Derived.Test.YtjefbpfpobgmaaaDoorWZeros
import Derived.Test.YtjefbpfpobgmaaaDoorWFoot
import Derived.Test.YtjefbpfpobgmaaaDoorWKept
import Derived.Test.YtjefbpfpobgmaaaDoorWShare
import Derived.Test.YtjefbpfpobgmaaaDoorWN
import Derived.Test.YtjefbpfpobgmaaaDoorWFootNe
import Derived.Test.YtjefbpfpobgmaaaDoorWAt
import Derived.Test.YtjefbpfpobgmaaaDoorWEqStruct
import Derived.Test.YtjefbpfpobgmaaaDoorWRepsOne
import Derived.Test.YtjefbpfpobgmaaaDoorWInv
import Derived.Test.YtjefbpfpobgmaaaDoorWInvWords
import Derived.Test.YtjefbpfpobgmaaaDoorWGuard
import Derived.Test.YtjefbpfpobgmaaaDoorWNEv
import Derived.Test.YtjefbpfpobgmaaaDoorWMore
namespace Go.Proofs.YtjefbpfpobgmaaaDoor.PFyb
open Go.RowKit Go.Proofs.YtjefbpfpobgmaaaDoorW.PrintWords Go.Proofs.YtjefbpfpobgmaaaDoorW.PrintLast Go.Proofs.YtjefbpfpobgmaaaDoorW.PrintMore
attribute [local go_sem] max2_int min2_int max_two min_two max_three min_three max_four min_four   -- for this text's walks alone
set_option linter.unusedVariables false
set_option linter.unusedSimpArgs false



def errW : Option Int → Value
  | none => .nilIface
  | some c => .iface 0 (.int .i64 c)
theorem errW_none : errW none = .nilIface := rfl
theorem errW_some (c : Int) : errW (some c) = .iface 0 (.int .i64 c) := rfl

theorem info9 : (Tryd.prog.info? 9).map (fun i => (i.zero, i.size, i.bytes)) = some (some (.string ⟨#[]⟩), 1, 16) := by kernel_rfl
-- the values' own types

end Go.Proofs.YtjefbpfpobgmaaaDoor.PFyb
