/- The functions that the law 'FnPopCount' reaches, each with its contract. -/
import Derived.Test.YtfoifemajoebpaaDoorProg
import Derived.Below
import Derived.Deep.Draws
import Derived.Deep.AppendLies
import Derived.Maps.AppendAt
import Derived.OwnWalk
import Derived.Laws.BytesArg
import Derived.Laws.MakeOwn
import Derived.Laws.OwnMore
import Derived.Deep.OwnRows
import Derived.Tactics
import Derived.Lib.ConvBytes
import Derived.Laws.Slices
import Derived.WalkKit
import Derived.KernelRfl
import Derived.RowKit3
import Derived.Deep.LoopGhost
import Derived.Deep.QuietTactic
import Derived.BigQuiet
import Derived.WideLaws
import Derived.Deep.DeepCutAuto
import Derived.Deep.CutBlock
import Derived.Deep.RegionHeld3
import Derived.Laws.Rows
import Derived.Lib.AppendStr
import Derived.ArgAppend
import Derived.Laws.IdiomCopy
import Derived.OrdersHeld
import Derived.Laws.BitsLemmas
import Derived.RowKit
import Derived.Test.YtfoifemajoebpaaDoorWWords
import Derived.Test.YtfoifemajoebpaaDoorWLast
import Derived.Test.YtfoifemajoebpaaDoorWTab
import Derived.Test.YtfoifemajoebpaaDoorWFour
import Derived.Test.YtfoifemajoebpaaDoorWQPut
import Derived.Test.YtfoifemajoebpaaDoorWApart
import Derived.Test.YtfoifemajoebpaaDoorWArr
import Derived.Test.YtfoifemajoebpaaDoorWZeros
import Derived.Test.YtfoifemajoebpaaDoorWFoot
import Derived.Test.YtfoifemajoebpaaDoorWKept
import Derived.Test.YtfoifemajoebpaaDoorWShare
import Derived.Test.YtfoifemajoebpaaDoorWN
import Derived.Test.YtfoifemajoebpaaDoorWFootNe
import Derived.Test.YtfoifemajoebpaaDoorWAt
import Derived.Test.YtfoifemajoebpaaDoorWEqStruct
import Derived.Test.YtfoifemajoebpaaDoorWRepsOne
import Derived.Test.YtfoifemajoebpaaDoorWInv
import Derived.Test.YtfoifemajoebpaaDoorWInvWords
import Derived.Test.YtfoifemajoebpaaDoorWGuard
import Derived.Test.YtfoifemajoebpaaDoorWNEv
import Derived.Test.YtfoifemajoebpaaDoorWMore
namespace Go.Proofs.YtfoifemajoebpaaDoor.PFnPopCount
open Go.RowKit Go.Proofs.YtfoifemajoebpaaDoorW.PrintWords Go.Proofs.YtfoifemajoebpaaDoorW.PrintLast Go.Proofs.YtfoifemajoebpaaDoorW.PrintMore
attribute [local go_sem] max2_int min2_int max_two min_two max_three min_three max_four min_four   -- for this text's walks alone
set_option linter.unusedVariables false
set_option linter.unusedSimpArgs false



def errW : Option Int → Value
  | none => .nilIface
  | some c => .iface 0 (.int .i64 c)
theorem errW_none : errW none = .nilIface := rfl
theorem errW_some (c : Int) : errW (some c) = .iface 0 (.int .i64 c) := rfl

-- the values' own types

end Go.Proofs.YtfoifemajoebpaaDoor.PFnPopCount
