/- The functions that the law 'FnMulOverflow' reaches, each with its contract. -/
import Derived.Test.YtfnimhjabbnldaaProg
import Derived.Below
import Derived.Deep.Draws
import Derived.Deep.AppendLies
import Derived.Maps.AppendAt
import Derived.OwnWalk
import Derived.Laws.BytesArg
import Derived.Laws.MakeOwn
import Derived.Laws.OwnMore
import Derived.Deep.OwnRows
import Derived.Tactics
import Derived.Lib.ConvBytes
import Derived.Laws.Slices
import Derived.WalkKit
import Derived.KernelRfl
import Derived.RowKit3
import Derived.Deep.LoopGhost
import Derived.Deep.QuietTactic
import Derived.BigQuiet
import Derived.WideLaws
import Derived.Deep.DeepCutAuto
import Derived.Deep.CutBlock
import Derived.Deep.RegionHeld3
import Derived.Laws.Rows
import Derived.Lib.AppendStr
import Derived.ArgAppend
import Derived.Laws.IdiomCopy
import Derived.OrdersHeld
import Derived.Laws.BitsLemmas
import Derived.RowKit
import Derived.Test.YtfnimhjabbnldaaWWords
import Derived.Test.YtfnimhjabbnldaaWLast
import Derived.Test.YtfnimhjabbnldaaWTab
import Derived.Test.YtfnimhjabbnldaaWFour
import Derived.Test.YtfnimhjabbnldaaWQPut
import Derived.Test.YtfnimhjabbnldaaWApart
import Derived.Test.YtfnimhjabbnldaaWArr
import Derived.Test.YtfnimhjabbnldaaWZeros
import Derived.Test.YtfnimhjabbnldaaWFoot
import Derived.Test.YtfnimhjabbnldaaWKept
import Derived.Test.YtfnimhjabbnldaaWShare
import Derived.Test.YtfnimhjabbnldaaWN
import Derived.Test.YtfnimhjabbnldaaWFootNe
import Derived.Test.YtfnimhjabbnldaaWAt
import Derived.Test.YtfnimhjabbnldaaWEqStruct
import Derived.Test.YtfnimhjabbnldaaWRepsOne
import Derived.Test.YtfnimhjabbnldaaWInv
import Derived.Test.YtfnimhjabbnldaaWInvWords
import Derived.Test.YtfnimhjabbnldaaWGuard
import Derived.Test.YtfnimhjabbnldaaWNEv
import Derived.Test.YtfnimhjabbnldaaWMore
namespace Go.Proofs.Ytfnimhjabbnldaa.PFnMulOverflow
open Go.RowKit Go.Proofs.YtfnimhjabbnldaaW.PrintWords Go.Proofs.YtfnimhjabbnldaaW.PrintLast Go.Proofs.YtfnimhjabbnldaaW.PrintMore
attribute [local go_sem] max2_int min2_int max_two min_two max_three min_three max_four min_four   -- for this text's walks alone
set_option linter.unusedVariables false
set_option linter.unusedSimpArgs false



def errW : Option Int → Value
  | none => .nilIface
  | some c => .iface 0 (.int .i64 c)
theorem errW_none : errW none = .nilIface := rfl
theorem errW_some (c : Int) : errW (some c) = .iface 0 (.int .i64 c) := rfl

-- the values' own types

end Go.Proofs.Ytfnimhjabbnldaa.PFnMulOverflow
