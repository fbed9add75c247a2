/- The functions that the law 'FnMix' reaches, each with its contract. -/
import Derived.Test.YtmbhbioanoalaaaProg
import Derived.Below
import Derived.Deep.Draws
import Derived.Deep.AppendLies
import Derived.Maps.AppendAt
import Derived.OwnWalk
import Derived.Laws.BytesArg
import Derived.Laws.MakeOwn
import Derived.Laws.OwnMore
import Derived.Deep.OwnRows
import Derived.Tactics
import Derived.Lib.ConvBytes
import Derived.Laws.Slices
import Derived.WalkKit
import Derived.KernelRfl
import Derived.RowKit3
import Derived.Deep.LoopGhost
import Derived.Deep.QuietTactic
import Derived.BigQuiet
import Derived.WideLaws
import Derived.Deep.DeepCutAuto
import Derived.Deep.CutBlock
import Derived.Deep.RegionHeld3
import Derived.Laws.Rows
import Derived.Lib.AppendStr
import Derived.ArgAppend
import Derived.Laws.IdiomCopy
import Derived.OrdersHeld
import Derived.Laws.BitsLemmas
import Derived.RowKit
import Derived.Test.YtmbhbioanoalaaaWWords
import Derived.Test.YtmbhbioanoalaaaWLast
import Derived.Test.YtmbhbioanoalaaaWTab
import Derived.Test.YtmbhbioanoalaaaWFour
import Derived.Test.YtmbhbioanoalaaaWQPut
import Derived.Test.YtmbhbioanoalaaaWApart
import Derived.Test.YtmbhbioanoalaaaWArr
import Derived.Test.YtmbhbioanoalaaaWZeros
import Derived.Test.YtmbhbioanoalaaaWFoot
import Derived.Test.YtmbhbioanoalaaaWKept
import Derived.Test.YtmbhbioanoalaaaWShare
import Derived.Test.YtmbhbioanoalaaaWN
import Derived.Test.YtmbhbioanoalaaaWFootNe
import Derived.Test.YtmbhbioanoalaaaWAt
import Derived.Test.YtmbhbioanoalaaaWEqStruct
import Derived.Test.YtmbhbioanoalaaaWRepsOne
import Derived.Test.YtmbhbioanoalaaaWInv
import Derived.Test.YtmbhbioanoalaaaWInvWords
import Derived.Test.YtmbhbioanoalaaaWGuard
import Derived.Test.YtmbhbioanoalaaaWNEv
import Derived.Test.YtmbhbioanoalaaaWMore
namespace Go.Proofs.Ytmbhbioanoalaaa.PFnMix
open Go.RowKit Go.Proofs.YtmbhbioanoalaaaW.PrintWords Go.Proofs.YtmbhbioanoalaaaW.PrintLast Go.Proofs.YtmbhbioanoalaaaW.PrintMore
attribute [local go_sem] max2_int min2_int max_two min_two max_three min_three max_four min_four   -- for this text's walks alone
set_option linter.unusedVariables false
set_option linter.unusedSimpArgs false



def errW : Option Int → Value
  | none => .nilIface
  | some c => .iface 0 (.int .i64 c)
theorem errW_none : errW none = .nilIface := rfl
theorem errW_some (c : Int) : errW (some c) = .iface 0 (.int .i64 c) := rfl

theorem info2 : (Try.prog.info? 2).map (fun i => (i.zero, i.size, i.bytes)) = some (some (.int .i64 0), 1, 8) := by kernel_rfl
-- the values' own types

end Go.Proofs.Ytmbhbioanoalaaa.PFnMix
