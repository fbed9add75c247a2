/- The functions that the law 'FnDiscriminant' reaches, each with its contract. -/
import Derived.Test.YtpelipdecjooeaaDoorProg
import Derived.Below
import Derived.Deep.Draws
import Derived.Deep.AppendLies
import Derived.Maps.AppendAt
import Derived.OwnWalk
import Derived.Laws.BytesArg
import Derived.Laws.MakeOwn
import Derived.Laws.OwnMore
import Derived.Deep.OwnRows
import Derived.Tactics
import Derived.Lib.ConvBytes
import Derived.Laws.Slices
import Derived.WalkKit
import Derived.KernelRfl
import Derived.RowKit3
import Derived.Deep.LoopGhost
import Derived.Deep.QuietTactic
import Derived.BigQuiet
import Derived.WideLaws
import Derived.Deep.DeepCutAuto
import Derived.Deep.CutBlock
import Derived.Deep.RegionHeld3
import Derived.Laws.Rows
import Derived.Lib.AppendStr
import Derived.ArgAppend
import Derived.Laws.IdiomCopy
import Derived.OrdersHeld
import Derived.Laws.BitsLemmas
import Derived.RowKit
import Derived.Test.YtpelipdecjooeaaDoorWWords
import Derived.Test.YtpelipdecjooeaaDoorWLast
import Derived.Test.YtpelipdecjooeaaDoorWTab
import Derived.Test.YtpelipdecjooeaaDoorWFour
import Derived.Test.YtpelipdecjooeaaDoorWQPut
import Derived.Test.YtpelipdecjooeaaDoorWApart
import Derived.Test.YtpelipdecjooeaaDoorWArr
import Derived.Test.YtpelipdecjooeaaDoorWZeros
import Derived.Test.YtpelipdecjooeaaDoorWFoot
import Derived.Test.YtpelipdecjooeaaDoorWKept
import Derived.Test.YtpelipdecjooeaaDoorWShare
import Derived.Test.YtpelipdecjooeaaDoorWN
import Derived.Test.YtpelipdecjooeaaDoorWFootNe
import Derived.Test.YtpelipdecjooeaaDoorWAt
import Derived.Test.YtpelipdecjooeaaDoorWEqStruct
import Derived.Test.YtpelipdecjooeaaDoorWRepsOne
import Derived.Test.YtpelipdecjooeaaDoorWInv
import Derived.Test.YtpelipdecjooeaaDoorWInvWords
import Derived.Test.YtpelipdecjooeaaDoorWGuard
import Derived.Test.YtpelipdecjooeaaDoorWNEv
import Derived.Test.YtpelipdecjooeaaDoorWMore
namespace Go.Proofs.YtpelipdecjooeaaDoor.PFnDiscriminant
open Go.RowKit Go.Proofs.YtpelipdecjooeaaDoorW.PrintWords Go.Proofs.YtpelipdecjooeaaDoorW.PrintLast Go.Proofs.YtpelipdecjooeaaDoorW.PrintMore
attribute [local go_sem] max2_int min2_int max_two min_two max_three min_three max_four min_four   -- for this text's walks alone
set_option linter.unusedVariables false
set_option linter.unusedSimpArgs false



def errW : Option Int → Value
  | none => .nilIface
  | some c => .iface 0 (.int .i64 c)
theorem errW_none : errW none = .nilIface := rfl
theorem errW_some (c : Int) : errW (some c) = .iface 0 (.int .i64 c) := rfl

-- the values' own types

end Go.Proofs.YtpelipdecjooeaaDoor.PFnDiscriminant
