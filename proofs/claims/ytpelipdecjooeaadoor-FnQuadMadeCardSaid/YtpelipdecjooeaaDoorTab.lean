/- The table of the package as the program's text lays them, and what a walk reads of them. -/
import Derived.Test.YtpelipdecjooeaaDoorRows
import Derived.ChangeSame
import Derived.ChangeVars
import Derived.JoinedOf
import Derived.RowKit
import Derived.ProofKit
import Derived.LaidMore
import Derived.OpenShut
import Derived.Stop.Joined
import Derived.Lib.LaidTab
import Derived.MakeChecks
import Derived.KernelRfl
import Derived.Deep.Draws
namespace Go.Proofs.YtpelipdecjooeaaDoor.Tab
open Go Go.ChangeShapes Go.WideShapes Go.ChangeAt Go.RowKit

def logs : List Int := [(-1), 0, 1, 1, 2, 2, 2, 2, 3, 3, 3, 3, 3, 3, 3, 3, 4, 4, 4, 4, 4, 4, 4, 4, 4, 4, 4, 4, 4, 4, 4, 4, 5, 5, 5, 5, 5, 5, 5, 5, 5, 5, 5, 5, 5, 5, 5, 5, 5, 5, 5, 5, 5, 5, 5, 5, 5, 5, 5, 5, 5, 5, 5, 5, 6, 6, 6, 6, 6, 6, 6, 6, 6, 6, 6, 6, 6, 6, 6, 6, 6, 6, 6, 6, 6, 6, 6, 6, 6, 6, 6, 6, 6, 6, 6, 6, 6, 6, 6, 6, 6, 6, 6, 6, 6, 6, 6, 6, 6, 6, 6, 6, 6, 6, 6, 6, 6, 6, 6, 6, 6, 6, 6, 6, 6, 6, 6, 6, 7, 7, 7, 7, 7, 7, 7, 7, 7, 7, 7, 7, 7, 7, 7, 7, 7, 7, 7, 7, 7, 7, 7, 7, 7, 7, 7, 7, 7, 7, 7, 7, 7, 7, 7, 7, 7, 7, 7, 7, 7, 7, 7, 7, 7, 7, 7, 7, 7, 7, 7, 7, 7, 7, 7, 7, 7, 7, 7, 7, 7, 7, 7, 7, 7, 7, 7, 7, 7, 7, 7, 7, 7, 7, 7, 7, 7, 7, 7, 7, 7, 7, 7, 7, 7, 7, 7, 7, 7, 7, 7, 7, 7, 7, 7, 7, 7, 7, 7, 7, 7, 7, 7, 7, 7, 7, 7, 7, 7, 7, 7, 7, 7, 7, 7, 7, 7, 7, 7, 7, 7, 7, 7, 7, 7, 7, 7, 7]

abbrev nLog : String := "loop.example/pub-g01479/pub/mathutil.log2"
theorem own : ownKnob Tryd.prog.godebug = none := by kernel_rfl
theorem gLog : Tryd.prog.globalNamed nLog = some 0 := by kernel_rfl
theorem tLog : (Tryd.prog.globals[0]?).map (·.type) = some 51 := by kernel_rfl
theorem uLog : Tryd.prog.underlying 51 = some (.array 256 3) := by kernel_rfl
theorem eLog : Tryd.prog.underlying 3 = some (.int .i64) := by kernel_rfl
theorem cLog : Tryd.prog.cellsOf 51 = 256 := by kernel_rfl
theorem cEl : Tryd.prog.cellsOf 3 = 1 := by kernel_rfl

/-- The tables lie in a world. -/
def Tabs (w : World) : Prop := Lib.TabIs Tryd.prog w nLog .i64 logs

theorem of_laid {W : World} (h : laidMetH Tryd.prog [(nLog, Lib.tabData .i64 logs)] W) : Tabs W := by
  rw [MakeChecks.laidMetH_plain _ _ _ (by kernel_rfl)] at h
  exact Lib.tabIs_of_head gLog tLog uLog eLog cEl cLog h

theorem Tabs.log {w : World} (h : Tabs w) (i : Nat) (hi : i < 256) : w.cell? ⟨0, i, none⟩ = some (.int .i64 (logs.getD i 0)) := Lib.TabIs.cell h gLog i (by rw [show logs.length = 256 from by kernel_rfl]; exact hi)
theorem Tabs.drewN {w : World} (h : Tabs w) (n : Nat) : Tabs (w.drewN n) := h

/-- The tables read again. -/
theorem reads_log {H : Type} (enc : TypeId × Value → H) (W : World) (sp : Nat → Bool) : DataW.trod enc Tryd.prog W 0 sp true 3 51 (logs.map fun z => Value.int .i64 z) = some (Lib.tabData .i64 logs, []) := by kernel_rfl

end Go.Proofs.YtpelipdecjooeaaDoor.Tab
