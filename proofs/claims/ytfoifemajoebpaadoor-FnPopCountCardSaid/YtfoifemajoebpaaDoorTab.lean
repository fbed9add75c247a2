/- The two tables of the package as the program's text lays them, and what a walk reads of them. -/
import Derived.Test.YtfoifemajoebpaaDoorRows
import Derived.ChangeSame
import Derived.ChangeVars
import Derived.JoinedOf
import Derived.RowKit
import Derived.ProofKit
import Derived.LaidMore
import Derived.OpenShut
import Derived.Stop.Joined
import Derived.Lib.LaidTab
import Derived.MakeChecks
import Derived.KernelRfl
import Derived.Deep.Draws
namespace Go.Proofs.YtfoifemajoebpaaDoor.Tab
open Go Go.ChangeShapes Go.WideShapes Go.ChangeAt Go.RowKit

def logs : List Int := [(-1), 0, 1, 1, 2, 2, 2, 2, 3, 3, 3, 3, 3, 3, 3, 3, 4, 4, 4, 4, 4, 4, 4, 4, 4, 4, 4, 4, 4, 4, 4, 4, 5, 5, 5, 5, 5, 5, 5, 5, 5, 5, 5, 5, 5, 5, 5, 5, 5, 5, 5, 5, 5, 5, 5, 5, 5, 5, 5, 5, 5, 5, 5, 5, 6, 6, 6, 6, 6, 6, 6, 6, 6, 6, 6, 6, 6, 6, 6, 6, 6, 6, 6, 6, 6, 6, 6, 6, 6, 6, 6, 6, 6, 6, 6, 6, 6, 6, 6, 6, 6, 6, 6, 6, 6, 6, 6, 6, 6, 6, 6, 6, 6, 6, 6, 6, 6, 6, 6, 6, 6, 6, 6, 6, 6, 6, 6, 6, 7, 7, 7, 7, 7, 7, 7, 7, 7, 7, 7, 7, 7, 7, 7, 7, 7, 7, 7, 7, 7, 7, 7, 7, 7, 7, 7, 7, 7, 7, 7, 7, 7, 7, 7, 7, 7, 7, 7, 7, 7, 7, 7, 7, 7, 7, 7, 7, 7, 7, 7, 7, 7, 7, 7, 7, 7, 7, 7, 7, 7, 7, 7, 7, 7, 7, 7, 7, 7, 7, 7, 7, 7, 7, 7, 7, 7, 7, 7, 7, 7, 7, 7, 7, 7, 7, 7, 7, 7, 7, 7, 7, 7, 7, 7, 7, 7, 7, 7, 7, 7, 7, 7, 7, 7, 7, 7, 7, 7, 7, 7, 7, 7, 7, 7, 7, 7, 7, 7, 7, 7, 7, 7, 7, 7, 7, 7, 7]
def pops : List Int := [0, 1, 1, 2, 1, 2, 2, 3, 1, 2, 2, 3, 2, 3, 3, 4, 1, 2, 2, 3, 2, 3, 3, 4, 2, 3, 3, 4, 3, 4, 4, 5, 1, 2, 2, 3, 2, 3, 3, 4, 2, 3, 3, 4, 3, 4, 4, 5, 2, 3, 3, 4, 3, 4, 4, 5, 3, 4, 4, 5, 4, 5, 5, 6, 1, 2, 2, 3, 2, 3, 3, 4, 2, 3, 3, 4, 3, 4, 4, 5, 2, 3, 3, 4, 3, 4, 4, 5, 3, 4, 4, 5, 4, 5, 5, 6, 2, 3, 3, 4, 3, 4, 4, 5, 3, 4, 4, 5, 4, 5, 5, 6, 3, 4, 4, 5, 4, 5, 5, 6, 4, 5, 5, 6, 5, 6, 6, 7, 1, 2, 2, 3, 2, 3, 3, 4, 2, 3, 3, 4, 3, 4, 4, 5, 2, 3, 3, 4, 3, 4, 4, 5, 3, 4, 4, 5, 4, 5, 5, 6, 2, 3, 3, 4, 3, 4, 4, 5, 3, 4, 4, 5, 4, 5, 5, 6, 3, 4, 4, 5, 4, 5, 5, 6, 4, 5, 5, 6, 5, 6, 6, 7, 2, 3, 3, 4, 3, 4, 4, 5, 3, 4, 4, 5, 4, 5, 5, 6, 3, 4, 4, 5, 4, 5, 5, 6, 4, 5, 5, 6, 5, 6, 6, 7, 3, 4, 4, 5, 4, 5, 5, 6, 4, 5, 5, 6, 5, 6, 6, 7, 4, 5, 5, 6, 5, 6, 6, 7, 5, 6, 6, 7, 6, 7, 7, 8]

abbrev nLog : String := "loop.example/pub-g01479/pub/mathutil.log2"
abbrev nPop : String := "loop.example/pub-g01479/pub/mathutil.popcnt"
theorem own : ownKnob Tryd.prog.godebug = none := by kernel_rfl
theorem gLog : Tryd.prog.globalNamed nLog = some 0 := by kernel_rfl
theorem gPop : Tryd.prog.globalNamed nPop = some 1 := by kernel_rfl
theorem tLog : (Tryd.prog.globals[0]?).map (·.type) = some 39 := by kernel_rfl
theorem tPop : (Tryd.prog.globals[1]?).map (·.type) = some 40 := by kernel_rfl
theorem uLog : Tryd.prog.underlying 39 = some (.array 256 3) := by kernel_rfl
theorem uPop : Tryd.prog.underlying 40 = some (.array 256 5) := by kernel_rfl
theorem eLog : Tryd.prog.underlying 3 = some (.int .i64) := by kernel_rfl
theorem ePop : Tryd.prog.underlying 5 = some (.int .u8) := by kernel_rfl
theorem cLog : Tryd.prog.cellsOf 39 = 256 := by kernel_rfl
theorem cPop : Tryd.prog.cellsOf 40 = 256 := by kernel_rfl
theorem cEl : Tryd.prog.cellsOf 3 = 1 := by kernel_rfl
theorem cEp : Tryd.prog.cellsOf 5 = 1 := by kernel_rfl

/-- The tables lie in a world. -/
def Tabs (w : World) : Prop := Lib.TabIs Tryd.prog w nLog .i64 logs ∧ Lib.TabIs Tryd.prog w nPop .u8 pops

theorem of_laid {W : World} (h : laidMetH Tryd.prog [(nPop, Lib.tabData .u8 pops), (nLog, Lib.tabData .i64 logs)] W) : Tabs W := by
  rw [MakeChecks.laidMetH_plain _ _ _ (by kernel_rfl)] at h
  obtain ⟨ps, ⟨g0, t0, cs0, f0, p0, q0, hg0, ht0, hv0, hd0, ⟨g1, t1, cs1, f1, p1, q1, hg1, ht1, hv1, hd1, _, _⟩, _⟩, _, _⟩ := h
  obtain rfl := Option.some.inj (gPop.symm.trans hg0)
  obtain rfl := Option.some.inj (gLog.symm.trans hg1)
  obtain rfl := Option.some.inj (tPop.symm.trans ht0)
  obtain rfl := Option.some.inj (tLog.symm.trans ht1)
  refine ⟨?_, ?_⟩
  · unfold Lib.TabIs; rw [hv1, ← Lib.cells_of_tab uLog eLog cEl cLog hd1]
  · unfold Lib.TabIs; rw [hv0, ← Lib.cells_of_tab uPop ePop cEp cPop hd0]

theorem Tabs.log {w : World} (h : Tabs w) (i : Nat) (hi : i < 256) : w.cell? ⟨0, i, none⟩ = some (.int .i64 (logs.getD i 0)) := Lib.TabIs.cell h.1 gLog i (by rw [show logs.length = 256 from by kernel_rfl]; exact hi)
theorem Tabs.pop {w : World} (h : Tabs w) (i : Nat) (hi : i < 256) : w.cell? ⟨1, i, none⟩ = some (.int .u8 (pops.getD i 0)) := Lib.TabIs.cell h.2 gPop i (by rw [show pops.length = 256 from by kernel_rfl]; exact hi)
theorem Tabs.drewN {w : World} (h : Tabs w) (n : Nat) : Tabs (w.drewN n) := h

/-- The tables read again. -/
theorem reads_log {H : Type} (enc : TypeId × Value → H) (W : World) (sp : Nat → Bool) : DataW.trod enc Tryd.prog W 0 sp true 3 39 (logs.map fun z => Value.int .i64 z) = some (Lib.tabData .i64 logs, []) := by kernel_rfl
theorem reads_pop {H : Type} (enc : TypeId × Value → H) (W : World) (sp : Nat → Bool) : DataW.trod enc Tryd.prog W 0 sp true 3 40 (pops.map fun z => Value.int .u8 z) = some (Lib.tabData .u8 pops, []) := by kernel_rfl

end Go.Proofs.YtfoifemajoebpaaDoor.Tab
