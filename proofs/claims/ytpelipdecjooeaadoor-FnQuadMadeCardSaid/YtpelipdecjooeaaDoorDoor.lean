/- What the door's own run leaves meets the rows' condition: the table. -/
import Derived.Test.YtpelipdecjooeaaDoorTab
import Derived.LaidOnce
namespace Go.Proofs.YtpelipdecjooeaaDoor.Door
open Go Go.RowKit Go.Proofs.YtpelipdecjooeaaDoor.Tab
set_option maxRecDepth 100000
def theLaid : List (String × DataW Unit) := [(nLog, Lib.tabData .i64 logs)]

/-- The door's own heap meets the condition. -/
theorem door_met (os : Os) (args : Array Value) : laidMetH Tryd.prog theLaid ((World.doorLaid Tryd.prog 14 os).forCall (fun _ _ => 0) ⟨#[], args, []⟩).memory := by
  have d : (DataW.laidRun Tryd.prog ((World.doorLaid Tryd.prog 14 os).forCall (fun _ _ => 0) ⟨#[], args, []⟩).memory 8 ((theLaid.filter fun x => x.2.handleName?.isNone).map (·.1))).bind (fun x => if nodupBits 257 x.2 0 && laidRowsB Tryd.prog ((World.doorLaid Tryd.prog 14 os).forCall (fun _ _ => 0) ⟨#[], args, []⟩).memory x.2 then some x.1 else none)
      = some (theLaid.filter fun x => x.2.handleName?.isNone) := by kernel_rfl
  simp only [Option.bind_eq_some_iff] at d
  obtain ⟨x, hx, d⟩ := d
  split at d
  · rename_i hb
    simp only [Bool.and_eq_true] at hb
    have e1 := Option.some.inj d
    exact laidMetH_of_parts3 (fuel := 8) (laidMet_of_run (ps := x.2) 8 (by rw [hx, ← e1]) (decide_eq_true (nodupBits_sound hb.1).1) hb.2) (by kernel_rfl) (by kernel_rfl)
  · cases d

end Go.Proofs.YtpelipdecjooeaaDoor.Door
