/- The four variables of math/big: what the door's own run leaves meets the rows' condition; they read again what they read, where no elder block has turned. -/
import Derived.Test.YtmmnopmccamjcaaGreatDoorRows
import Derived.ChangeSame
import Derived.ChangeVars
import Derived.JoinedOf
import Derived.RowKit
import Derived.ProofKit
import Derived.LaidMore
import Derived.OpenShut
import Derived.Below
import Derived.Stop.Joined
import Derived.MakeChecks
import Derived.KernelRfl
import Derived.LaidOnce
namespace Go.Proofs.YtmmnopmccamjcaaGreatDoor.DoorP
open Go Go.ChangeShapes Go.WideShapes Go.ChangeAt Go.RowKit
set_option maxRecDepth 100000
theorem own : ownKnob Tryz.prog.godebug = none := by kernel_rfl
abbrev names : List String := ["loop.example/pub-g01479/pub/bigall.basicSqrThreshold", "loop.example/pub-g01479/pub/bigall.karatsubaSqrThreshold", "loop.example/pub-g01479/pub/bigall.karatsubaThreshold", "loop.example/pub-g01479/pub/bigall.divRecursiveThreshold"]
def theLaid : List (String × DataW Unit) := [("loop.example/pub-g01479/pub/bigall.divRecursiveThreshold", .lit (.int .i64 40)), ("loop.example/pub-g01479/pub/bigall.karatsubaThreshold", .lit (.int .i64 40)), ("loop.example/pub-g01479/pub/bigall.basicSqrThreshold", .lit (.int .i64 12)), ("loop.example/pub-g01479/pub/bigall.karatsubaSqrThreshold", .lit (.int .i64 80))]
/-- The door's own heap meets the condition. -/
theorem door_met (os : Os) (args : Array Value) : laidMetH Tryz.prog theLaid ((World.doorLaid Tryz.prog 25 os).forCall (fun _ _ => 0) ⟨#[], args, []⟩).memory := by
  have d : (DataW.laidRun Tryz.prog ((World.doorLaid Tryz.prog 25 os).forCall (fun _ _ => 0) ⟨#[], args, []⟩).memory 8 ((theLaid.filter fun x => x.2.handleName?.isNone).map (·.1))).bind (fun x => if nodupBits 257 x.2 0 && laidRowsB Tryz.prog ((World.doorLaid Tryz.prog 25 os).forCall (fun _ _ => 0) ⟨#[], args, []⟩).memory x.2 then some x.1 else none)
      = some (theLaid.filter fun x => x.2.handleName?.isNone) := by kernel_rfl
  simp only [Option.bind_eq_some_iff] at d
  obtain ⟨x, hx, d⟩ := d
  split at d
  · rename_i hb
    simp only [Bool.and_eq_true] at hb
    have e1 := Option.some.inj d
    exact laidMetH_of_parts3 (fuel := 8) (laidMet_of_run (ps := x.2) 8 (by rw [hx, ← e1]) (decide_eq_true (nodupBits_sound hb.1).1) hb.2) (by kernel_rfl) (by kernel_rfl)
  · cases d
section
variable {H : Type} {enc : TypeId × Value → H} {P : Program} {W W' : World} {sp sp' : Nat → Bool}
theorem trod_kept {f : Nat} {t : TypeId} {k : IntKind} {vs : List Value} {d : DataW H} {p : List MemPlace} (hu : P.underlying t = some (.int k)) (h : DataW.trod enc P W 0 sp true f t vs = some (d, p)) : DataW.trod enc P W' 0 sp' true f t vs = some (d, p) := by
  cases f with
  | zero => simp [DataW.trod] at h
  | succ f =>
    rcases vs with _ | ⟨v, _ | ⟨u, vs⟩⟩
    · simp [DataW.trod, hu] at h
    · cases v
      all_goals first | (simp [DataW.trod, hu] at h; done) | (simp only [DataW.trod, hu] at h ⊢; exact h)
    · cases v <;> simp [DataW.trod, hu] at h
theorem var_kept {n : String} {cs : Array Value} (hb : Below W.heap.size W W') (h : W.var? P n = some cs) : W'.var? P n = some cs := by
  simp only [World.var?] at h ⊢
  cases hg : P.globalNamed n with
  | none => rw [hg] at h; simp at h
  | some g =>
    rw [hg] at h
    simp only [Option.bind_some] at h ⊢
    have hl : g < W.heap.size := by
      rcases Nat.lt_or_ge g W.heap.size with hh | hh
      · exact hh
      · rw [Array.getElem?_eq_none hh] at h; simp at h
    rw [hb.block g hl]
    exact h
theorem vars_kept (hb : Below W.heap.size W W') : ∀ {ns : List String} {ds : List (DataW H)} {ps : List MemPlace}, (∀ n ∈ ns, ∀ g t, P.globalNamed n = some g → (P.globals[g]?).map (·.type) = some t → ∃ k, P.underlying t = some (.int k)) → DataW.TrodVars enc P W sp ns ds ps → DataW.TrodVars enc P W' sp' ns ds ps
  | [], [], _, _, h => h
  | [], _ :: _, _, _, h => by simp [DataW.TrodVars] at h
  | _ :: _, [], _, _, h => by simp [DataW.TrodVars] at h
  | n :: ns, d :: ds, ps, hi, h => by
    obtain ⟨g, t, cs, fuel, p, q, h1, h2, h3, h4, h5, h6⟩ := h
    obtain ⟨k, hk⟩ := hi n (by simp) g t h1 h2
    exact ⟨g, t, cs, fuel, p, q, h1, h2, var_kept hb h3, trod_kept hk h4, vars_kept hb (fun m hm => hi m (by simp [hm])) h5, h6⟩
theorem vars_len : ∀ {ns : List String} {ds : List (DataW H)} {ps : List MemPlace}, DataW.TrodVars enc P W sp ns ds ps → ds.length = ns.length
  | [], [], _, _ => rfl
  | [], _ :: _, _, h => by simp [DataW.TrodVars] at h
  | _ :: _, [], _, h => by simp [DataW.TrodVars] at h
  | n :: ns, d :: ds, ps, h => by
    obtain ⟨g, t, cs, fuel, p, q, h1, h2, h3, h4, h5, h6⟩ := h
    simp [vars_len h5]
end
theorem ints : ∀ n ∈ names, ∀ g t, Tryz.prog.globalNamed n = some g → (Tryz.prog.globals[g]?).map (·.type) = some t → ∃ k, Tryz.prog.underlying t = some (.int k) := by
  have g0 : Tryz.prog.globalNamed "loop.example/pub-g01479/pub/bigall.basicSqrThreshold" = some 0 := by kernel_rfl
  have g1 : Tryz.prog.globalNamed "loop.example/pub-g01479/pub/bigall.karatsubaSqrThreshold" = some 1 := by kernel_rfl
  have g2 : Tryz.prog.globalNamed "loop.example/pub-g01479/pub/bigall.karatsubaThreshold" = some 2 := by kernel_rfl
  have g3 : Tryz.prog.globalNamed "loop.example/pub-g01479/pub/bigall.divRecursiveThreshold" = some 3 := by kernel_rfl
  have t0 : (Tryz.prog.globals[0]?).map (·.type) = some 3 := by kernel_rfl
  have t1 : (Tryz.prog.globals[1]?).map (·.type) = some 3 := by kernel_rfl
  have t2 : (Tryz.prog.globals[2]?).map (·.type) = some 3 := by kernel_rfl
  have t3 : (Tryz.prog.globals[3]?).map (·.type) = some 3 := by kernel_rfl
  have u3 : Tryz.prog.underlying 3 = some (.int .i64) := by kernel_rfl
  intro n hn g t hg ht
  simp only [names, List.mem_cons, List.not_mem_nil, or_false] at hn
  rcases hn with rfl | rfl | rfl | rfl
  · obtain rfl := Option.some.inj (g0.symm.trans hg)
    obtain rfl := Option.some.inj (t0.symm.trans ht)
    exact ⟨_, u3⟩
  · obtain rfl := Option.some.inj (g1.symm.trans hg)
    obtain rfl := Option.some.inj (t1.symm.trans ht)
    exact ⟨_, u3⟩
  · obtain rfl := Option.some.inj (g2.symm.trans hg)
    obtain rfl := Option.some.inj (t2.symm.trans ht)
    exact ⟨_, u3⟩
  · obtain rfl := Option.some.inj (g3.symm.trans hg)
    obtain rfl := Option.some.inj (t3.symm.trans ht)
    exact ⟨_, u3⟩
end Go.Proofs.YtmmnopmccamjcaaGreatDoor.DoorP
