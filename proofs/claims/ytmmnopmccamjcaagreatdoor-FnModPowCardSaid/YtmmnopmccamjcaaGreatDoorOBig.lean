/- The package's functions on words, each with its contract. -/
import Derived.Test.YtmmnopmccamjcaaGreatDoorProg
import Derived.Below
import Derived.Deep.Draws
import Derived.Deep.AppendLies
import Derived.Maps.AppendAt
import Derived.OwnWalk
import Derived.Laws.BytesArg
import Derived.Laws.MakeOwn
import Derived.Laws.OwnMore
import Derived.Deep.OwnRows
import Derived.Tactics
import Derived.Lib.ConvBytes
import Derived.Laws.Slices
import Derived.WalkKit
import Derived.KernelRfl
import Derived.RowKit3
import Derived.Deep.LoopGhost
import Derived.Deep.QuietTactic
import Derived.BigQuiet
import Derived.WideLaws
import Derived.Deep.DeepCutAuto
import Derived.Deep.CutBlock
import Derived.Deep.RegionHeld3
import Derived.Laws.Rows
import Derived.Lib.AppendStr
import Derived.ArgAppend
import Derived.Laws.IdiomCopy
import Derived.OrdersHeld
import Derived.Laws.BitsLemmas
import Derived.RowKit
import Derived.Test.YtmmnopmccamjcaaGreatDoorWWords
import Derived.Test.YtmmnopmccamjcaaGreatDoorWLast
import Derived.Test.YtmmnopmccamjcaaGreatDoorWTab
import Derived.Test.YtmmnopmccamjcaaGreatDoorWFour
import Derived.Test.YtmmnopmccamjcaaGreatDoorWQPut
import Derived.Test.YtmmnopmccamjcaaGreatDoorWApart
import Derived.Test.YtmmnopmccamjcaaGreatDoorWArr
import Derived.Test.YtmmnopmccamjcaaGreatDoorWZeros
import Derived.Test.YtmmnopmccamjcaaGreatDoorWFoot
import Derived.Test.YtmmnopmccamjcaaGreatDoorWKept
import Derived.Test.YtmmnopmccamjcaaGreatDoorWShare
import Derived.Test.YtmmnopmccamjcaaGreatDoorWN
import Derived.Test.YtmmnopmccamjcaaGreatDoorWFootNe
import Derived.Test.YtmmnopmccamjcaaGreatDoorWAt
import Derived.Test.YtmmnopmccamjcaaGreatDoorWEqStruct
import Derived.Test.YtmmnopmccamjcaaGreatDoorWRepsOne
import Derived.Test.YtmmnopmccamjcaaGreatDoorWInv
import Derived.Test.YtmmnopmccamjcaaGreatDoorWInvWords
import Derived.Test.YtmmnopmccamjcaaGreatDoorWGuard
import Derived.Test.YtmmnopmccamjcaaGreatDoorWNEv
import Derived.Test.YtmmnopmccamjcaaGreatDoorWMore
import Derived.Test.YtmmnopmccamjcaaGreatDoorBigA
namespace Go.Proofs.YtmmnopmccamjcaaGreatDoor.PBig
open Go.RowKit Go.Proofs.YtmmnopmccamjcaaGreatDoorW.PrintWords Go.Proofs.YtmmnopmccamjcaaGreatDoorW.PrintLast Go.Proofs.YtmmnopmccamjcaaGreatDoorW.PrintMore
attribute [local go_sem] max2_int min2_int max_two min_two max_three min_three max_four min_four   -- for this text's walks alone
set_option linter.unusedVariables false
set_option linter.unusedSimpArgs false



def errW : Option Int → Value
  | none => .nilIface
  | some c => .iface 0 (.int .i64 c)
theorem errW_none : errW none = .nilIface := rfl
theorem errW_some (c : Int) : errW (some c) = .iface 0 (.int .i64 c) := rfl

theorem info43 : (Tryz.prog.info? 45).map (fun i => (i.zero, i.size, i.bytes)) = some (some (.int .u64 0), 1, 8) := by kernel_rfl
-- the values' own types

/-! ### bits_Len: function 37 -/
def bits_Len.f (k : Nat) (a0 : Int) : Option (Int) := if 0 ≤ a0 ∧ a0 ≤ 18446744073709551615 then some ((Lib.bitLen a0.toNat : Int)) else none
theorem bits_Len.mono : ∀ a0 k, LeO (bits_Len.f k a0) (bits_Len.f (k + 1) a0) := fun _ _ => LeO.refl _
theorem bits_Len.calls (k : Nat) (a0 : Int) (r : Int) (w : World) (h : bits_Len.f k a0 = some r) :
    Calls Tryz.prog 37 #[.int .u64 a0] w fun e w' => e = .returned (.int .i64 r) ∧ Drawn0 w w' := by
  unfold bits_Len.f at h
  split at h
  · rename_i hw
    obtain rfl := Option.some.inj h
    refine (Tryz.bits_Len a0 w hw.1 hw.2).mono ?_
    rintro e w' ⟨rfl, rfl⟩
    exact ⟨rfl, Drawn0.refl _⟩
  · cases h

/-! ### bits_LeadingZeros64: function 102 -/
def bits_LeadingZeros64.f (k : Nat) (a0 : Int) : Option (Int) := if 0 ≤ a0 ∧ a0 ≤ 18446744073709551615 then some (64 - (Lib.bitLen a0.toNat : Int)) else none
theorem bits_LeadingZeros64.mono : ∀ a0 k, LeO (bits_LeadingZeros64.f k a0) (bits_LeadingZeros64.f (k + 1) a0) := fun _ _ => LeO.refl _
theorem bits_LeadingZeros64.calls (k : Nat) (a0 : Int) (r : Int) (w : World) (h : bits_LeadingZeros64.f k a0 = some r) :
    Calls Tryz.prog 102 #[.int .u64 a0] w fun e w' => e = .returned (.int .i64 r) ∧ Drawn0 w w' := by
  unfold bits_LeadingZeros64.f at h
  split at h
  · rename_i hw
    obtain rfl := Option.some.inj h
    refine (Tryz.bits_LeadingZeros64 a0 w hw.1 hw.2).mono ?_
    rintro e w' ⟨rfl, rfl⟩
    exact ⟨rfl, Drawn0.refl _⟩
  · cases h

/-! ### bits_LeadingZeros: function 88 -/
def bits_LeadingZeros.f (k : Nat) (a0 : Int) : Option (Int) := if 0 ≤ a0 ∧ a0 ≤ 18446744073709551615 then some (64 - (Lib.bitLen a0.toNat : Int)) else none
theorem bits_LeadingZeros.mono : ∀ a0 k, LeO (bits_LeadingZeros.f k a0) (bits_LeadingZeros.f (k + 1) a0) := fun _ _ => LeO.refl _
theorem bits_LeadingZeros.calls (k : Nat) (a0 : Int) (r : Int) (w : World) (h : bits_LeadingZeros.f k a0 = some r) :
    Calls Tryz.prog 88 #[.int .u64 a0] w fun e w' => e = .returned (.int .i64 r) ∧ Drawn0 w w' := by
  unfold bits_LeadingZeros.f at h
  split at h
  · rename_i hw
    obtain rfl := Option.some.inj h
    refine (Tryz.bits_LeadingZeros a0 w hw.1 hw.2).mono ?_
    rintro e w' ⟨rfl, rfl⟩
    exact ⟨rfl, Drawn0.refl _⟩
  · cases h

/-! ### bits_Add: function 77 -/
def bits_Add.f (a0 : Int) (a1 : Int) (a2 : Int) : Option (Int × Int) := if (0 ≤ a0 ∧ a0 < 18446744073709551616) ∧ (0 ≤ a1 ∧ a1 < 18446744073709551616) ∧ 0 ≤ a2 ∧ a2 ≤ 1 then some ((a0 + a1 + a2) % 18446744073709551616, (a0 + a1 + a2) / 18446744073709551616) else none
theorem bits_Add.calls (a0 : Int) (a1 : Int) (a2 : Int) (r1 : Int) (r2 : Int) (w : World) (h : bits_Add.f a0 a1 a2 = some (r1, r2)) :
    Calls Tryz.prog 77 #[.int .u64 a0, .int .u64 a1, .int .u64 a2] w fun e w' => e = .returned (.tuple #[.int .u64 r1, .int .u64 r2]) ∧ Drawn0 w w' := by
  unfold bits_Add.f at h
  split at h
  · rename_i hw
    simp only [Option.some.injEq, Prod.mk.injEq] at h
    obtain ⟨rfl, rfl⟩ := h
    refine (BigA.add a0 a1 a2 hw.1 hw.2.1 hw.2.2.1 hw.2.2.2 w).mono ?_
    rintro e w' ⟨rfl, d⟩
    exact ⟨rfl, ⟨d⟩⟩
  · cases h

/-! ### bits_Sub: function 50 -/
def bits_Sub.f (a0 : Int) (a1 : Int) (a2 : Int) : Option (Int × Int) := if (0 ≤ a0 ∧ a0 < 18446744073709551616) ∧ (0 ≤ a1 ∧ a1 < 18446744073709551616) ∧ 0 ≤ a2 ∧ a2 ≤ 1 then some ((a0 - a1 - a2) % 18446744073709551616, BigA.bor a0 a1 a2) else none
theorem bits_Sub.calls (a0 : Int) (a1 : Int) (a2 : Int) (r1 : Int) (r2 : Int) (w : World) (h : bits_Sub.f a0 a1 a2 = some (r1, r2)) :
    Calls Tryz.prog 50 #[.int .u64 a0, .int .u64 a1, .int .u64 a2] w fun e w' => e = .returned (.tuple #[.int .u64 r1, .int .u64 r2]) ∧ Drawn0 w w' := by
  unfold bits_Sub.f at h
  split at h
  · rename_i hw
    simp only [Option.some.injEq, Prod.mk.injEq] at h
    obtain ⟨rfl, rfl⟩ := h
    refine (BigA.sub a0 a1 a2 hw.1 hw.2.1 hw.2.2.1 hw.2.2.2 w).mono ?_
    rintro e w' ⟨rfl, d⟩
    exact ⟨rfl, ⟨d⟩⟩
  · cases h

/-! ### bits_Mul: function 78 -/
def bits_Mul.f (a0 : Int) (a1 : Int) : Option (Int × Int) := if (0 ≤ a0 ∧ a0 < 18446744073709551616) ∧ (0 ≤ a1 ∧ a1 < 18446744073709551616) then some (a0 * a1 / 18446744073709551616, a0 * a1 % 18446744073709551616) else none
theorem bits_Mul.calls (a0 : Int) (a1 : Int) (r1 : Int) (r2 : Int) (w : World) (h : bits_Mul.f a0 a1 = some (r1, r2)) :
    Calls Tryz.prog 78 #[.int .u64 a0, .int .u64 a1] w fun e w' => e = .returned (.tuple #[.int .u64 r1, .int .u64 r2]) ∧ Drawn0 w w' := by
  unfold bits_Mul.f at h
  split at h
  · rename_i hw
    simp only [Option.some.injEq, Prod.mk.injEq] at h
    obtain ⟨rfl, rfl⟩ := h
    refine (BigA.mul a0 a1 hw.1 hw.2 w).mono ?_
    rintro e w' ⟨rfl, d⟩
    exact ⟨rfl, by subst d; exact Drawn0.refl _⟩
  · cases h

/-! ### bigall_bitsDiv64: function 100 -/
mutual
def bigall_bitsDiv64.j2 : Nat → Int → Int → Int → Int → Int → Int → Int → Int → Option (Int × Int)
  | 0, _, _, _, _, _, _, _, _ => none
  | k + 1, x2, x8, x9, x10, x11, x13, x14, x15 => if x9 = 0 then (none) else (bigall_bitsDiv64.l1 k x2 x8 x9 x10 x14 x15 (IntKind.u64.wrap ((IntKind.u64.wrap ((IntKind.u64.wrap ((IntKind.u64.wrap (x11 * 4294967296)) + x13)) - (IntKind.u64.wrap (x15 * x2)))) - (IntKind.u64.wrap ((IntKind.u64.wrap (Int.tdiv (IntKind.u64.wrap ((IntKind.u64.wrap ((IntKind.u64.wrap (x11 * 4294967296)) + x13)) - (IntKind.u64.wrap (x15 * x2)))) x9)) * x9)))) (IntKind.u64.wrap ((IntKind.u64.wrap ((IntKind.u64.wrap (x11 * 4294967296)) + x13)) - (IntKind.u64.wrap (x15 * x2)))) (IntKind.u64.wrap (Int.tdiv (IntKind.u64.wrap ((IntKind.u64.wrap ((IntKind.u64.wrap (x11 * 4294967296)) + x13)) - (IntKind.u64.wrap (x15 * x2)))) x9)))
def bigall_bitsDiv64.l1 : Nat → Int → Int → Int → Int → Int → Int → Int → Int → Int → Option (Int × Int)
  | 0, _, _, _, _, _, _, _, _, _ => none
  | k + 1, x2, x8, x9, x10, x14, x15, x16, x17, x18 => if x18 ≥ 4294967296 then (bigall_bitsDiv64.j4 k x2 x8 x9 x10 x14 x15 x16 x17 x18 true) else (bigall_bitsDiv64.j4 k x2 x8 x9 x10 x14 x15 x16 x17 x18 (decide ((IntKind.u64.wrap (x18 * x10)) > (IntKind.u64.wrap ((IntKind.u64.wrap (4294967296 * x16)) + x14)))))
def bigall_bitsDiv64.j4 : Nat → Int → Int → Int → Int → Int → Int → Int → Int → Int → Bool → Option (Int × Int)
  | 0, _, _, _, _, _, _, _, _, _, _ => none
  | k + 1, x2, x8, x9, x10, x14, x15, x16, x17, x18, x113 => if x113 = true then (if (IntKind.u64.wrap (x16 + x9)) ≥ 4294967296 then (if 0 ≤ x8 then (some (IntKind.u64.wrap ((IntKind.u64.wrap (x15 * 4294967296)) + (IntKind.u64.wrap (x18 - 1))), shr .u64 (IntKind.u64.wrap ((IntKind.u64.wrap ((IntKind.u64.wrap (x17 * 4294967296)) + x14)) - (IntKind.u64.wrap ((IntKind.u64.wrap (x18 - 1)) * x2)))) x8)) else (none)) else (bigall_bitsDiv64.l1 k x2 x8 x9 x10 x14 x15 (IntKind.u64.wrap (x16 + x9)) x17 (IntKind.u64.wrap (x18 - 1)))) else (if 0 ≤ x8 then (some (IntKind.u64.wrap ((IntKind.u64.wrap (x15 * 4294967296)) + x18), shr .u64 (IntKind.u64.wrap ((IntKind.u64.wrap ((IntKind.u64.wrap (x17 * 4294967296)) + x14)) - (IntKind.u64.wrap (x18 * x2)))) x8)) else (none))
def bigall_bitsDiv64.l0 : Nat → Int → Int → Int → Int → Int → Int → Int → Int → Int → Option (Int × Int)
  | 0, _, _, _, _, _, _, _, _, _ => none
  | k + 1, x2, x8, x9, x10, x11, x13, x14, x15, x16 => if x15 ≥ 4294967296 then (bigall_bitsDiv64.j1 k x2 x8 x9 x10 x11 x13 x14 x15 x16 true) else (bigall_bitsDiv64.j1 k x2 x8 x9 x10 x11 x13 x14 x15 x16 (decide ((IntKind.u64.wrap (x15 * x10)) > (IntKind.u64.wrap ((IntKind.u64.wrap (4294967296 * x16)) + x13)))))
def bigall_bitsDiv64.j1 : Nat → Int → Int → Int → Int → Int → Int → Int → Int → Int → Bool → Option (Int × Int)
  | 0, _, _, _, _, _, _, _, _, _, _ => none
  | k + 1, x2, x8, x9, x10, x11, x13, x14, x15, x16, x78 => if x78 = true then (if (IntKind.u64.wrap (x16 + x9)) ≥ 4294967296 then (bigall_bitsDiv64.j2 k x2 x8 x9 x10 x11 x13 x14 (IntKind.u64.wrap (x15 - 1))) else (bigall_bitsDiv64.l0 k x2 x8 x9 x10 x11 x13 x14 (IntKind.u64.wrap (x15 - 1)) (IntKind.u64.wrap (x16 + x9)))) else (bigall_bitsDiv64.j2 k x2 x8 x9 x10 x11 x13 x14 x15)
end
def bigall_bitsDiv64.f (k : Nat) (a0 : Int) (a1 : Int) (a2 : Int) : Option (Int × Int) := if a2 = 0 then (none) else (if a2 ≤ a0 then (none) else (if a0 = 0 then (some (IntKind.u64.wrap (Int.tdiv a1 a2), Int.tmod a1 a2)) else ((bits_LeadingZeros64.f k a2).bind fun t125 => (if 0 ≤ (IntKind.u64.wrap (t125)) then (if 0 ≤ (IntKind.u64.wrap (64 - (IntKind.u64.wrap (t125)))) then (if ((shl .u64 a2 (IntKind.u64.wrap (t125))) / 4294967296) = 0 then (none) else (bigall_bitsDiv64.l0 k (shl .u64 a2 (IntKind.u64.wrap (t125))) (IntKind.u64.wrap (t125)) ((shl .u64 a2 (IntKind.u64.wrap (t125))) / 4294967296) (Go.bits .and .u64 (shl .u64 a2 (IntKind.u64.wrap (t125))) 4294967295) (Go.bits .or .u64 (shl .u64 a0 (IntKind.u64.wrap (t125))) (shr .u64 a1 (IntKind.u64.wrap (64 - (IntKind.u64.wrap (t125)))))) ((shl .u64 a1 (IntKind.u64.wrap (t125))) / 4294967296) (Go.bits .and .u64 (shl .u64 a1 (IntKind.u64.wrap (t125))) 4294967295) (IntKind.u64.wrap (Int.tdiv (Go.bits .or .u64 (shl .u64 a0 (IntKind.u64.wrap (t125))) (shr .u64 a1 (IntKind.u64.wrap (64 - (IntKind.u64.wrap (t125)))))) ((shl .u64 a2 (IntKind.u64.wrap (t125))) / 4294967296))) (IntKind.u64.wrap ((Go.bits .or .u64 (shl .u64 a0 (IntKind.u64.wrap (t125))) (shr .u64 a1 (IntKind.u64.wrap (64 - (IntKind.u64.wrap (t125)))))) - (IntKind.u64.wrap ((IntKind.u64.wrap (Int.tdiv (Go.bits .or .u64 (shl .u64 a0 (IntKind.u64.wrap (t125))) (shr .u64 a1 (IntKind.u64.wrap (64 - (IntKind.u64.wrap (t125)))))) ((shl .u64 a2 (IntKind.u64.wrap (t125))) / 4294967296))) * ((shl .u64 a2 (IntKind.u64.wrap (t125))) / 4294967296))))))) else (none)) else (none)))))
theorem bigall_bitsDiv64.mono_l : ∀ k, (∀ y0 y1 y2 y3 y4 y5 y6 y7, LeO (bigall_bitsDiv64.j2 k y0 y1 y2 y3 y4 y5 y6 y7) (bigall_bitsDiv64.j2 (k + 1) y0 y1 y2 y3 y4 y5 y6 y7)) ∧ (∀ y0 y1 y2 y3 y4 y5 y6 y7 y8, LeO (bigall_bitsDiv64.l1 k y0 y1 y2 y3 y4 y5 y6 y7 y8) (bigall_bitsDiv64.l1 (k + 1) y0 y1 y2 y3 y4 y5 y6 y7 y8)) ∧ (∀ y0 y1 y2 y3 y4 y5 y6 y7 y8 y9, LeO (bigall_bitsDiv64.j4 k y0 y1 y2 y3 y4 y5 y6 y7 y8 y9) (bigall_bitsDiv64.j4 (k + 1) y0 y1 y2 y3 y4 y5 y6 y7 y8 y9)) ∧ (∀ y0 y1 y2 y3 y4 y5 y6 y7 y8, LeO (bigall_bitsDiv64.l0 k y0 y1 y2 y3 y4 y5 y6 y7 y8) (bigall_bitsDiv64.l0 (k + 1) y0 y1 y2 y3 y4 y5 y6 y7 y8)) ∧ (∀ y0 y1 y2 y3 y4 y5 y6 y7 y8 y9, LeO (bigall_bitsDiv64.j1 k y0 y1 y2 y3 y4 y5 y6 y7 y8 y9) (bigall_bitsDiv64.j1 (k + 1) y0 y1 y2 y3 y4 y5 y6 y7 y8 y9))
  | 0 => ⟨fun _ _ _ _ _ _ _ _ r h => by simp [bigall_bitsDiv64.j2] at h, fun _ _ _ _ _ _ _ _ _ r h => by simp [bigall_bitsDiv64.l1] at h, fun _ _ _ _ _ _ _ _ _ _ r h => by simp [bigall_bitsDiv64.j4] at h, fun _ _ _ _ _ _ _ _ _ r h => by simp [bigall_bitsDiv64.l0] at h, fun _ _ _ _ _ _ _ _ _ _ r h => by simp [bigall_bitsDiv64.j1] at h⟩
  | k + 1 => by
    obtain ⟨ih0, ih1, ih2, ih3, ih4⟩ := bigall_bitsDiv64.mono_l k
    refine ⟨?_, ?_, ?_, ?_, ?_⟩
    · intro y0 y1 y2 y3 y4 y5 y6 y7
      unfold bigall_bitsDiv64.j2
      repeat' first
      | (with_reducible exact ih0 _ _ _ _ _ _ _ _)
      | (with_reducible exact ih1 _ _ _ _ _ _ _ _ _)
      | (with_reducible exact ih2 _ _ _ _ _ _ _ _ _ _)
      | (with_reducible exact ih3 _ _ _ _ _ _ _ _ _)
      | (with_reducible exact ih4 _ _ _ _ _ _ _ _ _ _)
      | (with_reducible exact bits_LeadingZeros64.mono _ _)
      | (with_reducible exact LeO.refl _)
      | (with_reducible exact LeO.none _)
      | (with_reducible refine LeO.ite ?_ ?_)
      | (with_reducible refine LeO.bind ?_ (fun _ => ?_))
      | exact ih0 _ _ _ _ _ _ _ _
      | exact ih1 _ _ _ _ _ _ _ _ _
      | exact ih2 _ _ _ _ _ _ _ _ _ _
      | exact ih3 _ _ _ _ _ _ _ _ _
      | exact ih4 _ _ _ _ _ _ _ _ _ _
      | exact bits_LeadingZeros64.mono _ _
      | exact LeO.none _
      | refine LeO.ite ?_ ?_
      | refine LeO.bind ?_ (fun _ => ?_)
    · intro y0 y1 y2 y3 y4 y5 y6 y7 y8
      unfold bigall_bitsDiv64.l1
      repeat' first
      | (with_reducible exact ih0 _ _ _ _ _ _ _ _)
      | (with_reducible exact ih1 _ _ _ _ _ _ _ _ _)
      | (with_reducible exact ih2 _ _ _ _ _ _ _ _ _ _)
      | (with_reducible exact ih3 _ _ _ _ _ _ _ _ _)
      | (with_reducible exact ih4 _ _ _ _ _ _ _ _ _ _)
      | (with_reducible exact bits_LeadingZeros64.mono _ _)
      | (with_reducible exact LeO.refl _)
      | (with_reducible exact LeO.none _)
      | (with_reducible refine LeO.ite ?_ ?_)
      | (with_reducible refine LeO.bind ?_ (fun _ => ?_))
      | exact ih0 _ _ _ _ _ _ _ _
      | exact ih1 _ _ _ _ _ _ _ _ _
      | exact ih2 _ _ _ _ _ _ _ _ _ _
      | exact ih3 _ _ _ _ _ _ _ _ _
      | exact ih4 _ _ _ _ _ _ _ _ _ _
      | exact bits_LeadingZeros64.mono _ _
      | exact LeO.none _
      | refine LeO.ite ?_ ?_
      | refine LeO.bind ?_ (fun _ => ?_)
    · intro y0 y1 y2 y3 y4 y5 y6 y7 y8 y9
      unfold bigall_bitsDiv64.j4
      repeat' first
      | (with_reducible exact ih0 _ _ _ _ _ _ _ _)
      | (with_reducible exact ih1 _ _ _ _ _ _ _ _ _)
      | (with_reducible exact ih2 _ _ _ _ _ _ _ _ _ _)
      | (with_reducible exact ih3 _ _ _ _ _ _ _ _ _)
      | (with_reducible exact ih4 _ _ _ _ _ _ _ _ _ _)
      | (with_reducible exact bits_LeadingZeros64.mono _ _)
      | (with_reducible exact LeO.refl _)
      | (with_reducible exact LeO.none _)
      | (with_reducible refine LeO.ite ?_ ?_)
      | (with_reducible refine LeO.bind ?_ (fun _ => ?_))
      | exact ih0 _ _ _ _ _ _ _ _
      | exact ih1 _ _ _ _ _ _ _ _ _
      | exact ih2 _ _ _ _ _ _ _ _ _ _
      | exact ih3 _ _ _ _ _ _ _ _ _
      | exact ih4 _ _ _ _ _ _ _ _ _ _
      | exact bits_LeadingZeros64.mono _ _
      | exact LeO.none _
      | refine LeO.ite ?_ ?_
      | refine LeO.bind ?_ (fun _ => ?_)
    · intro y0 y1 y2 y3 y4 y5 y6 y7 y8
      unfold bigall_bitsDiv64.l0
      repeat' first
      | (with_reducible exact ih0 _ _ _ _ _ _ _ _)
      | (with_reducible exact ih1 _ _ _ _ _ _ _ _ _)
      | (with_reducible exact ih2 _ _ _ _ _ _ _ _ _ _)
      | (with_reducible exact ih3 _ _ _ _ _ _ _ _ _)
      | (with_reducible exact ih4 _ _ _ _ _ _ _ _ _ _)
      | (with_reducible exact bits_LeadingZeros64.mono _ _)
      | (with_reducible exact LeO.refl _)
      | (with_reducible exact LeO.none _)
      | (with_reducible refine LeO.ite ?_ ?_)
      | (with_reducible refine LeO.bind ?_ (fun _ => ?_))
      | exact ih0 _ _ _ _ _ _ _ _
      | exact ih1 _ _ _ _ _ _ _ _ _
      | exact ih2 _ _ _ _ _ _ _ _ _ _
      | exact ih3 _ _ _ _ _ _ _ _ _
      | exact ih4 _ _ _ _ _ _ _ _ _ _
      | exact bits_LeadingZeros64.mono _ _
      | exact LeO.none _
      | refine LeO.ite ?_ ?_
      | refine LeO.bind ?_ (fun _ => ?_)
    · intro y0 y1 y2 y3 y4 y5 y6 y7 y8 y9
      unfold bigall_bitsDiv64.j1
      repeat' first
      | (with_reducible exact ih0 _ _ _ _ _ _ _ _)
      | (with_reducible exact ih1 _ _ _ _ _ _ _ _ _)
      | (with_reducible exact ih2 _ _ _ _ _ _ _ _ _ _)
      | (with_reducible exact ih3 _ _ _ _ _ _ _ _ _)
      | (with_reducible exact ih4 _ _ _ _ _ _ _ _ _ _)
      | (with_reducible exact bits_LeadingZeros64.mono _ _)
      | (with_reducible exact LeO.refl _)
      | (with_reducible exact LeO.none _)
      | (with_reducible refine LeO.ite ?_ ?_)
      | (with_reducible refine LeO.bind ?_ (fun _ => ?_))
      | exact ih0 _ _ _ _ _ _ _ _
      | exact ih1 _ _ _ _ _ _ _ _ _
      | exact ih2 _ _ _ _ _ _ _ _ _ _
      | exact ih3 _ _ _ _ _ _ _ _ _
      | exact ih4 _ _ _ _ _ _ _ _ _ _
      | exact bits_LeadingZeros64.mono _ _
      | exact LeO.none _
      | refine LeO.ite ?_ ?_
      | refine LeO.bind ?_ (fun _ => ?_)
theorem bigall_bitsDiv64.mono : ∀ a0 a1 a2 k, LeO (bigall_bitsDiv64.f k a0 a1 a2) (bigall_bitsDiv64.f (k + 1) a0 a1 a2) := by
  intro a0 a1 a2 k
  obtain ⟨ih0, ih1, ih2, ih3, ih4⟩ := bigall_bitsDiv64.mono_l k
  unfold bigall_bitsDiv64.f
  repeat' first
      | (with_reducible exact ih0 _ _ _ _ _ _ _ _)
      | (with_reducible exact ih1 _ _ _ _ _ _ _ _ _)
      | (with_reducible exact ih2 _ _ _ _ _ _ _ _ _ _)
      | (with_reducible exact ih3 _ _ _ _ _ _ _ _ _)
      | (with_reducible exact ih4 _ _ _ _ _ _ _ _ _ _)
      | (with_reducible exact bits_LeadingZeros64.mono _ _)
      | (with_reducible exact LeO.refl _)
      | (with_reducible exact LeO.none _)
      | (with_reducible refine LeO.ite ?_ ?_)
      | (with_reducible refine LeO.bind ?_ (fun _ => ?_))
      | exact ih0 _ _ _ _ _ _ _ _
      | exact ih1 _ _ _ _ _ _ _ _ _
      | exact ih2 _ _ _ _ _ _ _ _ _ _
      | exact ih3 _ _ _ _ _ _ _ _ _
      | exact ih4 _ _ _ _ _ _ _ _ _ _
      | exact bits_LeadingZeros64.mono _ _
      | exact LeO.none _
      | refine LeO.ite ?_ ?_
      | refine LeO.bind ?_ (fun _ => ?_)
set_option maxHeartbeats 8000000 in
set_option maxRecDepth 100000 in
theorem bigall_bitsDiv64.calls (k : Nat) (a0 : Int) (a1 : Int) (a2 : Int) (r1 : Int) (r2 : Int) (w : World) (h : bigall_bitsDiv64.f k a0 a1 a2 = some (r1, r2)) :
    Calls Tryz.prog 100 #[.int .u64 a0, .int .u64 a1, .int .u64 a2] w fun e w' => e = .returned (.tuple #[.int .u64 r1, .int .u64 r2]) ∧ Drawn0 w w' := by
  have H : (if a2 = 0 then (none) else (if a2 ≤ a0 then (none) else (if a0 = 0 then (some (IntKind.u64.wrap (Int.tdiv a1 a2), Int.tmod a1 a2)) else ((bits_LeadingZeros64.f k a2).bind fun t125 => (if 0 ≤ (IntKind.u64.wrap (t125)) then (if 0 ≤ (IntKind.u64.wrap (64 - (IntKind.u64.wrap (t125)))) then (if ((shl .u64 a2 (IntKind.u64.wrap (t125))) / 4294967296) = 0 then (none) else (bigall_bitsDiv64.l0 k (shl .u64 a2 (IntKind.u64.wrap (t125))) (IntKind.u64.wrap (t125)) ((shl .u64 a2 (IntKind.u64.wrap (t125))) / 4294967296) (Go.bits .and .u64 (shl .u64 a2 (IntKind.u64.wrap (t125))) 4294967295) (Go.bits .or .u64 (shl .u64 a0 (IntKind.u64.wrap (t125))) (shr .u64 a1 (IntKind.u64.wrap (64 - (IntKind.u64.wrap (t125)))))) ((shl .u64 a1 (IntKind.u64.wrap (t125))) / 4294967296) (Go.bits .and .u64 (shl .u64 a1 (IntKind.u64.wrap (t125))) 4294967295) (IntKind.u64.wrap (Int.tdiv (Go.bits .or .u64 (shl .u64 a0 (IntKind.u64.wrap (t125))) (shr .u64 a1 (IntKind.u64.wrap (64 - (IntKind.u64.wrap (t125)))))) ((shl .u64 a2 (IntKind.u64.wrap (t125))) / 4294967296))) (IntKind.u64.wrap ((Go.bits .or .u64 (shl .u64 a0 (IntKind.u64.wrap (t125))) (shr .u64 a1 (IntKind.u64.wrap (64 - (IntKind.u64.wrap (t125)))))) - (IntKind.u64.wrap ((IntKind.u64.wrap (Int.tdiv (Go.bits .or .u64 (shl .u64 a0 (IntKind.u64.wrap (t125))) (shr .u64 a1 (IntKind.u64.wrap (64 - (IntKind.u64.wrap (t125)))))) ((shl .u64 a2 (IntKind.u64.wrap (t125))) / 4294967296))) * ((shl .u64 a2 (IntKind.u64.wrap (t125))) / 4294967296))))))) else (none)) else (none)))))) = some (r1, r2) := h
  clear h
  by_cases c4 : a2 = 0
  · rw [if_pos c4] at H
    exact absurd H (by simp)
  · rw [if_neg c4] at H
    have c4b0 : (a2 == 0) = false := beq_eq_false_iff_ne.mpr c4
    have c4b1 : (a2 != 0) = true := bne_iff_ne.mpr c4
    by_cases c5 : a2 ≤ a0
    · rw [if_pos c5] at H
      exact absurd H (by simp)
    · rw [if_neg c5] at H
      have c5b0 : decide (a2 ≤ a0) = false := decide_eq_false c5
      clear c5
      by_cases c6 : a0 = 0
      · rw [if_pos c6] at H
        have c6b0 : (a0 == 0) = true := beq_iff_eq.mpr c6
        have c6b1 : (a0 != 0) = false := bne_eq_false_iff_eq.mpr c6
        clear c6
        simp only [Option.some.injEq, Prod.mk.injEq] at H
        obtain ⟨rfl, rfl⟩ := H
        go_enter Tryz.func100, Tryz.ntmps100
        go_wp2
        repeat (go_quiet (fail); try go_wp2)
        go_ret2
        exact ⟨by first | rfl | (simp; done) | (simp [*]; done), by repeat (first | exact Drawn0.refl _ | apply Drawn0.step)⟩
      · rw [if_neg c6] at H
        have c6b0 : (a0 == 0) = false := beq_eq_false_iff_ne.mpr c6
        have c6b1 : (a0 != 0) = true := bne_iff_ne.mpr c6
        replace H := Option.bind_eq_some_iff.mp H
        obtain ⟨t125, A70, H⟩ := H
        replace H : (if 0 ≤ (IntKind.u64.wrap (t125)) then (if 0 ≤ (IntKind.u64.wrap (64 - (IntKind.u64.wrap (t125)))) then (if ((shl .u64 a2 (IntKind.u64.wrap (t125))) / 4294967296) = 0 then (none) else (bigall_bitsDiv64.l0 k (shl .u64 a2 (IntKind.u64.wrap (t125))) (IntKind.u64.wrap (t125)) ((shl .u64 a2 (IntKind.u64.wrap (t125))) / 4294967296) (Go.bits .and .u64 (shl .u64 a2 (IntKind.u64.wrap (t125))) 4294967295) (Go.bits .or .u64 (shl .u64 a0 (IntKind.u64.wrap (t125))) (shr .u64 a1 (IntKind.u64.wrap (64 - (IntKind.u64.wrap (t125)))))) ((shl .u64 a1 (IntKind.u64.wrap (t125))) / 4294967296) (Go.bits .and .u64 (shl .u64 a1 (IntKind.u64.wrap (t125))) 4294967295) (IntKind.u64.wrap (Int.tdiv (Go.bits .or .u64 (shl .u64 a0 (IntKind.u64.wrap (t125))) (shr .u64 a1 (IntKind.u64.wrap (64 - (IntKind.u64.wrap (t125)))))) ((shl .u64 a2 (IntKind.u64.wrap (t125))) / 4294967296))) (IntKind.u64.wrap ((Go.bits .or .u64 (shl .u64 a0 (IntKind.u64.wrap (t125))) (shr .u64 a1 (IntKind.u64.wrap (64 - (IntKind.u64.wrap (t125)))))) - (IntKind.u64.wrap ((IntKind.u64.wrap (Int.tdiv (Go.bits .or .u64 (shl .u64 a0 (IntKind.u64.wrap (t125))) (shr .u64 a1 (IntKind.u64.wrap (64 - (IntKind.u64.wrap (t125)))))) ((shl .u64 a2 (IntKind.u64.wrap (t125))) / 4294967296))) * ((shl .u64 a2 (IntKind.u64.wrap (t125))) / 4294967296))))))) else (none)) else (none)) = some (r1, r2) := H
        have A7 := Aside0.mk A70
        clear A70
        obtain ⟨ji8, hji8⟩ : ∃ j_ : Int, (IntKind.u64.wrap (t125)) = j_ := ⟨_, rfl⟩
        replace H : (if 0 ≤ (ji8) then (if 0 ≤ (IntKind.u64.wrap (64 - (ji8))) then (if ((shl .u64 a2 (ji8)) / 4294967296) = 0 then (none) else (bigall_bitsDiv64.l0 k (shl .u64 a2 (ji8)) ji8 ((shl .u64 a2 (ji8)) / 4294967296) (Go.bits .and .u64 (shl .u64 a2 (ji8)) 4294967295) (Go.bits .or .u64 (shl .u64 a0 (ji8)) (shr .u64 a1 (IntKind.u64.wrap (64 - (ji8))))) ((shl .u64 a1 (ji8)) / 4294967296) (Go.bits .and .u64 (shl .u64 a1 (ji8)) 4294967295) (IntKind.u64.wrap (Int.tdiv (Go.bits .or .u64 (shl .u64 a0 (ji8)) (shr .u64 a1 (IntKind.u64.wrap (64 - (ji8))))) ((shl .u64 a2 (ji8)) / 4294967296))) (IntKind.u64.wrap ((Go.bits .or .u64 (shl .u64 a0 (ji8)) (shr .u64 a1 (IntKind.u64.wrap (64 - (ji8))))) - (IntKind.u64.wrap ((IntKind.u64.wrap (Int.tdiv (Go.bits .or .u64 (shl .u64 a0 (ji8)) (shr .u64 a1 (IntKind.u64.wrap (64 - (ji8))))) ((shl .u64 a2 (ji8)) / 4294967296))) * ((shl .u64 a2 (ji8)) / 4294967296))))))) else (none)) else (none)) = some (r1, r2) := by first | (rw [hji8] at H; exact H) | (simp only [hji8] at H ⊢; exact H)
        (try rw [hji8] at A7)
        by_cases c9 : 0 ≤ (ji8)
        · rw [if_pos c9] at H
          have c9b0 := eq_true c9
          have c9b1 : decide (0 ≤ (ji8)) = true := decide_eq_true c9
          clear c9
          obtain ⟨ji10, hji10⟩ : ∃ j_ : Int, (shl .u64 a2 (ji8)) = j_ := ⟨_, rfl⟩
          replace H : (if 0 ≤ (IntKind.u64.wrap (64 - (ji8))) then (if ((ji10) / 4294967296) = 0 then (none) else (bigall_bitsDiv64.l0 k ji10 ji8 ((ji10) / 4294967296) (Go.bits .and .u64 (ji10) 4294967295) (Go.bits .or .u64 (shl .u64 a0 (ji8)) (shr .u64 a1 (IntKind.u64.wrap (64 - (ji8))))) ((shl .u64 a1 (ji8)) / 4294967296) (Go.bits .and .u64 (shl .u64 a1 (ji8)) 4294967295) (IntKind.u64.wrap (Int.tdiv (Go.bits .or .u64 (shl .u64 a0 (ji8)) (shr .u64 a1 (IntKind.u64.wrap (64 - (ji8))))) ((ji10) / 4294967296))) (IntKind.u64.wrap ((Go.bits .or .u64 (shl .u64 a0 (ji8)) (shr .u64 a1 (IntKind.u64.wrap (64 - (ji8))))) - (IntKind.u64.wrap ((IntKind.u64.wrap (Int.tdiv (Go.bits .or .u64 (shl .u64 a0 (ji8)) (shr .u64 a1 (IntKind.u64.wrap (64 - (ji8))))) ((ji10) / 4294967296))) * ((ji10) / 4294967296))))))) else (none)) = some (r1, r2) := by first | (rw [hji10] at H; exact H) | (simp only [hji10] at H ⊢; exact H)
          (try rw [hji10] at A7)
          have hji10_ : (IntKind.u64.wrap (a2 * 2 ^ min (ji8).toNat 64)) = ji10 := hji10
          have hji10z : (ji8) ≤ 64 → (IntKind.u64.wrap (a2 * 2 ^ (ji8).toNat)) = ji10 := shl_small hji10
          have c11b0 := eq_true (of_decide_eq_true (by first | (with_reducible assumption) | assumption) : 0 ≤ (ji8))
          obtain ⟨ji12, hji12⟩ : ∃ j_ : Int, (shl .u64 a0 (ji8)) = j_ := ⟨_, rfl⟩
          replace H : (if 0 ≤ (IntKind.u64.wrap (64 - (ji8))) then (if ((ji10) / 4294967296) = 0 then (none) else (bigall_bitsDiv64.l0 k ji10 ji8 ((ji10) / 4294967296) (Go.bits .and .u64 (ji10) 4294967295) (Go.bits .or .u64 (ji12) (shr .u64 a1 (IntKind.u64.wrap (64 - (ji8))))) ((shl .u64 a1 (ji8)) / 4294967296) (Go.bits .and .u64 (shl .u64 a1 (ji8)) 4294967295) (IntKind.u64.wrap (Int.tdiv (Go.bits .or .u64 (ji12) (shr .u64 a1 (IntKind.u64.wrap (64 - (ji8))))) ((ji10) / 4294967296))) (IntKind.u64.wrap ((Go.bits .or .u64 (ji12) (shr .u64 a1 (IntKind.u64.wrap (64 - (ji8))))) - (IntKind.u64.wrap ((IntKind.u64.wrap (Int.tdiv (Go.bits .or .u64 (ji12) (shr .u64 a1 (IntKind.u64.wrap (64 - (ji8))))) ((ji10) / 4294967296))) * ((ji10) / 4294967296))))))) else (none)) = some (r1, r2) := by first | (rw [hji12] at H; exact H) | (simp only [hji12] at H ⊢; exact H)
          (try rw [hji12] at A7)
          have hji12_ : (IntKind.u64.wrap (a0 * 2 ^ min (ji8).toNat 64)) = ji12 := hji12
          have hji12z : (ji8) ≤ 64 → (IntKind.u64.wrap (a0 * 2 ^ (ji8).toNat)) = ji12 := shl_small hji12
          obtain ⟨ji13, hji13⟩ : ∃ j_ : Int, (IntKind.u64.wrap (64 - (ji8))) = j_ := ⟨_, rfl⟩
          replace H : (if 0 ≤ (ji13) then (if ((ji10) / 4294967296) = 0 then (none) else (bigall_bitsDiv64.l0 k ji10 ji8 ((ji10) / 4294967296) (Go.bits .and .u64 (ji10) 4294967295) (Go.bits .or .u64 (ji12) (shr .u64 a1 (ji13))) ((shl .u64 a1 (ji8)) / 4294967296) (Go.bits .and .u64 (shl .u64 a1 (ji8)) 4294967295) (IntKind.u64.wrap (Int.tdiv (Go.bits .or .u64 (ji12) (shr .u64 a1 (ji13))) ((ji10) / 4294967296))) (IntKind.u64.wrap ((Go.bits .or .u64 (ji12) (shr .u64 a1 (ji13))) - (IntKind.u64.wrap ((IntKind.u64.wrap (Int.tdiv (Go.bits .or .u64 (ji12) (shr .u64 a1 (ji13))) ((ji10) / 4294967296))) * ((ji10) / 4294967296))))))) else (none)) = some (r1, r2) := by first | (rw [hji13] at H; exact H) | (simp only [hji13] at H ⊢; exact H)
          (try rw [hji13] at A7)
          by_cases c14 : 0 ≤ (ji13)
          · rw [if_pos c14] at H
            have c14b0 := eq_true c14
            have c14b1 : decide (0 ≤ (ji13)) = true := decide_eq_true c14
            clear c14
            obtain ⟨ji15, hji15⟩ : ∃ j_ : Int, (shr .u64 a1 (ji13)) = j_ := ⟨_, rfl⟩
            replace H : (if ((ji10) / 4294967296) = 0 then (none) else (bigall_bitsDiv64.l0 k ji10 ji8 ((ji10) / 4294967296) (Go.bits .and .u64 (ji10) 4294967295) (Go.bits .or .u64 (ji12) (ji15)) ((shl .u64 a1 (ji8)) / 4294967296) (Go.bits .and .u64 (shl .u64 a1 (ji8)) 4294967295) (IntKind.u64.wrap (Int.tdiv (Go.bits .or .u64 (ji12) (ji15)) ((ji10) / 4294967296))) (IntKind.u64.wrap ((Go.bits .or .u64 (ji12) (ji15)) - (IntKind.u64.wrap ((IntKind.u64.wrap (Int.tdiv (Go.bits .or .u64 (ji12) (ji15)) ((ji10) / 4294967296))) * ((ji10) / 4294967296))))))) = some (r1, r2) := by first | (rw [hji15] at H; exact H) | (simp only [hji15] at H ⊢; exact H)
            (try rw [hji15] at A7)
            have hji15_ : (a1 / 2 ^ min (ji13).toNat 64) = ji15 := hji15
            have hji15z : (ji13) ≤ 64 → (a1 / 2 ^ (ji13).toNat) = ji15 := shr_small hji15
            have c16b0 := eq_true (of_decide_eq_true (by first | (with_reducible assumption) | assumption) : 0 ≤ (ji8))
            obtain ⟨ji17, hji17⟩ : ∃ j_ : Int, (shl .u64 a1 (ji8)) = j_ := ⟨_, rfl⟩
            replace H : (if ((ji10) / 4294967296) = 0 then (none) else (bigall_bitsDiv64.l0 k ji10 ji8 ((ji10) / 4294967296) (Go.bits .and .u64 (ji10) 4294967295) (Go.bits .or .u64 (ji12) (ji15)) ((ji17) / 4294967296) (Go.bits .and .u64 (ji17) 4294967295) (IntKind.u64.wrap (Int.tdiv (Go.bits .or .u64 (ji12) (ji15)) ((ji10) / 4294967296))) (IntKind.u64.wrap ((Go.bits .or .u64 (ji12) (ji15)) - (IntKind.u64.wrap ((IntKind.u64.wrap (Int.tdiv (Go.bits .or .u64 (ji12) (ji15)) ((ji10) / 4294967296))) * ((ji10) / 4294967296))))))) = some (r1, r2) := by first | (rw [hji17] at H; exact H) | (simp only [hji17] at H ⊢; exact H)
            (try rw [hji17] at A7)
            have hji17_ : (IntKind.u64.wrap (a1 * 2 ^ min (ji8).toNat 64)) = ji17 := hji17
            have hji17z : (ji8) ≤ 64 → (IntKind.u64.wrap (a1 * 2 ^ (ji8).toNat)) = ji17 := shl_small hji17
            by_cases c18 : ((ji10) / 4294967296) = 0
            · rw [if_pos c18] at H
              exact absurd H (by simp)
            · rw [if_neg c18] at H
              have c18b0 : (((ji10) / 4294967296) == 0) = false := beq_eq_false_iff_ne.mpr c18
              have c18b1 : (((ji10) / 4294967296) != 0) = true := bne_iff_ne.mpr c18
              have HC19 := Aside0.mk H
              clear H
              go_enter Tryz.func100, Tryz.ntmps100
              go_upto_block 0 with (first | (go_at_call 102; (with_reducible refine (bits_LeadingZeros64.calls k a2 t125 _ A7.out).mono ?_); rintro e w' ⟨rfl, ⟨nd, rfl⟩⟩; (try first | exact ⟨rfl, _, World.drewN_drewN _ _ _⟩ | exact ⟨rfl, _, Eq.trans (World.drewN_drewN _ _ _) (congrArg (World.drewN _) (Nat.add_assoc _ _ _))⟩)))
              repeat (go_quiet (first | (go_at_call 102; (with_reducible refine (bits_LeadingZeros64.calls k a2 t125 _ A7.out).mono ?_); rintro e w' ⟨rfl, ⟨nd, rfl⟩⟩; (try first | exact ⟨rfl, _, World.drewN_drewN _ _ _⟩ | exact ⟨rfl, _, Eq.trans (World.drewN_drewN _ _ _) (congrArg (World.drewN _) (Nat.add_assoc _ _ _))⟩))); go_upto_block 0 with (first | (go_at_call 102; (with_reducible refine (bits_LeadingZeros64.calls k a2 t125 _ A7.out).mono ?_); rintro e w' ⟨rfl, ⟨nd, rfl⟩⟩; (try first | exact ⟨rfl, _, World.drewN_drewN _ _ _⟩ | exact ⟨rfl, _, Eq.trans (World.drewN_drewN _ _ _) (congrArg (World.drewN _) (Nat.add_assoc _ _ _))⟩))))
              (try simp only [Act.put, List.setIfInBounds_toArray, List.set_cons_zero, List.set_cons_succ])
              go_cut [15] (fun v15 wc => ∃ (kq : Nat) (x15_18 : Int), v15 = .int .u64 x15_18 ∧ Aside0 (bigall_bitsDiv64.j2 kq ji10 ji8 ((ji10) / 4294967296) (Go.bits .and .u64 (ji10) 4294967295) (Go.bits .or .u64 (ji12) (ji15)) ((ji17) / 4294967296) (Go.bits .and .u64 (ji17) 4294967295) x15_18 = some (r1, r2)) ∧ Aside0 (kq ≤ k) ∧ Drawn0 w wc)
              case first =>
                have H := HC19.out
                clear HC19
                have H' := Aside0.mk H
                clear H
                go_wp2
                repeat (go_quiet (fail); try go_wp2)
                go_loopg [15, 16] k (fun kq v15 v16 w' => ∃ (x15_1 : Int) (x16_1 : Int), v15 = .int .u64 x15_1 ∧ v16 = .int .u64 x16_1 ∧ Aside0 (bigall_bitsDiv64.l0 kq ji10 ji8 ((ji10) / 4294967296) (Go.bits .and .u64 (ji10) 4294967295) (Go.bits .or .u64 (ji12) (ji15)) ((ji17) / 4294967296) (Go.bits .and .u64 (ji17) 4294967295) x15_1 x16_1 = some (r1, r2)) ∧ Aside0 (kq ≤ k) ∧ Drawn0 w w')
                case atStart => exact ⟨(IntKind.u64.wrap (Int.tdiv (Go.bits .or .u64 (ji12) (ji15)) ((ji10) / 4294967296))), (IntKind.u64.wrap ((Go.bits .or .u64 (ji12) (ji15)) - (IntKind.u64.wrap ((IntKind.u64.wrap (Int.tdiv (Go.bits .or .u64 (ji12) (ji15)) ((ji10) / 4294967296))) * ((ji10) / 4294967296))))), (by first | rfl | (simp; done) | (simp only [← hji10, ← hji12, ← hji15] <;> (first | rfl | simp)) | (simp [*]; done)), (by first | rfl | (simp; done) | (simp only [← hji10, ← hji12, ← hji15] <;> (first | rfl | simp)) | (simp [*]; done)), H', ⟨Nat.le_refl _⟩, by repeat (first | exact Drawn0.refl _ | apply Drawn0.step)⟩
                case round =>
                  clear H'
                  try clear c1
                  try clear p2
                  try clear c4
                  try clear c4b0
                  try clear c4b1
                  try clear c5
                  try clear c5b0
                  try clear c6
                  try clear c6b0
                  try clear c6b1
                  try clear c9
                  try clear c9b0
                  try clear c9b1
                  try clear c10
                  try clear c11
                  try clear c11b0
                  try clear c14
                  try clear c14b0
                  try clear c14b1
                  try clear c16
                  try clear c16b0
                  try clear c18
                  try clear c18b0
                  try clear c18b1
                  obtain ⟨x15_1, x16_1, rfl, rfl, HA, HK1, ⟨m1, rfl⟩⟩ := hrel
                  cases gk with
                  | zero => exact absurd HA.out (by simp [bigall_bitsDiv64.l0])
                  | succ k1 =>
                    have H := HA.out
                    clear HA
                    simp only [bigall_bitsDiv64.l0] at H
                    have HC20 := Aside0.mk H
                    clear H
                    go_upto_region 17 with (fail)
                    repeat (go_quiet (fail); go_upto_region 17 with (fail))
                    go_cut [78] (fun v78 wc => ∃ (kq : Nat) (x78_19 : Bool), v78 = .bool x78_19 ∧ Aside0 (bigall_bitsDiv64.j1 kq ji10 ji8 ((ji10) / 4294967296) (Go.bits .and .u64 (ji10) 4294967295) (Go.bits .or .u64 (ji12) (ji15)) ((ji17) / 4294967296) (Go.bits .and .u64 (ji17) 4294967295) x15_1 x16_1 x78_19 = some (r1, r2)) ∧ Aside0 (kq ≤ k1) ∧ Drawn0 w wc)
                    case first =>
                      have H := HC20.out
                      clear HC20
                      by_cases c21 : x15_1 ≥ 4294967296
                      · rw [if_pos c21] at H
                        have c21b0 : decide (4294967296 ≤ x15_1) = true := decide_eq_true c21
                        clear c21
                        (first | rw [c21b0] | (simp only [i64_w, i32_w]; rw [c21b0]) | skip)
                        have H' := Aside0.mk H
                        clear H
                        go_wp2
                        repeat (go_quiet (fail); try go_wp2)
                        go_meet
                        case rel => exact ⟨_, (true), (by first | rfl | (simp; done) | (simp [*]; done)), H', ⟨by have := HK1.out; first | omega | exact Nat.le_refl _⟩, by repeat (first | exact Drawn0.refl _ | apply Drawn0.step)⟩
                      · rw [if_neg c21] at H
                        have c21b0 : decide (4294967296 ≤ x15_1) = false := decide_eq_false c21
                        clear c21
                        (first | rw [c21b0] | (simp only [i64_w, i32_w]; rw [c21b0]) | skip)
                        have H' := Aside0.mk H
                        clear H
                        go_wp2
                        repeat (go_quiet (fail); try go_wp2)
                        go_meet
                        case rel => exact ⟨_, (decide ((IntKind.u64.wrap (x15_1 * (Go.bits .and .u64 (ji10) 4294967295))) > (IntKind.u64.wrap ((IntKind.u64.wrap (4294967296 * x16_1)) + ((ji17) / 4294967296))))), (by first | rfl | (simp; done) | (simp only [← hji10, ← hji17] <;> (first | rfl | simp)) | (simp [*]; done)), H', ⟨by have := HK1.out; first | omega | exact Nat.le_refl _⟩, by repeat (first | exact Drawn0.refl _ | apply Drawn0.step)⟩
                    case rest =>
                      clear HC20
                      try clear c1
                      try clear c2
                      try clear p2
                      try clear c4
                      try clear c4b0
                      try clear c4b1
                      try clear c5
                      try clear c5b0
                      try clear c6
                      try clear c6b0
                      try clear c6b1
                      try clear c9
                      try clear c9b0
                      try clear c9b1
                      try clear c10
                      try clear c11
                      try clear c11b0
                      try clear c14
                      try clear c14b0
                      try clear c14b1
                      try clear c16
                      try clear c16b0
                      try clear c18
                      try clear c18b0
                      try clear c18b1
                      try clear c21
                      try clear c21b0
                      try clear p2
                      obtain ⟨kq, x78_19, rfl, HA, HJ19, ⟨mc19, rfl⟩⟩ := hcut
                      cases kq with
                      | zero => exact absurd HA.out (by simp [bigall_bitsDiv64.j1])
                      | succ kj19 =>
                        have H := HA.out
                        clear HA
                        simp only [bigall_bitsDiv64.j1] at H
                        by_cases c22 : x78_19 = true
                        · subst c22
                          have H1 : (if (IntKind.u64.wrap (x16_1 + ((ji10) / 4294967296))) ≥ 4294967296 then (bigall_bitsDiv64.j2 kj19 ji10 ji8 ((ji10) / 4294967296) (Go.bits .and .u64 (ji10) 4294967295) (Go.bits .or .u64 (ji12) (ji15)) ((ji17) / 4294967296) (Go.bits .and .u64 (ji17) 4294967295) (IntKind.u64.wrap (x15_1 - 1))) else (bigall_bitsDiv64.l0 kj19 ji10 ji8 ((ji10) / 4294967296) (Go.bits .and .u64 (ji10) 4294967295) (Go.bits .or .u64 (ji12) (ji15)) ((ji17) / 4294967296) (Go.bits .and .u64 (ji17) 4294967295) (IntKind.u64.wrap (x15_1 - 1)) (IntKind.u64.wrap (x16_1 + ((ji10) / 4294967296))))) = some (r1, r2) := by rw [if_pos rfl] at H; exact H
                          clear H
                          have H := H1
                          clear H1
                          by_cases c23 : (IntKind.u64.wrap (x16_1 + ((ji10) / 4294967296))) ≥ 4294967296
                          · rw [if_pos c23] at H
                            have c23b0 : decide (4294967296 ≤ (IntKind.u64.wrap (x16_1 + ((ji10) / 4294967296)))) = true := decide_eq_true c23
                            clear c23
                            have H' := Aside0.mk H
                            clear H
                            go_wp2
                            repeat (go_quiet (fail); try go_wp2)
                            go_meet
                            case rel => exact ⟨_, (IntKind.u64.wrap (x15_1 - 1)), (by first | rfl | (simp; done) | (simp [*]; done)), H', ⟨by have := HK1.out; have := HJ19.out; first | omega | exact Nat.le_refl _⟩, by repeat (first | exact Drawn0.refl _ | apply Drawn0.step)⟩
                          · rw [if_neg c23] at H
                            have c23b0 : decide (4294967296 ≤ (IntKind.u64.wrap (x16_1 + ((ji10) / 4294967296)))) = false := decide_eq_false c23
                            clear c23
                            have H' := Aside0.mk H
                            clear H
                            go_wp2
                            repeat (go_quiet (fail); try go_wp2)
                            go_roundg kj19
                            case measure => have := HK1.out; have := HJ19.out; omega
                            case rel => exact ⟨(IntKind.u64.wrap (x15_1 - 1)), (IntKind.u64.wrap (x16_1 + ((ji10) / 4294967296))), (by first | rfl | (simp; done) | (simp [*]; done)), (by first | rfl | (simp; done) | (simp only [← hji10] <;> (first | rfl | simp)) | (simp [*]; done)), H', ⟨by have := HK1.out; have := HJ19.out; omega⟩, by repeat (first | exact Drawn0.refl _ | apply Drawn0.step)⟩
                        · replace c22 := Bool.eq_false_iff.mpr c22
                          subst c22
                          have H1 : (bigall_bitsDiv64.j2 kj19 ji10 ji8 ((ji10) / 4294967296) (Go.bits .and .u64 (ji10) 4294967295) (Go.bits .or .u64 (ji12) (ji15)) ((ji17) / 4294967296) (Go.bits .and .u64 (ji17) 4294967295) x15_1) = some (r1, r2) := by rw [if_neg (show ¬ (false = true) by decide)] at H; exact H
                          clear H
                          have H := H1
                          clear H1
                          have H' := Aside0.mk H
                          clear H
                          go_wp2
                          repeat (go_quiet (fail); try go_wp2)
                          go_meet
                          case rel => exact ⟨_, (x15_1), (by first | rfl | (simp; done) | (simp [*]; done)), H', ⟨by have := HK1.out; have := HJ19.out; first | omega | exact Nat.le_refl _⟩, by repeat (first | exact Drawn0.refl _ | apply Drawn0.step)⟩
              case rest =>
                clear HC19
                try clear c1
                try clear c2
                try clear p2
                try clear c4
                try clear c4b0
                try clear c4b1
                try clear c5
                try clear c5b0
                try clear c6
                try clear c6b0
                try clear c6b1
                try clear c9
                try clear c9b0
                try clear c9b1
                try clear c10
                try clear c11
                try clear c11b0
                try clear c14
                try clear c14b0
                try clear c14b1
                try clear c16
                try clear c16b0
                try clear c18
                try clear c18b0
                try clear c18b1
                try clear c19
                try clear c21
                try clear c21b0
                try clear c22
                try clear c23
                try clear c23b0
                try clear p2
                obtain ⟨kq, x15_18, rfl, HA, HJ18, ⟨mc18, rfl⟩⟩ := hcut
                cases kq with
                | zero => exact absurd HA.out (by simp [bigall_bitsDiv64.j2])
                | succ kj18 =>
                  have H := HA.out
                  clear HA
                  simp only [bigall_bitsDiv64.j2] at H
                  by_cases c24 : ((ji10) / 4294967296) = 0
                  · rw [if_pos c24] at H
                    exact absurd H (by simp)
                  · rw [if_neg c24] at H
                    have c24b0 : (((ji10) / 4294967296) == 0) = false := beq_eq_false_iff_ne.mpr c24
                    have c24b1 : (((ji10) / 4294967296) != 0) = true := bne_iff_ne.mpr c24
                    have H' := Aside0.mk H
                    clear H
                    go_wp2
                    repeat (go_quiet (fail); try go_wp2)
                    go_loopg [16, 18] kj18 (fun kq v16 v18 w' => ∃ (x16_2 : Int) (x18_2 : Int), v16 = .int .u64 x16_2 ∧ v18 = .int .u64 x18_2 ∧ Aside0 (bigall_bitsDiv64.l1 kq ji10 ji8 ((ji10) / 4294967296) (Go.bits .and .u64 (ji10) 4294967295) (Go.bits .and .u64 (ji17) 4294967295) x15_18 x16_2 (IntKind.u64.wrap ((IntKind.u64.wrap ((IntKind.u64.wrap ((Go.bits .or .u64 (ji12) (ji15)) * 4294967296)) + ((ji17) / 4294967296))) - (IntKind.u64.wrap (x15_18 * ji10)))) x18_2 = some (r1, r2)) ∧ Aside0 (kq ≤ kj18) ∧ Drawn0 w w')
                    case atStart => exact ⟨(IntKind.u64.wrap ((IntKind.u64.wrap ((IntKind.u64.wrap ((IntKind.u64.wrap ((Go.bits .or .u64 (ji12) (ji15)) * 4294967296)) + ((ji17) / 4294967296))) - (IntKind.u64.wrap (x15_18 * ji10)))) - (IntKind.u64.wrap ((IntKind.u64.wrap (Int.tdiv (IntKind.u64.wrap ((IntKind.u64.wrap ((IntKind.u64.wrap ((Go.bits .or .u64 (ji12) (ji15)) * 4294967296)) + ((ji17) / 4294967296))) - (IntKind.u64.wrap (x15_18 * ji10)))) ((ji10) / 4294967296))) * ((ji10) / 4294967296))))), (IntKind.u64.wrap (Int.tdiv (IntKind.u64.wrap ((IntKind.u64.wrap ((IntKind.u64.wrap ((Go.bits .or .u64 (ji12) (ji15)) * 4294967296)) + ((ji17) / 4294967296))) - (IntKind.u64.wrap (x15_18 * ji10)))) ((ji10) / 4294967296))), (by first | rfl | (simp; done) | (simp only [← hji10, ← hji12, ← hji15, ← hji17] <;> (first | rfl | simp)) | (simp [*]; done)), (by first | rfl | (simp; done) | (simp only [← hji10, ← hji12, ← hji15, ← hji17] <;> (first | rfl | simp)) | (simp [*]; done)), H', ⟨Nat.le_refl _⟩, by repeat (first | exact Drawn0.refl _ | apply Drawn0.step)⟩
                    case round =>
                      clear H'
                      try clear c1
                      try clear c2
                      try clear p2
                      try clear c4
                      try clear c4b0
                      try clear c4b1
                      try clear c5
                      try clear c5b0
                      try clear c6
                      try clear c6b0
                      try clear c6b1
                      try clear c9
                      try clear c9b0
                      try clear c9b1
                      try clear c10
                      try clear c11
                      try clear c11b0
                      try clear c14
                      try clear c14b0
                      try clear c14b1
                      try clear c16
                      try clear c16b0
                      try clear c18
                      try clear c18b0
                      try clear c18b1
                      try clear c19
                      try clear c21
                      try clear c21b0
                      try clear c22
                      try clear c23
                      try clear c23b0
                      try clear c24
                      try clear c24b0
                      try clear c24b1
                      try clear p2
                      obtain ⟨x16_2, x18_2, rfl, rfl, HA, HK2, ⟨m2, rfl⟩⟩ := hrel
                      cases gk with
                      | zero => exact absurd HA.out (by simp [bigall_bitsDiv64.l1])
                      | succ k2 =>
                        have H := HA.out
                        clear HA
                        simp only [bigall_bitsDiv64.l1] at H
                        have HC25 := Aside0.mk H
                        clear H
                        go_upto_region 24 with (fail)
                        repeat (go_quiet (fail); go_upto_region 24 with (fail))
                        go_cut [113] (fun v113 wc => ∃ (kq : Nat) (x113_24 : Bool), v113 = .bool x113_24 ∧ Aside0 (bigall_bitsDiv64.j4 kq ji10 ji8 ((ji10) / 4294967296) (Go.bits .and .u64 (ji10) 4294967295) (Go.bits .and .u64 (ji17) 4294967295) x15_18 x16_2 (IntKind.u64.wrap ((IntKind.u64.wrap ((IntKind.u64.wrap ((Go.bits .or .u64 (ji12) (ji15)) * 4294967296)) + ((ji17) / 4294967296))) - (IntKind.u64.wrap (x15_18 * ji10)))) x18_2 x113_24 = some (r1, r2)) ∧ Aside0 (kq ≤ k2) ∧ Drawn0 w wc)
                        case first =>
                          have H := HC25.out
                          clear HC25
                          by_cases c26 : x18_2 ≥ 4294967296
                          · rw [if_pos c26] at H
                            have c26b0 : decide (4294967296 ≤ x18_2) = true := decide_eq_true c26
                            clear c26
                            (first | rw [c26b0] | (simp only [i64_w, i32_w]; rw [c26b0]) | skip)
                            have H' := Aside0.mk H
                            clear H
                            go_wp2
                            repeat (go_quiet (fail); try go_wp2)
                            go_meet
                            case rel => exact ⟨_, (true), (by first | rfl | (simp; done) | (simp [*]; done)), H', ⟨by have := HJ18.out; have := HK2.out; first | omega | exact Nat.le_refl _⟩, by repeat (first | exact Drawn0.refl _ | apply Drawn0.step)⟩
                          · rw [if_neg c26] at H
                            have c26b0 : decide (4294967296 ≤ x18_2) = false := decide_eq_false c26
                            clear c26
                            (first | rw [c26b0] | (simp only [i64_w, i32_w]; rw [c26b0]) | skip)
                            have H' := Aside0.mk H
                            clear H
                            go_wp2
                            repeat (go_quiet (fail); try go_wp2)
                            go_meet
                            case rel => exact ⟨_, (decide ((IntKind.u64.wrap (x18_2 * (Go.bits .and .u64 (ji10) 4294967295))) > (IntKind.u64.wrap ((IntKind.u64.wrap (4294967296 * x16_2)) + (Go.bits .and .u64 (ji17) 4294967295))))), (by first | rfl | (simp; done) | (simp only [← hji10, ← hji17] <;> (first | rfl | simp)) | (simp [*]; done)), H', ⟨by have := HJ18.out; have := HK2.out; first | omega | exact Nat.le_refl _⟩, by repeat (first | exact Drawn0.refl _ | apply Drawn0.step)⟩
                        case rest =>
                          clear HC25
                          try clear c1
                          try clear c2
                          try clear p2
                          try clear c4
                          try clear c4b0
                          try clear c4b1
                          try clear c5
                          try clear c5b0
                          try clear c6
                          try clear c6b0
                          try clear c6b1
                          try clear c9
                          try clear c9b0
                          try clear c9b1
                          try clear c10
                          try clear c11
                          try clear c11b0
                          try clear c14
                          try clear c14b0
                          try clear c14b1
                          try clear c16
                          try clear c16b0
                          try clear c18
                          try clear c18b0
                          try clear c18b1
                          try clear c19
                          try clear c21
                          try clear c21b0
                          try clear c22
                          try clear c23
                          try clear c23b0
                          try clear c24
                          try clear c24b0
                          try clear c24b1
                          try clear c26
                          try clear c26b0
                          try clear p2
                          obtain ⟨kq, x113_24, rfl, HA, HJ24, ⟨mc24, rfl⟩⟩ := hcut
                          cases kq with
                          | zero => exact absurd HA.out (by simp [bigall_bitsDiv64.j4])
                          | succ kj24 =>
                            have H := HA.out
                            clear HA
                            simp only [bigall_bitsDiv64.j4] at H
                            by_cases c27 : x113_24 = true
                            · subst c27
                              have H1 : (if (IntKind.u64.wrap (x16_2 + ((ji10) / 4294967296))) ≥ 4294967296 then (if 0 ≤ ji8 then (some (IntKind.u64.wrap ((IntKind.u64.wrap (x15_18 * 4294967296)) + (IntKind.u64.wrap (x18_2 - 1))), shr .u64 (IntKind.u64.wrap ((IntKind.u64.wrap ((IntKind.u64.wrap ((IntKind.u64.wrap ((IntKind.u64.wrap ((IntKind.u64.wrap ((Go.bits .or .u64 (ji12) (ji15)) * 4294967296)) + ((ji17) / 4294967296))) - (IntKind.u64.wrap (x15_18 * ji10)))) * 4294967296)) + (Go.bits .and .u64 (ji17) 4294967295))) - (IntKind.u64.wrap ((IntKind.u64.wrap (x18_2 - 1)) * ji10)))) ji8)) else (none)) else (bigall_bitsDiv64.l1 kj24 ji10 ji8 ((ji10) / 4294967296) (Go.bits .and .u64 (ji10) 4294967295) (Go.bits .and .u64 (ji17) 4294967295) x15_18 (IntKind.u64.wrap (x16_2 + ((ji10) / 4294967296))) (IntKind.u64.wrap ((IntKind.u64.wrap ((IntKind.u64.wrap ((Go.bits .or .u64 (ji12) (ji15)) * 4294967296)) + ((ji17) / 4294967296))) - (IntKind.u64.wrap (x15_18 * ji10)))) (IntKind.u64.wrap (x18_2 - 1)))) = some (r1, r2) := by rw [if_pos rfl] at H; exact H
                              clear H
                              have H := H1
                              clear H1
                              by_cases c28 : (IntKind.u64.wrap (x16_2 + ((ji10) / 4294967296))) ≥ 4294967296
                              · rw [if_pos c28] at H
                                have c28b0 : decide (4294967296 ≤ (IntKind.u64.wrap (x16_2 + ((ji10) / 4294967296)))) = true := decide_eq_true c28
                                clear c28
                                by_cases c29 : 0 ≤ ji8
                                · rw [if_pos c29] at H
                                  have c29b0 := eq_true c29
                                  have c29b1 : decide (0 ≤ ji8) = true := decide_eq_true c29
                                  clear c29
                                  obtain ⟨ji30, hji30⟩ : ∃ j_ : Int, (shr .u64 (IntKind.u64.wrap ((IntKind.u64.wrap ((IntKind.u64.wrap ((IntKind.u64.wrap ((IntKind.u64.wrap ((IntKind.u64.wrap ((Go.bits .or .u64 (ji12) (ji15)) * 4294967296)) + ((ji17) / 4294967296))) - (IntKind.u64.wrap (x15_18 * ji10)))) * 4294967296)) + (Go.bits .and .u64 (ji17) 4294967295))) - (IntKind.u64.wrap ((IntKind.u64.wrap (x18_2 - 1)) * ji10)))) ji8) = j_ := ⟨_, rfl⟩
                                  replace H : (some (IntKind.u64.wrap ((IntKind.u64.wrap (x15_18 * 4294967296)) + (IntKind.u64.wrap (x18_2 - 1))), ji30)) = some (r1, r2) := by first | (rw [hji30] at H; exact H) | (simp only [hji30] at H ⊢; exact H)
                                  have hji30_ : ((IntKind.u64.wrap ((IntKind.u64.wrap ((IntKind.u64.wrap ((IntKind.u64.wrap ((IntKind.u64.wrap ((IntKind.u64.wrap ((Go.bits .or .u64 (ji12) (ji15)) * 4294967296)) + ((ji17) / 4294967296))) - (IntKind.u64.wrap (x15_18 * ji10)))) * 4294967296)) + (Go.bits .and .u64 (ji17) 4294967295))) - (IntKind.u64.wrap ((IntKind.u64.wrap (x18_2 - 1)) * ji10)))) / 2 ^ min ji8.toNat 64) = ji30 := hji30
                                  have hji30z : ji8 ≤ 64 → ((IntKind.u64.wrap ((IntKind.u64.wrap ((IntKind.u64.wrap ((IntKind.u64.wrap ((IntKind.u64.wrap ((IntKind.u64.wrap ((Go.bits .or .u64 (ji12) (ji15)) * 4294967296)) + ((ji17) / 4294967296))) - (IntKind.u64.wrap (x15_18 * ji10)))) * 4294967296)) + (Go.bits .and .u64 (ji17) 4294967295))) - (IntKind.u64.wrap ((IntKind.u64.wrap (x18_2 - 1)) * ji10)))) / 2 ^ ji8.toNat) = ji30 := shr_small hji30
                                  simp only [Option.some.injEq, Prod.mk.injEq] at H
                                  obtain ⟨rfl, rfl⟩ := H
                                  go_wp2
                                  repeat (go_quiet (fail); try go_wp2)
                                  go_ret2
                                  exact ⟨by first | rfl | (simp; done) | (simp only [← hji8, ← hji10, ← hji12, ← hji13, ← hji15, ← hji17, ← hji30] <;> (first | rfl | simp)) | (simp [*]; done), by repeat (first | exact Drawn0.refl _ | apply Drawn0.step)⟩
                                · rw [if_neg c29] at H
                                  exact absurd H (by simp)
                              · rw [if_neg c28] at H
                                have c28b0 : decide (4294967296 ≤ (IntKind.u64.wrap (x16_2 + ((ji10) / 4294967296)))) = false := decide_eq_false c28
                                clear c28
                                have H' := Aside0.mk H
                                clear H
                                go_wp2
                                repeat (go_quiet (fail); try go_wp2)
                                go_roundg kj24
                                case measure => have := HJ18.out; have := HK2.out; have := HJ24.out; omega
                                case rel => exact ⟨(IntKind.u64.wrap (x16_2 + ((ji10) / 4294967296))), (IntKind.u64.wrap (x18_2 - 1)), (by first | rfl | (simp; done) | (simp only [← hji10] <;> (first | rfl | simp)) | (simp [*]; done)), (by first | rfl | (simp; done) | (simp [*]; done)), H', ⟨by have := HJ18.out; have := HK2.out; have := HJ24.out; omega⟩, by repeat (first | exact Drawn0.refl _ | apply Drawn0.step)⟩
                            · replace c27 := Bool.eq_false_iff.mpr c27
                              subst c27
                              have H1 : (if 0 ≤ ji8 then (some (IntKind.u64.wrap ((IntKind.u64.wrap (x15_18 * 4294967296)) + x18_2), shr .u64 (IntKind.u64.wrap ((IntKind.u64.wrap ((IntKind.u64.wrap ((IntKind.u64.wrap ((IntKind.u64.wrap ((IntKind.u64.wrap ((Go.bits .or .u64 (ji12) (ji15)) * 4294967296)) + ((ji17) / 4294967296))) - (IntKind.u64.wrap (x15_18 * ji10)))) * 4294967296)) + (Go.bits .and .u64 (ji17) 4294967295))) - (IntKind.u64.wrap (x18_2 * ji10)))) ji8)) else (none)) = some (r1, r2) := by rw [if_neg (show ¬ (false = true) by decide)] at H; exact H
                              clear H
                              have H := H1
                              clear H1
                              by_cases c31 : 0 ≤ ji8
                              · rw [if_pos c31] at H
                                have c31b0 := eq_true c31
                                have c31b1 : decide (0 ≤ ji8) = true := decide_eq_true c31
                                clear c31
                                obtain ⟨ji32, hji32⟩ : ∃ j_ : Int, (shr .u64 (IntKind.u64.wrap ((IntKind.u64.wrap ((IntKind.u64.wrap ((IntKind.u64.wrap ((IntKind.u64.wrap ((IntKind.u64.wrap ((Go.bits .or .u64 (ji12) (ji15)) * 4294967296)) + ((ji17) / 4294967296))) - (IntKind.u64.wrap (x15_18 * ji10)))) * 4294967296)) + (Go.bits .and .u64 (ji17) 4294967295))) - (IntKind.u64.wrap (x18_2 * ji10)))) ji8) = j_ := ⟨_, rfl⟩
                                replace H : (some (IntKind.u64.wrap ((IntKind.u64.wrap (x15_18 * 4294967296)) + x18_2), ji32)) = some (r1, r2) := by first | (rw [hji32] at H; exact H) | (simp only [hji32] at H ⊢; exact H)
                                have hji32_ : ((IntKind.u64.wrap ((IntKind.u64.wrap ((IntKind.u64.wrap ((IntKind.u64.wrap ((IntKind.u64.wrap ((IntKind.u64.wrap ((Go.bits .or .u64 (ji12) (ji15)) * 4294967296)) + ((ji17) / 4294967296))) - (IntKind.u64.wrap (x15_18 * ji10)))) * 4294967296)) + (Go.bits .and .u64 (ji17) 4294967295))) - (IntKind.u64.wrap (x18_2 * ji10)))) / 2 ^ min ji8.toNat 64) = ji32 := hji32
                                have hji32z : ji8 ≤ 64 → ((IntKind.u64.wrap ((IntKind.u64.wrap ((IntKind.u64.wrap ((IntKind.u64.wrap ((IntKind.u64.wrap ((IntKind.u64.wrap ((Go.bits .or .u64 (ji12) (ji15)) * 4294967296)) + ((ji17) / 4294967296))) - (IntKind.u64.wrap (x15_18 * ji10)))) * 4294967296)) + (Go.bits .and .u64 (ji17) 4294967295))) - (IntKind.u64.wrap (x18_2 * ji10)))) / 2 ^ ji8.toNat) = ji32 := shr_small hji32
                                simp only [Option.some.injEq, Prod.mk.injEq] at H
                                obtain ⟨rfl, rfl⟩ := H
                                go_wp2
                                repeat (go_quiet (fail); try go_wp2)
                                go_ret2
                                exact ⟨by first | rfl | (simp; done) | (simp only [← hji8, ← hji10, ← hji12, ← hji13, ← hji15, ← hji17, ← hji32] <;> (first | rfl | simp)) | (simp [*]; done), by repeat (first | exact Drawn0.refl _ | apply Drawn0.step)⟩
                              · rw [if_neg c31] at H
                                exact absurd H (by simp)
          · rw [if_neg c14] at H
            exact absurd H (by simp)
        · rw [if_neg c9] at H
          exact absurd H (by simp)

/-! ### bigall_bitsDiv: function 85 -/
def bigall_bitsDiv.f (k : Nat) (a0 : Int) (a1 : Int) (a2 : Int) : Option (Int × Int) := (bigall_bitsDiv64.f k a0 a1 a2).bind fun bt126 => (some (bt126.1, bt126.2))
theorem bigall_bitsDiv.mono : ∀ a0 a1 a2 k, LeO (bigall_bitsDiv.f k a0 a1 a2) (bigall_bitsDiv.f (k + 1) a0 a1 a2) := by
  intro a0 a1 a2 k
  unfold bigall_bitsDiv.f
  repeat' first
      | (with_reducible exact bigall_bitsDiv64.mono _ _ _ _)
      | (with_reducible exact LeO.refl _)
      | (with_reducible exact LeO.none _)
      | (with_reducible refine LeO.ite ?_ ?_)
      | (with_reducible refine LeO.bind ?_ (fun _ => ?_))
      | exact bigall_bitsDiv64.mono _ _ _ _
      | exact LeO.none _
      | refine LeO.ite ?_ ?_
      | refine LeO.bind ?_ (fun _ => ?_)
set_option maxHeartbeats 8000000 in
set_option maxRecDepth 100000 in
theorem bigall_bitsDiv.calls (k : Nat) (a0 : Int) (a1 : Int) (a2 : Int) (r1 : Int) (r2 : Int) (w : World) (h : bigall_bitsDiv.f k a0 a1 a2 = some (r1, r2)) :
    Calls Tryz.prog 85 #[.int .u64 a0, .int .u64 a1, .int .u64 a2] w fun e w' => e = .returned (.tuple #[.int .u64 r1, .int .u64 r2]) ∧ Drawn0 w w' := by
  have H : ((bigall_bitsDiv64.f k a0 a1 a2).bind fun bt126 => (some (bt126.1, bt126.2))) = some (r1, r2) := h
  clear h
  replace H := Option.bind_eq_some_iff.mp H
  obtain ⟨⟨t126, t127⟩, A40, H⟩ := H
  replace H : (some (t126, t127)) = some (r1, r2) := H
  have A4 := Aside0.mk A40
  clear A40
  simp only [Option.some.injEq, Prod.mk.injEq] at H
  obtain ⟨rfl, rfl⟩ := H
  go_enter Tryz.func85, Tryz.ntmps85
  go_wp2_with (first | ((with_reducible refine gate_callee (f := 100) rfl ?_); refine goesL_ (some 14) rfl rfl Tryz.func100 (by kernel_rfl) rfl #[.int .u64 a0, .int .u64 a1, .int .u64 a2] rfl (by (try simp only [List.map_toArray, List.map_cons, List.map_nil]); first | done | rfl | (simp only [List.length_drop, List.length_take]; rfl)) ?_; (with_reducible refine (bigall_bitsDiv64.calls k a0 a1 a2 t126 t127 _ A4.out).mono ?_); rintro e w' ⟨rfl, ⟨nd, rfl⟩⟩; refine ⟨_, rfl, ?_⟩))
  go_ret2
  exact ⟨by first | rfl | (simp; done) | (simp [*]; done), by repeat (first | exact Drawn0.refl _ | apply Drawn0.step)⟩

/-! ### bigall_nlz: function 71 -/
def bigall_nlz.f (k : Nat) (a0 : Int) : Option (Int) := (bits_LeadingZeros.f k a0).bind fun t130 => (some (IntKind.u64.wrap (t130)))
theorem bigall_nlz.mono : ∀ a0 k, LeO (bigall_nlz.f k a0) (bigall_nlz.f (k + 1) a0) := by
  intro a0 k
  unfold bigall_nlz.f
  repeat' first
      | (with_reducible exact bits_LeadingZeros.mono _ _)
      | (with_reducible exact LeO.refl _)
      | (with_reducible exact LeO.none _)
      | (with_reducible refine LeO.ite ?_ ?_)
      | (with_reducible refine LeO.bind ?_ (fun _ => ?_))
      | exact bits_LeadingZeros.mono _ _
      | exact LeO.none _
      | refine LeO.ite ?_ ?_
      | refine LeO.bind ?_ (fun _ => ?_)
set_option maxHeartbeats 8000000 in
set_option maxRecDepth 100000 in
theorem bigall_nlz.calls (k : Nat) (a0 : Int) (r : Int) (w : World) (h : bigall_nlz.f k a0 = some r) :
    Calls Tryz.prog 71 #[.int .u64 a0] w fun e w' => e = .returned (.int .u64 r) ∧ Drawn0 w w' := by
  have H : ((bits_LeadingZeros.f k a0).bind fun t130 => (some (IntKind.u64.wrap (t130)))) = some r := h
  clear h
  replace H := Option.bind_eq_some_iff.mp H
  obtain ⟨t130, A20, H⟩ := H
  replace H : (some (IntKind.u64.wrap (t130))) = some r := H
  have A2 := Aside0.mk A20
  clear A20
  obtain rfl := Option.some.inj H
  go_enter Tryz.func71, Tryz.ntmps71
  go_wp2_with (first | ((with_reducible refine gate_callee (f := 88) rfl ?_); refine goesL_ (some 4) rfl rfl Tryz.func88 (by kernel_rfl) rfl #[.int .u64 a0] rfl (by (try simp only [List.map_toArray, List.map_cons, List.map_nil]); first | done | rfl | (simp only [List.length_drop, List.length_take]; rfl)) ?_; (with_reducible refine (bits_LeadingZeros.calls k a0 t130 _ A2.out).mono ?_); rintro e w' ⟨rfl, ⟨nd, rfl⟩⟩; refine ⟨_, rfl, ?_⟩))
  go_ret
  exact ⟨by first | rfl | (simp; done) | (simp [*]; done), by repeat (first | exact Drawn0.refl _ | apply Drawn0.step)⟩

/-! ### bigall_reciprocalWord: function 86 -/
def bigall_reciprocalWord.f (k : Nat) (a0 : Int) : Option (Int) := (bigall_nlz.f k a0).bind fun t131 => (if 0 ≤ t131 then ((bigall_bitsDiv.f k (Go.bits .xor .u64 IntKind.u64.max (shl .u64 a0 t131)) 18446744073709551615 (shl .u64 a0 t131)).bind fun bt132 => (some bt132.1)) else (none))
theorem bigall_reciprocalWord.mono : ∀ a0 k, LeO (bigall_reciprocalWord.f k a0) (bigall_reciprocalWord.f (k + 1) a0) := by
  intro a0 k
  unfold bigall_reciprocalWord.f
  repeat' first
      | (with_reducible exact bigall_bitsDiv.mono _ _ _ _)
      | (with_reducible exact bigall_nlz.mono _ _)
      | (with_reducible exact LeO.refl _)
      | (with_reducible exact LeO.none _)
      | (with_reducible refine LeO.ite ?_ ?_)
      | (with_reducible refine LeO.bind ?_ (fun _ => ?_))
      | exact bigall_bitsDiv.mono _ _ _ _
      | exact bigall_nlz.mono _ _
      | exact LeO.none _
      | refine LeO.ite ?_ ?_
      | refine LeO.bind ?_ (fun _ => ?_)
set_option maxHeartbeats 8000000 in
set_option maxRecDepth 100000 in
theorem bigall_reciprocalWord.calls (k : Nat) (a0 : Int) (r : Int) (w : World) (h : bigall_reciprocalWord.f k a0 = some r) :
    Calls Tryz.prog 86 #[.int .u64 a0] w fun e w' => e = .returned (.int .u64 r) ∧ Drawn0 w w' := by
  have H : ((bigall_nlz.f k a0).bind fun t131 => (if 0 ≤ t131 then ((bigall_bitsDiv.f k (Go.bits .xor .u64 IntKind.u64.max (shl .u64 a0 t131)) 18446744073709551615 (shl .u64 a0 t131)).bind fun bt132 => (some bt132.1)) else (none))) = some r := h
  clear h
  replace H := Option.bind_eq_some_iff.mp H
  obtain ⟨t131, A20, H⟩ := H
  replace H : (if 0 ≤ t131 then ((bigall_bitsDiv.f k (Go.bits .xor .u64 IntKind.u64.max (shl .u64 a0 t131)) 18446744073709551615 (shl .u64 a0 t131)).bind fun bt132 => (some bt132.1)) else (none)) = some r := H
  have A2 := Aside0.mk A20
  clear A20
  by_cases c3 : 0 ≤ t131
  · rw [if_pos c3] at H
    have c3b0 := eq_true c3
    have c3b1 : decide (0 ≤ t131) = true := decide_eq_true c3
    clear c3
    obtain ⟨ji4, hji4⟩ : ∃ j_ : Int, (shl .u64 a0 t131) = j_ := ⟨_, rfl⟩
    replace H : ((bigall_bitsDiv.f k (Go.bits .xor .u64 IntKind.u64.max (ji4)) 18446744073709551615 (ji4)).bind fun bt132 => (some bt132.1)) = some r := by first | (rw [hji4] at H; exact H) | (simp only [hji4] at H ⊢; exact H)
    (try rw [hji4] at A2)
    have hji4_ : (IntKind.u64.wrap (a0 * 2 ^ min t131.toNat 64)) = ji4 := hji4
    have hji4z : t131 ≤ 64 → (IntKind.u64.wrap (a0 * 2 ^ t131.toNat)) = ji4 := shl_small hji4
    replace H := Option.bind_eq_some_iff.mp H
    obtain ⟨⟨t132, t133⟩, A50, H⟩ := H
    replace H : (some t132) = some r := H
    have A5 := Aside0.mk A50
    clear A50
    obtain rfl := Option.some.inj H
    go_enter Tryz.func86, Tryz.ntmps86
    go_wp2_with (first | ((with_reducible refine gate_callee (f := 71) rfl ?_); refine goesL_ (some 10) rfl rfl Tryz.func71 (by kernel_rfl) rfl #[.int .u64 a0] rfl (by (try simp only [List.map_toArray, List.map_cons, List.map_nil]); first | done | rfl | (simp only [List.length_drop, List.length_take]; rfl)) ?_; (with_reducible refine (bigall_nlz.calls k a0 t131 _ A2.out).mono ?_); rintro e w' ⟨rfl, ⟨nd, rfl⟩⟩; refine ⟨_, rfl, ?_⟩) | ((with_reducible refine gate_callee (f := 85) rfl ?_); refine goesL_ (some 18) rfl rfl Tryz.func85 (by kernel_rfl) rfl #[.int .u64 (Go.bits .xor .u64 IntKind.u64.max (ji4)), .int .u64 18446744073709551615, .int .u64 ji4] rfl (by (try simp only [List.map_toArray, List.map_cons, List.map_nil]); first | done | (simp only [hji4]; rfl) | rfl | (simp only [List.length_drop, List.length_take]; rfl)) ?_; (with_reducible refine (bigall_bitsDiv.calls k (Go.bits .xor .u64 IntKind.u64.max (ji4)) 18446744073709551615 ji4 t132 t133 _ A5.out).mono ?_); rintro e w' ⟨rfl, ⟨nd, rfl⟩⟩; refine ⟨_, rfl, ?_⟩))
    go_ret
    exact ⟨by first | rfl | (simp; done) | (simp only [← hji4] <;> (first | rfl | simp)) | (simp [*]; done), by repeat (first | exact Drawn0.refl _ | apply Drawn0.step)⟩
  · rw [if_neg c3] at H
    exact absurd H (by simp)

/-! ### bigall_divWW: function 87 -/
def bigall_divWW.j0 : Nat → Int → Int → Int → Int → Int → Option (Int × Int)
  | 0, _, _, _, _, _ => none
  | k + 1, x0, x1, x2, x3, x10 => (bits_Mul.f x3 x0).bind fun bt137 => ((bits_Add.f bt137.2 x1 0).bind fun bt139 => ((bits_Add.f bt137.1 x0 bt139.2).bind fun bt141 => ((bits_Mul.f x2 bt141.1).bind fun bt143 => ((bits_Sub.f x1 bt143.2 0).bind fun bt145 => ((bits_Sub.f x0 bt143.1 bt145.2).bind fun bt147 => (if bt147.1 = 0 then (if bt145.1 ≥ x2 then (if 0 ≤ x10 then (some (IntKind.u64.wrap (bt141.1 + 1), shr .u64 (IntKind.u64.wrap (bt145.1 - x2)) x10)) else (none)) else (if 0 ≤ x10 then (some (bt141.1, shr .u64 bt145.1 x10)) else (none))) else (if (IntKind.u64.wrap (bt145.1 - x2)) ≥ x2 then (if 0 ≤ x10 then (some (IntKind.u64.wrap ((IntKind.u64.wrap (bt141.1 + 1)) + 1), shr .u64 (IntKind.u64.wrap ((IntKind.u64.wrap (bt145.1 - x2)) - x2)) x10)) else (none)) else (if 0 ≤ x10 then (some (IntKind.u64.wrap (bt141.1 + 1), shr .u64 (IntKind.u64.wrap (bt145.1 - x2)) x10)) else (none)))))))))
def bigall_divWW.f (k : Nat) (a0 : Int) (a1 : Int) (a2 : Int) (a3 : Int) : Option (Int × Int) := (bigall_nlz.f k a2).bind fun t136 => (if t136 = 0 then (bigall_divWW.j0 k a0 a1 a2 a3 t136) else (if 0 ≤ t136 then (if 0 ≤ (IntKind.u64.wrap (64 - t136)) then (bigall_divWW.j0 k (Go.bits .or .u64 (shl .u64 a0 t136) (shr .u64 a1 (IntKind.u64.wrap (64 - t136)))) (shl .u64 a1 t136) (shl .u64 a2 t136) a3 t136) else (none)) else (none)))
theorem bigall_divWW.mono_l : ∀ k, (∀ y0 y1 y2 y3 y4, LeO (bigall_divWW.j0 k y0 y1 y2 y3 y4) (bigall_divWW.j0 (k + 1) y0 y1 y2 y3 y4))
  | 0 => fun _ _ _ _ _ r h => by simp [bigall_divWW.j0] at h
  | k + 1 => by
    have ih0 := bigall_divWW.mono_l k
    · intro y0 y1 y2 y3 y4
      unfold bigall_divWW.j0
      repeat' first
      | (with_reducible exact ih0 _ _ _ _ _)
      | (with_reducible exact bigall_nlz.mono _ _)
      | (with_reducible exact LeO.refl _)
      | (with_reducible exact LeO.none _)
      | (with_reducible refine LeO.ite ?_ ?_)
      | (with_reducible refine LeO.bind ?_ (fun _ => ?_))
      | exact ih0 _ _ _ _ _
      | exact bigall_nlz.mono _ _
      | exact LeO.none _
      | refine LeO.ite ?_ ?_
      | refine LeO.bind ?_ (fun _ => ?_)
theorem bigall_divWW.mono : ∀ a0 a1 a2 a3 k, LeO (bigall_divWW.f k a0 a1 a2 a3) (bigall_divWW.f (k + 1) a0 a1 a2 a3) := by
  intro a0 a1 a2 a3 k
  have ih0 := bigall_divWW.mono_l k
  unfold bigall_divWW.f
  repeat' first
      | (with_reducible exact ih0 _ _ _ _ _)
      | (with_reducible exact bigall_nlz.mono _ _)
      | (with_reducible exact LeO.refl _)
      | (with_reducible exact LeO.none _)
      | (with_reducible refine LeO.ite ?_ ?_)
      | (with_reducible refine LeO.bind ?_ (fun _ => ?_))
      | exact ih0 _ _ _ _ _
      | exact bigall_nlz.mono _ _
      | exact LeO.none _
      | refine LeO.ite ?_ ?_
      | refine LeO.bind ?_ (fun _ => ?_)
set_option maxHeartbeats 8000000 in
set_option maxRecDepth 100000 in
theorem bigall_divWW.calls (k : Nat) (a0 : Int) (a1 : Int) (a2 : Int) (a3 : Int) (r1 : Int) (r2 : Int) (w : World) (h : bigall_divWW.f k a0 a1 a2 a3 = some (r1, r2)) :
    Calls Tryz.prog 87 #[.int .u64 a0, .int .u64 a1, .int .u64 a2, .int .u64 a3] w fun e w' => e = .returned (.tuple #[.int .u64 r1, .int .u64 r2]) ∧ Drawn0 w w' := by
  have H : ((bigall_nlz.f k a2).bind fun t136 => (if t136 = 0 then (bigall_divWW.j0 k a0 a1 a2 a3 t136) else (if 0 ≤ t136 then (if 0 ≤ (IntKind.u64.wrap (64 - t136)) then (bigall_divWW.j0 k (Go.bits .or .u64 (shl .u64 a0 t136) (shr .u64 a1 (IntKind.u64.wrap (64 - t136)))) (shl .u64 a1 t136) (shl .u64 a2 t136) a3 t136) else (none)) else (none)))) = some (r1, r2) := h
  clear h
  replace H := Option.bind_eq_some_iff.mp H
  obtain ⟨t136, A50, H⟩ := H
  replace H : (if t136 = 0 then (bigall_divWW.j0 k a0 a1 a2 a3 t136) else (if 0 ≤ t136 then (if 0 ≤ (IntKind.u64.wrap (64 - t136)) then (bigall_divWW.j0 k (Go.bits .or .u64 (shl .u64 a0 t136) (shr .u64 a1 (IntKind.u64.wrap (64 - t136)))) (shl .u64 a1 t136) (shl .u64 a2 t136) a3 t136) else (none)) else (none))) = some (r1, r2) := H
  have A5 := Aside0.mk A50
  clear A50
  have HC6 := Aside0.mk H
  clear H
  go_enter Tryz.func87, Tryz.ntmps87
  go_upto_if 26 with (first | ((with_reducible refine gate_callee (f := 71) rfl ?_); refine goesL_ (some 24) rfl rfl Tryz.func71 (by kernel_rfl) rfl #[.int .u64 a2] rfl (by (try simp only [List.map_toArray, List.map_cons, List.map_nil]); first | done | rfl | (simp only [List.length_drop, List.length_take]; rfl)) ?_; (with_reducible refine (bigall_nlz.calls k a2 t136 _ A5.out).mono ?_); rintro e w' ⟨rfl, ⟨nd, rfl⟩⟩; refine ⟨_, rfl, ?_⟩))
  (try simp only [Act.put, List.setIfInBounds_toArray, List.set_cons_zero, List.set_cons_succ])
  go_cut [0, 1, 2] (fun v0 v1 v2 wc => ∃ (kq : Nat) (x0_5 : Int) (x1_5 : Int) (x2_5 : Int), v0 = .int .u64 x0_5 ∧ v1 = .int .u64 x1_5 ∧ v2 = .int .u64 x2_5 ∧ Aside0 (bigall_divWW.j0 kq x0_5 x1_5 x2_5 a3 t136 = some (r1, r2)) ∧ Aside0 (kq ≤ k) ∧ Drawn0 w wc)
  case first =>
    have H := HC6.out
    clear HC6
    by_cases c7 : t136 = 0
    · rw [if_pos c7] at H
      have c7b0 : (t136 == 0) = true := beq_iff_eq.mpr c7
      have c7b1 : (t136 != 0) = false := bne_eq_false_iff_eq.mpr c7
      clear c7
      (first | rw [c7b0] | (simp only [i64_w, i32_w]; rw [c7b0]) | skip)
      have H' := Aside0.mk H
      clear H
      go_wp2
      go_meet
      case rel => exact ⟨_, (a0), (a1), (a2), (by first | rfl | (simp; done) | (simp [*]; done)), (by first | rfl | (simp; done) | (simp [*]; done)), (by first | rfl | (simp; done) | (simp [*]; done)), H', ⟨by first | omega | exact Nat.le_refl _⟩, by repeat (first | exact Drawn0.refl _ | apply Drawn0.step)⟩
    · rw [if_neg c7] at H
      have c7b0 : (t136 == 0) = false := beq_eq_false_iff_ne.mpr c7
      have c7b1 : (t136 != 0) = true := bne_iff_ne.mpr c7
      (first | rw [c7b0] | (simp only [i64_w, i32_w]; rw [c7b0]) | skip)
      by_cases c8 : 0 ≤ t136
      · rw [if_pos c8] at H
        have c8b0 := eq_true c8
        have c8b1 : decide (0 ≤ t136) = true := decide_eq_true c8
        clear c8
        obtain ⟨ji9, hji9⟩ : ∃ j_ : Int, (shl .u64 a0 t136) = j_ := ⟨_, rfl⟩
        replace H : (if 0 ≤ (IntKind.u64.wrap (64 - t136)) then (bigall_divWW.j0 k (Go.bits .or .u64 (ji9) (shr .u64 a1 (IntKind.u64.wrap (64 - t136)))) (shl .u64 a1 t136) (shl .u64 a2 t136) a3 t136) else (none)) = some (r1, r2) := by first | (rw [hji9] at H; exact H) | (simp only [hji9] at H ⊢; exact H)
        have hji9_ : (IntKind.u64.wrap (a0 * 2 ^ min t136.toNat 64)) = ji9 := hji9
        have hji9z : t136 ≤ 64 → (IntKind.u64.wrap (a0 * 2 ^ t136.toNat)) = ji9 := shl_small hji9
        obtain ⟨ji10, hji10⟩ : ∃ j_ : Int, (IntKind.u64.wrap (64 - t136)) = j_ := ⟨_, rfl⟩
        replace H : (if 0 ≤ (ji10) then (bigall_divWW.j0 k (Go.bits .or .u64 (ji9) (shr .u64 a1 (ji10))) (shl .u64 a1 t136) (shl .u64 a2 t136) a3 t136) else (none)) = some (r1, r2) := by first | (rw [hji10] at H; exact H) | (simp only [hji10] at H ⊢; exact H)
        by_cases c11 : 0 ≤ (ji10)
        · rw [if_pos c11] at H
          have c11b0 := eq_true c11
          have c11b1 : decide (0 ≤ (ji10)) = true := decide_eq_true c11
          clear c11
          obtain ⟨ji12, hji12⟩ : ∃ j_ : Int, (shr .u64 a1 (ji10)) = j_ := ⟨_, rfl⟩
          replace H : (bigall_divWW.j0 k (Go.bits .or .u64 (ji9) (ji12)) (shl .u64 a1 t136) (shl .u64 a2 t136) a3 t136) = some (r1, r2) := by first | (rw [hji12] at H; exact H) | (simp only [hji12] at H ⊢; exact H)
          have hji12_ : (a1 / 2 ^ min (ji10).toNat 64) = ji12 := hji12
          have hji12z : (ji10) ≤ 64 → (a1 / 2 ^ (ji10).toNat) = ji12 := shr_small hji12
          have c13b0 := eq_true (of_decide_eq_true (by first | (with_reducible assumption) | assumption) : 0 ≤ t136)
          obtain ⟨ji14, hji14⟩ : ∃ j_ : Int, (shl .u64 a1 t136) = j_ := ⟨_, rfl⟩
          replace H : (bigall_divWW.j0 k (Go.bits .or .u64 (ji9) (ji12)) ji14 (shl .u64 a2 t136) a3 t136) = some (r1, r2) := by first | (rw [hji14] at H; exact H) | (simp only [hji14] at H ⊢; exact H)
          have hji14_ : (IntKind.u64.wrap (a1 * 2 ^ min t136.toNat 64)) = ji14 := hji14
          have hji14z : t136 ≤ 64 → (IntKind.u64.wrap (a1 * 2 ^ t136.toNat)) = ji14 := shl_small hji14
          have c15b0 := eq_true (of_decide_eq_true (by first | (with_reducible assumption) | assumption) : 0 ≤ t136)
          obtain ⟨ji16, hji16⟩ : ∃ j_ : Int, (shl .u64 a2 t136) = j_ := ⟨_, rfl⟩
          replace H : (bigall_divWW.j0 k (Go.bits .or .u64 (ji9) (ji12)) ji14 ji16 a3 t136) = some (r1, r2) := by first | (rw [hji16] at H; exact H) | (simp only [hji16] at H ⊢; exact H)
          have hji16_ : (IntKind.u64.wrap (a2 * 2 ^ min t136.toNat 64)) = ji16 := hji16
          have hji16z : t136 ≤ 64 → (IntKind.u64.wrap (a2 * 2 ^ t136.toNat)) = ji16 := shl_small hji16
          have H' := Aside0.mk H
          clear H
          go_wp2
          go_meet
          case rel => exact ⟨_, (Go.bits .or .u64 (ji9) (ji12)), (ji14), (ji16), (by first | rfl | (simp; done) | (simp only [← hji9, ← hji12] <;> (first | rfl | simp)) | (simp [*]; done)), (by first | rfl | (simp; done) | (simp only [← hji14] <;> (first | rfl | simp)) | (simp [*]; done)), (by first | rfl | (simp; done) | (simp only [← hji16] <;> (first | rfl | simp)) | (simp [*]; done)), H', ⟨by first | omega | exact Nat.le_refl _⟩, by repeat (first | exact Drawn0.refl _ | apply Drawn0.step)⟩
        · rw [if_neg c11] at H
          exact absurd H (by simp)
      · rw [if_neg c8] at H
        exact absurd H (by simp)
  case rest =>
    clear HC6
    try clear c1
    try clear p2
    try clear c6
    try clear c7
    try clear c7b0
    try clear c7b1
    try clear c8
    try clear c8b0
    try clear c8b1
    try clear c11
    try clear c11b0
    try clear c11b1
    try clear c13
    try clear c13b0
    try clear c15
    try clear c15b0
    obtain ⟨kq, x0_5, x1_5, x2_5, rfl, rfl, rfl, HA, HJ5, ⟨mc5, rfl⟩⟩ := hcut
    cases kq with
    | zero => exact absurd HA.out (by simp [bigall_divWW.j0])
    | succ kj5 =>
      have H := HA.out
      clear HA
      simp only [bigall_divWW.j0] at H
      replace H := Option.bind_eq_some_iff.mp H
      obtain ⟨⟨t137, t138⟩, A170, H⟩ := H
      replace H : ((bits_Add.f t138 x1_5 0).bind fun bt139 => ((bits_Add.f t137 x0_5 bt139.2).bind fun bt141 => ((bits_Mul.f x2_5 bt141.1).bind fun bt143 => ((bits_Sub.f x1_5 bt143.2 0).bind fun bt145 => ((bits_Sub.f x0_5 bt143.1 bt145.2).bind fun bt147 => (if bt147.1 = 0 then (if bt145.1 ≥ x2_5 then (if 0 ≤ t136 then (some (IntKind.u64.wrap (bt141.1 + 1), shr .u64 (IntKind.u64.wrap (bt145.1 - x2_5)) t136)) else (none)) else (if 0 ≤ t136 then (some (bt141.1, shr .u64 bt145.1 t136)) else (none))) else (if (IntKind.u64.wrap (bt145.1 - x2_5)) ≥ x2_5 then (if 0 ≤ t136 then (some (IntKind.u64.wrap ((IntKind.u64.wrap (bt141.1 + 1)) + 1), shr .u64 (IntKind.u64.wrap ((IntKind.u64.wrap (bt145.1 - x2_5)) - x2_5)) t136)) else (none)) else (if 0 ≤ t136 then (some (IntKind.u64.wrap (bt141.1 + 1), shr .u64 (IntKind.u64.wrap (bt145.1 - x2_5)) t136)) else (none))))))))) = some (r1, r2) := H
      have A17 := Aside0.mk A170
      clear A170
      replace H := Option.bind_eq_some_iff.mp H
      obtain ⟨⟨t139, t140⟩, A180, H⟩ := H
      replace H : ((bits_Add.f t137 x0_5 t140).bind fun bt141 => ((bits_Mul.f x2_5 bt141.1).bind fun bt143 => ((bits_Sub.f x1_5 bt143.2 0).bind fun bt145 => ((bits_Sub.f x0_5 bt143.1 bt145.2).bind fun bt147 => (if bt147.1 = 0 then (if bt145.1 ≥ x2_5 then (if 0 ≤ t136 then (some (IntKind.u64.wrap (bt141.1 + 1), shr .u64 (IntKind.u64.wrap (bt145.1 - x2_5)) t136)) else (none)) else (if 0 ≤ t136 then (some (bt141.1, shr .u64 bt145.1 t136)) else (none))) else (if (IntKind.u64.wrap (bt145.1 - x2_5)) ≥ x2_5 then (if 0 ≤ t136 then (some (IntKind.u64.wrap ((IntKind.u64.wrap (bt141.1 + 1)) + 1), shr .u64 (IntKind.u64.wrap ((IntKind.u64.wrap (bt145.1 - x2_5)) - x2_5)) t136)) else (none)) else (if 0 ≤ t136 then (some (IntKind.u64.wrap (bt141.1 + 1), shr .u64 (IntKind.u64.wrap (bt145.1 - x2_5)) t136)) else (none)))))))) = some (r1, r2) := H
      have A18 := Aside0.mk A180
      clear A180
      replace H := Option.bind_eq_some_iff.mp H
      obtain ⟨⟨t141, t142⟩, A190, H⟩ := H
      replace H : ((bits_Mul.f x2_5 t141).bind fun bt143 => ((bits_Sub.f x1_5 bt143.2 0).bind fun bt145 => ((bits_Sub.f x0_5 bt143.1 bt145.2).bind fun bt147 => (if bt147.1 = 0 then (if bt145.1 ≥ x2_5 then (if 0 ≤ t136 then (some (IntKind.u64.wrap (t141 + 1), shr .u64 (IntKind.u64.wrap (bt145.1 - x2_5)) t136)) else (none)) else (if 0 ≤ t136 then (some (t141, shr .u64 bt145.1 t136)) else (none))) else (if (IntKind.u64.wrap (bt145.1 - x2_5)) ≥ x2_5 then (if 0 ≤ t136 then (some (IntKind.u64.wrap ((IntKind.u64.wrap (t141 + 1)) + 1), shr .u64 (IntKind.u64.wrap ((IntKind.u64.wrap (bt145.1 - x2_5)) - x2_5)) t136)) else (none)) else (if 0 ≤ t136 then (some (IntKind.u64.wrap (t141 + 1), shr .u64 (IntKind.u64.wrap (bt145.1 - x2_5)) t136)) else (none))))))) = some (r1, r2) := H
      have A19 := Aside0.mk A190
      clear A190
      replace H := Option.bind_eq_some_iff.mp H
      obtain ⟨⟨t143, t144⟩, A200, H⟩ := H
      replace H : ((bits_Sub.f x1_5 t144 0).bind fun bt145 => ((bits_Sub.f x0_5 t143 bt145.2).bind fun bt147 => (if bt147.1 = 0 then (if bt145.1 ≥ x2_5 then (if 0 ≤ t136 then (some (IntKind.u64.wrap (t141 + 1), shr .u64 (IntKind.u64.wrap (bt145.1 - x2_5)) t136)) else (none)) else (if 0 ≤ t136 then (some (t141, shr .u64 bt145.1 t136)) else (none))) else (if (IntKind.u64.wrap (bt145.1 - x2_5)) ≥ x2_5 then (if 0 ≤ t136 then (some (IntKind.u64.wrap ((IntKind.u64.wrap (t141 + 1)) + 1), shr .u64 (IntKind.u64.wrap ((IntKind.u64.wrap (bt145.1 - x2_5)) - x2_5)) t136)) else (none)) else (if 0 ≤ t136 then (some (IntKind.u64.wrap (t141 + 1), shr .u64 (IntKind.u64.wrap (bt145.1 - x2_5)) t136)) else (none)))))) = some (r1, r2) := H
      have A20 := Aside0.mk A200
      clear A200
      replace H := Option.bind_eq_some_iff.mp H
      obtain ⟨⟨t145, t146⟩, A210, H⟩ := H
      replace H : ((bits_Sub.f x0_5 t143 t146).bind fun bt147 => (if bt147.1 = 0 then (if t145 ≥ x2_5 then (if 0 ≤ t136 then (some (IntKind.u64.wrap (t141 + 1), shr .u64 (IntKind.u64.wrap (t145 - x2_5)) t136)) else (none)) else (if 0 ≤ t136 then (some (t141, shr .u64 t145 t136)) else (none))) else (if (IntKind.u64.wrap (t145 - x2_5)) ≥ x2_5 then (if 0 ≤ t136 then (some (IntKind.u64.wrap ((IntKind.u64.wrap (t141 + 1)) + 1), shr .u64 (IntKind.u64.wrap ((IntKind.u64.wrap (t145 - x2_5)) - x2_5)) t136)) else (none)) else (if 0 ≤ t136 then (some (IntKind.u64.wrap (t141 + 1), shr .u64 (IntKind.u64.wrap (t145 - x2_5)) t136)) else (none))))) = some (r1, r2) := H
      have A21 := Aside0.mk A210
      clear A210
      replace H := Option.bind_eq_some_iff.mp H
      obtain ⟨⟨t147, t148⟩, A220, H⟩ := H
      replace H : (if t147 = 0 then (if t145 ≥ x2_5 then (if 0 ≤ t136 then (some (IntKind.u64.wrap (t141 + 1), shr .u64 (IntKind.u64.wrap (t145 - x2_5)) t136)) else (none)) else (if 0 ≤ t136 then (some (t141, shr .u64 t145 t136)) else (none))) else (if (IntKind.u64.wrap (t145 - x2_5)) ≥ x2_5 then (if 0 ≤ t136 then (some (IntKind.u64.wrap ((IntKind.u64.wrap (t141 + 1)) + 1), shr .u64 (IntKind.u64.wrap ((IntKind.u64.wrap (t145 - x2_5)) - x2_5)) t136)) else (none)) else (if 0 ≤ t136 then (some (IntKind.u64.wrap (t141 + 1), shr .u64 (IntKind.u64.wrap (t145 - x2_5)) t136)) else (none)))) = some (r1, r2) := H
      have A22 := Aside0.mk A220
      clear A220
      by_cases c23 : t147 = 0
      · rw [if_pos c23] at H
        have c23b0 : (t147 == 0) = true := beq_iff_eq.mpr c23
        have c23b1 : (t147 != 0) = false := bne_eq_false_iff_eq.mpr c23
        clear c23
        by_cases c24 : t145 ≥ x2_5
        · rw [if_pos c24] at H
          have c24b0 : decide (x2_5 ≤ t145) = true := decide_eq_true c24
          clear c24
          by_cases c25 : 0 ≤ t136
          · rw [if_pos c25] at H
            have c25b0 := eq_true c25
            have c25b1 : decide (0 ≤ t136) = true := decide_eq_true c25
            clear c25
            obtain ⟨ji26, hji26⟩ : ∃ j_ : Int, (shr .u64 (IntKind.u64.wrap (t145 - x2_5)) t136) = j_ := ⟨_, rfl⟩
            replace H : (some (IntKind.u64.wrap (t141 + 1), ji26)) = some (r1, r2) := by first | (rw [hji26] at H; exact H) | (simp only [hji26] at H ⊢; exact H)
            (try rw [hji26] at A17)
            (try rw [hji26] at A18)
            (try rw [hji26] at A19)
            (try rw [hji26] at A20)
            (try rw [hji26] at A21)
            (try rw [hji26] at A22)
            have hji26_ : ((IntKind.u64.wrap (t145 - x2_5)) / 2 ^ min t136.toNat 64) = ji26 := hji26
            have hji26z : t136 ≤ 64 → ((IntKind.u64.wrap (t145 - x2_5)) / 2 ^ t136.toNat) = ji26 := shr_small hji26
            simp only [Option.some.injEq, Prod.mk.injEq] at H
            obtain ⟨rfl, rfl⟩ := H
            go_wp2_with (first | ((with_reducible refine gate_callee (f := 78) rfl ?_); refine goesL_ (some 45) rfl rfl Tryz.func78 (by kernel_rfl) rfl #[.int .u64 a3, .int .u64 x0_5] rfl (by (try simp only [List.map_toArray, List.map_cons, List.map_nil]); first | done | rfl | (simp only [List.length_drop, List.length_take]; rfl)) ?_; (with_reducible refine (bits_Mul.calls a3 x0_5 t137 t138 _ A17.out).mono ?_); rintro e w' ⟨rfl, ⟨nd, rfl⟩⟩; refine ⟨_, rfl, ?_⟩) | ((with_reducible refine gate_callee (f := 77) rfl ?_); refine goesL_ (some 51) rfl rfl Tryz.func77 (by kernel_rfl) rfl #[.int .u64 t138, .int .u64 x1_5, .int .u64 0] rfl (by (try simp only [List.map_toArray, List.map_cons, List.map_nil]); first | done | rfl | (simp only [List.length_drop, List.length_take]; rfl)) ?_; (with_reducible refine (bits_Add.calls t138 x1_5 0 t139 t140 _ A18.out).mono ?_); rintro e w' ⟨rfl, ⟨nd, rfl⟩⟩; refine ⟨_, rfl, ?_⟩) | ((with_reducible refine gate_callee (f := 77) rfl ?_); refine goesL_ (some 58) rfl rfl Tryz.func77 (by kernel_rfl) rfl #[.int .u64 t137, .int .u64 x0_5, .int .u64 t140] rfl (by (try simp only [List.map_toArray, List.map_cons, List.map_nil]); first | done | rfl | (simp only [List.length_drop, List.length_take]; rfl)) ?_; (with_reducible refine (bits_Add.calls t137 x0_5 t140 t141 t142 _ A19.out).mono ?_); rintro e w' ⟨rfl, ⟨nd, rfl⟩⟩; refine ⟨_, rfl, ?_⟩) | ((with_reducible refine gate_callee (f := 78) rfl ?_); refine goesL_ (some 65) rfl rfl Tryz.func78 (by kernel_rfl) rfl #[.int .u64 x2_5, .int .u64 t141] rfl (by (try simp only [List.map_toArray, List.map_cons, List.map_nil]); first | done | rfl | (simp only [List.length_drop, List.length_take]; rfl)) ?_; (with_reducible refine (bits_Mul.calls x2_5 t141 t143 t144 _ A20.out).mono ?_); rintro e w' ⟨rfl, ⟨nd, rfl⟩⟩; refine ⟨_, rfl, ?_⟩) | ((with_reducible refine gate_callee (f := 50) rfl ?_); refine goesL_ (some 71) rfl rfl Tryz.func50 (by kernel_rfl) rfl #[.int .u64 x1_5, .int .u64 t144, .int .u64 0] rfl (by (try simp only [List.map_toArray, List.map_cons, List.map_nil]); first | done | rfl | (simp only [List.length_drop, List.length_take]; rfl)) ?_; (with_reducible refine (bits_Sub.calls x1_5 t144 0 t145 t146 _ A21.out).mono ?_); rintro e w' ⟨rfl, ⟨nd, rfl⟩⟩; refine ⟨_, rfl, ?_⟩) | ((with_reducible refine gate_callee (f := 50) rfl ?_); refine goesL_ (some 78) rfl rfl Tryz.func50 (by kernel_rfl) rfl #[.int .u64 x0_5, .int .u64 t143, .int .u64 t146] rfl (by (try simp only [List.map_toArray, List.map_cons, List.map_nil]); first | done | rfl | (simp only [List.length_drop, List.length_take]; rfl)) ?_; (with_reducible refine (bits_Sub.calls x0_5 t143 t146 t147 t148 _ A22.out).mono ?_); rintro e w' ⟨rfl, ⟨nd, rfl⟩⟩; refine ⟨_, rfl, ?_⟩))
            go_ret2
            exact ⟨by first | rfl | (simp; done) | (simp only [← hji26] <;> (first | rfl | simp)) | (simp [*]; done), by repeat (first | exact Drawn0.refl _ | apply Drawn0.step)⟩
          · rw [if_neg c25] at H
            exact absurd H (by simp)
        · rw [if_neg c24] at H
          have c24b0 : decide (x2_5 ≤ t145) = false := decide_eq_false c24
          clear c24
          by_cases c27 : 0 ≤ t136
          · rw [if_pos c27] at H
            have c27b0 := eq_true c27
            have c27b1 : decide (0 ≤ t136) = true := decide_eq_true c27
            clear c27
            obtain ⟨ji28, hji28⟩ : ∃ j_ : Int, (shr .u64 t145 t136) = j_ := ⟨_, rfl⟩
            replace H : (some (t141, ji28)) = some (r1, r2) := by first | (rw [hji28] at H; exact H) | (simp only [hji28] at H ⊢; exact H)
            (try rw [hji28] at A17)
            (try rw [hji28] at A18)
            (try rw [hji28] at A19)
            (try rw [hji28] at A20)
            (try rw [hji28] at A21)
            (try rw [hji28] at A22)
            have hji28_ : (t145 / 2 ^ min t136.toNat 64) = ji28 := hji28
            have hji28z : t136 ≤ 64 → (t145 / 2 ^ t136.toNat) = ji28 := shr_small hji28
            simp only [Option.some.injEq, Prod.mk.injEq] at H
            obtain ⟨rfl, rfl⟩ := H
            go_wp2_with (first | ((with_reducible refine gate_callee (f := 78) rfl ?_); refine goesL_ (some 45) rfl rfl Tryz.func78 (by kernel_rfl) rfl #[.int .u64 a3, .int .u64 x0_5] rfl (by (try simp only [List.map_toArray, List.map_cons, List.map_nil]); first | done | rfl | (simp only [List.length_drop, List.length_take]; rfl)) ?_; (with_reducible refine (bits_Mul.calls a3 x0_5 t137 t138 _ A17.out).mono ?_); rintro e w' ⟨rfl, ⟨nd, rfl⟩⟩; refine ⟨_, rfl, ?_⟩) | ((with_reducible refine gate_callee (f := 77) rfl ?_); refine goesL_ (some 51) rfl rfl Tryz.func77 (by kernel_rfl) rfl #[.int .u64 t138, .int .u64 x1_5, .int .u64 0] rfl (by (try simp only [List.map_toArray, List.map_cons, List.map_nil]); first | done | rfl | (simp only [List.length_drop, List.length_take]; rfl)) ?_; (with_reducible refine (bits_Add.calls t138 x1_5 0 t139 t140 _ A18.out).mono ?_); rintro e w' ⟨rfl, ⟨nd, rfl⟩⟩; refine ⟨_, rfl, ?_⟩) | ((with_reducible refine gate_callee (f := 77) rfl ?_); refine goesL_ (some 58) rfl rfl Tryz.func77 (by kernel_rfl) rfl #[.int .u64 t137, .int .u64 x0_5, .int .u64 t140] rfl (by (try simp only [List.map_toArray, List.map_cons, List.map_nil]); first | done | rfl | (simp only [List.length_drop, List.length_take]; rfl)) ?_; (with_reducible refine (bits_Add.calls t137 x0_5 t140 t141 t142 _ A19.out).mono ?_); rintro e w' ⟨rfl, ⟨nd, rfl⟩⟩; refine ⟨_, rfl, ?_⟩) | ((with_reducible refine gate_callee (f := 78) rfl ?_); refine goesL_ (some 65) rfl rfl Tryz.func78 (by kernel_rfl) rfl #[.int .u64 x2_5, .int .u64 t141] rfl (by (try simp only [List.map_toArray, List.map_cons, List.map_nil]); first | done | rfl | (simp only [List.length_drop, List.length_take]; rfl)) ?_; (with_reducible refine (bits_Mul.calls x2_5 t141 t143 t144 _ A20.out).mono ?_); rintro e w' ⟨rfl, ⟨nd, rfl⟩⟩; refine ⟨_, rfl, ?_⟩) | ((with_reducible refine gate_callee (f := 50) rfl ?_); refine goesL_ (some 71) rfl rfl Tryz.func50 (by kernel_rfl) rfl #[.int .u64 x1_5, .int .u64 t144, .int .u64 0] rfl (by (try simp only [List.map_toArray, List.map_cons, List.map_nil]); first | done | rfl | (simp only [List.length_drop, List.length_take]; rfl)) ?_; (with_reducible refine (bits_Sub.calls x1_5 t144 0 t145 t146 _ A21.out).mono ?_); rintro e w' ⟨rfl, ⟨nd, rfl⟩⟩; refine ⟨_, rfl, ?_⟩) | ((with_reducible refine gate_callee (f := 50) rfl ?_); refine goesL_ (some 78) rfl rfl Tryz.func50 (by kernel_rfl) rfl #[.int .u64 x0_5, .int .u64 t143, .int .u64 t146] rfl (by (try simp only [List.map_toArray, List.map_cons, List.map_nil]); first | done | rfl | (simp only [List.length_drop, List.length_take]; rfl)) ?_; (with_reducible refine (bits_Sub.calls x0_5 t143 t146 t147 t148 _ A22.out).mono ?_); rintro e w' ⟨rfl, ⟨nd, rfl⟩⟩; refine ⟨_, rfl, ?_⟩))
            go_ret2
            exact ⟨by first | rfl | (simp; done) | (simp only [← hji28] <;> (first | rfl | simp)) | (simp [*]; done), by repeat (first | exact Drawn0.refl _ | apply Drawn0.step)⟩
          · rw [if_neg c27] at H
            exact absurd H (by simp)
      · rw [if_neg c23] at H
        have c23b0 : (t147 == 0) = false := beq_eq_false_iff_ne.mpr c23
        have c23b1 : (t147 != 0) = true := bne_iff_ne.mpr c23
        by_cases c29 : (IntKind.u64.wrap (t145 - x2_5)) ≥ x2_5
        · rw [if_pos c29] at H
          have c29b0 : decide (x2_5 ≤ (IntKind.u64.wrap (t145 - x2_5))) = true := decide_eq_true c29
          clear c29
          by_cases c30 : 0 ≤ t136
          · rw [if_pos c30] at H
            have c30b0 := eq_true c30
            have c30b1 : decide (0 ≤ t136) = true := decide_eq_true c30
            clear c30
            obtain ⟨ji31, hji31⟩ : ∃ j_ : Int, (shr .u64 (IntKind.u64.wrap ((IntKind.u64.wrap (t145 - x2_5)) - x2_5)) t136) = j_ := ⟨_, rfl⟩
            replace H : (some (IntKind.u64.wrap ((IntKind.u64.wrap (t141 + 1)) + 1), ji31)) = some (r1, r2) := by first | (rw [hji31] at H; exact H) | (simp only [hji31] at H ⊢; exact H)
            (try rw [hji31] at A17)
            (try rw [hji31] at A18)
            (try rw [hji31] at A19)
            (try rw [hji31] at A20)
            (try rw [hji31] at A21)
            (try rw [hji31] at A22)
            have hji31_ : ((IntKind.u64.wrap ((IntKind.u64.wrap (t145 - x2_5)) - x2_5)) / 2 ^ min t136.toNat 64) = ji31 := hji31
            have hji31z : t136 ≤ 64 → ((IntKind.u64.wrap ((IntKind.u64.wrap (t145 - x2_5)) - x2_5)) / 2 ^ t136.toNat) = ji31 := shr_small hji31
            simp only [Option.some.injEq, Prod.mk.injEq] at H
            obtain ⟨rfl, rfl⟩ := H
            go_wp2_with (first | ((with_reducible refine gate_callee (f := 78) rfl ?_); refine goesL_ (some 45) rfl rfl Tryz.func78 (by kernel_rfl) rfl #[.int .u64 a3, .int .u64 x0_5] rfl (by (try simp only [List.map_toArray, List.map_cons, List.map_nil]); first | done | rfl | (simp only [List.length_drop, List.length_take]; rfl)) ?_; (with_reducible refine (bits_Mul.calls a3 x0_5 t137 t138 _ A17.out).mono ?_); rintro e w' ⟨rfl, ⟨nd, rfl⟩⟩; refine ⟨_, rfl, ?_⟩) | ((with_reducible refine gate_callee (f := 77) rfl ?_); refine goesL_ (some 51) rfl rfl Tryz.func77 (by kernel_rfl) rfl #[.int .u64 t138, .int .u64 x1_5, .int .u64 0] rfl (by (try simp only [List.map_toArray, List.map_cons, List.map_nil]); first | done | rfl | (simp only [List.length_drop, List.length_take]; rfl)) ?_; (with_reducible refine (bits_Add.calls t138 x1_5 0 t139 t140 _ A18.out).mono ?_); rintro e w' ⟨rfl, ⟨nd, rfl⟩⟩; refine ⟨_, rfl, ?_⟩) | ((with_reducible refine gate_callee (f := 77) rfl ?_); refine goesL_ (some 58) rfl rfl Tryz.func77 (by kernel_rfl) rfl #[.int .u64 t137, .int .u64 x0_5, .int .u64 t140] rfl (by (try simp only [List.map_toArray, List.map_cons, List.map_nil]); first | done | rfl | (simp only [List.length_drop, List.length_take]; rfl)) ?_; (with_reducible refine (bits_Add.calls t137 x0_5 t140 t141 t142 _ A19.out).mono ?_); rintro e w' ⟨rfl, ⟨nd, rfl⟩⟩; refine ⟨_, rfl, ?_⟩) | ((with_reducible refine gate_callee (f := 78) rfl ?_); refine goesL_ (some 65) rfl rfl Tryz.func78 (by kernel_rfl) rfl #[.int .u64 x2_5, .int .u64 t141] rfl (by (try simp only [List.map_toArray, List.map_cons, List.map_nil]); first | done | rfl | (simp only [List.length_drop, List.length_take]; rfl)) ?_; (with_reducible refine (bits_Mul.calls x2_5 t141 t143 t144 _ A20.out).mono ?_); rintro e w' ⟨rfl, ⟨nd, rfl⟩⟩; refine ⟨_, rfl, ?_⟩) | ((with_reducible refine gate_callee (f := 50) rfl ?_); refine goesL_ (some 71) rfl rfl Tryz.func50 (by kernel_rfl) rfl #[.int .u64 x1_5, .int .u64 t144, .int .u64 0] rfl (by (try simp only [List.map_toArray, List.map_cons, List.map_nil]); first | done | rfl | (simp only [List.length_drop, List.length_take]; rfl)) ?_; (with_reducible refine (bits_Sub.calls x1_5 t144 0 t145 t146 _ A21.out).mono ?_); rintro e w' ⟨rfl, ⟨nd, rfl⟩⟩; refine ⟨_, rfl, ?_⟩) | ((with_reducible refine gate_callee (f := 50) rfl ?_); refine goesL_ (some 78) rfl rfl Tryz.func50 (by kernel_rfl) rfl #[.int .u64 x0_5, .int .u64 t143, .int .u64 t146] rfl (by (try simp only [List.map_toArray, List.map_cons, List.map_nil]); first | done | rfl | (simp only [List.length_drop, List.length_take]; rfl)) ?_; (with_reducible refine (bits_Sub.calls x0_5 t143 t146 t147 t148 _ A22.out).mono ?_); rintro e w' ⟨rfl, ⟨nd, rfl⟩⟩; refine ⟨_, rfl, ?_⟩))
            go_ret2
            exact ⟨by first | rfl | (simp; done) | (simp only [← hji31] <;> (first | rfl | simp)) | (simp [*]; done), by repeat (first | exact Drawn0.refl _ | apply Drawn0.step)⟩
          · rw [if_neg c30] at H
            exact absurd H (by simp)
        · rw [if_neg c29] at H
          have c29b0 : decide (x2_5 ≤ (IntKind.u64.wrap (t145 - x2_5))) = false := decide_eq_false c29
          clear c29
          by_cases c32 : 0 ≤ t136
          · rw [if_pos c32] at H
            have c32b0 := eq_true c32
            have c32b1 : decide (0 ≤ t136) = true := decide_eq_true c32
            clear c32
            obtain ⟨ji33, hji33⟩ : ∃ j_ : Int, (shr .u64 (IntKind.u64.wrap (t145 - x2_5)) t136) = j_ := ⟨_, rfl⟩
            replace H : (some (IntKind.u64.wrap (t141 + 1), ji33)) = some (r1, r2) := by first | (rw [hji33] at H; exact H) | (simp only [hji33] at H ⊢; exact H)
            (try rw [hji33] at A17)
            (try rw [hji33] at A18)
            (try rw [hji33] at A19)
            (try rw [hji33] at A20)
            (try rw [hji33] at A21)
            (try rw [hji33] at A22)
            have hji33_ : ((IntKind.u64.wrap (t145 - x2_5)) / 2 ^ min t136.toNat 64) = ji33 := hji33
            have hji33z : t136 ≤ 64 → ((IntKind.u64.wrap (t145 - x2_5)) / 2 ^ t136.toNat) = ji33 := shr_small hji33
            simp only [Option.some.injEq, Prod.mk.injEq] at H
            obtain ⟨rfl, rfl⟩ := H
            go_wp2_with (first | ((with_reducible refine gate_callee (f := 78) rfl ?_); refine goesL_ (some 45) rfl rfl Tryz.func78 (by kernel_rfl) rfl #[.int .u64 a3, .int .u64 x0_5] rfl (by (try simp only [List.map_toArray, List.map_cons, List.map_nil]); first | done | rfl | (simp only [List.length_drop, List.length_take]; rfl)) ?_; (with_reducible refine (bits_Mul.calls a3 x0_5 t137 t138 _ A17.out).mono ?_); rintro e w' ⟨rfl, ⟨nd, rfl⟩⟩; refine ⟨_, rfl, ?_⟩) | ((with_reducible refine gate_callee (f := 77) rfl ?_); refine goesL_ (some 51) rfl rfl Tryz.func77 (by kernel_rfl) rfl #[.int .u64 t138, .int .u64 x1_5, .int .u64 0] rfl (by (try simp only [List.map_toArray, List.map_cons, List.map_nil]); first | done | rfl | (simp only [List.length_drop, List.length_take]; rfl)) ?_; (with_reducible refine (bits_Add.calls t138 x1_5 0 t139 t140 _ A18.out).mono ?_); rintro e w' ⟨rfl, ⟨nd, rfl⟩⟩; refine ⟨_, rfl, ?_⟩) | ((with_reducible refine gate_callee (f := 77) rfl ?_); refine goesL_ (some 58) rfl rfl Tryz.func77 (by kernel_rfl) rfl #[.int .u64 t137, .int .u64 x0_5, .int .u64 t140] rfl (by (try simp only [List.map_toArray, List.map_cons, List.map_nil]); first | done | rfl | (simp only [List.length_drop, List.length_take]; rfl)) ?_; (with_reducible refine (bits_Add.calls t137 x0_5 t140 t141 t142 _ A19.out).mono ?_); rintro e w' ⟨rfl, ⟨nd, rfl⟩⟩; refine ⟨_, rfl, ?_⟩) | ((with_reducible refine gate_callee (f := 78) rfl ?_); refine goesL_ (some 65) rfl rfl Tryz.func78 (by kernel_rfl) rfl #[.int .u64 x2_5, .int .u64 t141] rfl (by (try simp only [List.map_toArray, List.map_cons, List.map_nil]); first | done | rfl | (simp only [List.length_drop, List.length_take]; rfl)) ?_; (with_reducible refine (bits_Mul.calls x2_5 t141 t143 t144 _ A20.out).mono ?_); rintro e w' ⟨rfl, ⟨nd, rfl⟩⟩; refine ⟨_, rfl, ?_⟩) | ((with_reducible refine gate_callee (f := 50) rfl ?_); refine goesL_ (some 71) rfl rfl Tryz.func50 (by kernel_rfl) rfl #[.int .u64 x1_5, .int .u64 t144, .int .u64 0] rfl (by (try simp only [List.map_toArray, List.map_cons, List.map_nil]); first | done | rfl | (simp only [List.length_drop, List.length_take]; rfl)) ?_; (with_reducible refine (bits_Sub.calls x1_5 t144 0 t145 t146 _ A21.out).mono ?_); rintro e w' ⟨rfl, ⟨nd, rfl⟩⟩; refine ⟨_, rfl, ?_⟩) | ((with_reducible refine gate_callee (f := 50) rfl ?_); refine goesL_ (some 78) rfl rfl Tryz.func50 (by kernel_rfl) rfl #[.int .u64 x0_5, .int .u64 t143, .int .u64 t146] rfl (by (try simp only [List.map_toArray, List.map_cons, List.map_nil]); first | done | rfl | (simp only [List.length_drop, List.length_take]; rfl)) ?_; (with_reducible refine (bits_Sub.calls x0_5 t143 t146 t147 t148 _ A22.out).mono ?_); rintro e w' ⟨rfl, ⟨nd, rfl⟩⟩; refine ⟨_, rfl, ?_⟩))
            go_ret2
            exact ⟨by first | rfl | (simp; done) | (simp only [← hji33] <;> (first | rfl | simp)) | (simp [*]; done), by repeat (first | exact Drawn0.refl _ | apply Drawn0.step)⟩
          · rw [if_neg c32] at H
            exact absurd H (by simp)

/-! ### bigall_mulWW: function 57 -/
def bigall_mulWW.f (a0 : Int) (a1 : Int) : Option (Int × Int) := (bits_Mul.f a0 a1).bind fun bt172 => (some (bt172.1, bt172.2))
set_option maxHeartbeats 8000000 in
set_option maxRecDepth 100000 in
theorem bigall_mulWW.calls (a0 : Int) (a1 : Int) (r1 : Int) (r2 : Int) (w : World) (h : bigall_mulWW.f a0 a1 = some (r1, r2)) :
    Calls Tryz.prog 57 #[.int .u64 a0, .int .u64 a1] w fun e w' => e = .returned (.tuple #[.int .u64 r1, .int .u64 r2]) ∧ Drawn0 w w' := by
  have H : ((bits_Mul.f a0 a1).bind fun bt172 => (some (bt172.1, bt172.2))) = some (r1, r2) := h
  clear h
  replace H := Option.bind_eq_some_iff.mp H
  obtain ⟨⟨t172, t173⟩, A30, H⟩ := H
  replace H : (some (t172, t173)) = some (r1, r2) := H
  have A3 := Aside0.mk A30
  clear A30
  simp only [Option.some.injEq, Prod.mk.injEq] at H
  obtain ⟨rfl, rfl⟩ := H
  go_enter Tryz.func57, Tryz.ntmps57
  go_wp2_with (first | ((with_reducible refine gate_callee (f := 78) rfl ?_); refine goesL_ (some 11) rfl rfl Tryz.func78 (by kernel_rfl) rfl #[.int .u64 a0, .int .u64 a1] rfl (by (try simp only [List.map_toArray, List.map_cons, List.map_nil]); first | done | rfl | (simp only [List.length_drop, List.length_take]; rfl)) ?_; (with_reducible refine (bits_Mul.calls a0 a1 t172 t173 _ A3.out).mono ?_); rintro e w' ⟨rfl, ⟨nd, rfl⟩⟩; refine ⟨_, rfl, ?_⟩))
  go_ret2
  exact ⟨by first | rfl | (simp; done) | (simp [*]; done), by repeat (first | exact Drawn0.refl _ | apply Drawn0.step)⟩

/-! ### bigall_mulAddWWW_g: function 101 -/
def bigall_mulAddWWW_g.f (a0 : Int) (a1 : Int) (a2 : Int) : Option (Int × Int) := (bits_Mul.f a0 a1).bind fun bt174 => ((bits_Add.f bt174.2 a2 0).bind fun bt176 => (some (IntKind.u64.wrap (bt174.1 + bt176.2), bt176.1)))
set_option maxHeartbeats 8000000 in
set_option maxRecDepth 100000 in
theorem bigall_mulAddWWW_g.calls (a0 : Int) (a1 : Int) (a2 : Int) (r1 : Int) (r2 : Int) (w : World) (h : bigall_mulAddWWW_g.f a0 a1 a2 = some (r1, r2)) :
    Calls Tryz.prog 101 #[.int .u64 a0, .int .u64 a1, .int .u64 a2] w fun e w' => e = .returned (.tuple #[.int .u64 r1, .int .u64 r2]) ∧ Drawn0 w w' := by
  have H : ((bits_Mul.f a0 a1).bind fun bt174 => ((bits_Add.f bt174.2 a2 0).bind fun bt176 => (some (IntKind.u64.wrap (bt174.1 + bt176.2), bt176.1)))) = some (r1, r2) := h
  clear h
  replace H := Option.bind_eq_some_iff.mp H
  obtain ⟨⟨t174, t175⟩, A40, H⟩ := H
  replace H : ((bits_Add.f t175 a2 0).bind fun bt176 => (some (IntKind.u64.wrap (t174 + bt176.2), bt176.1))) = some (r1, r2) := H
  have A4 := Aside0.mk A40
  clear A40
  replace H := Option.bind_eq_some_iff.mp H
  obtain ⟨⟨t176, t177⟩, A50, H⟩ := H
  replace H : (some (IntKind.u64.wrap (t174 + t177), t176)) = some (r1, r2) := H
  have A5 := Aside0.mk A50
  clear A50
  simp only [Option.some.injEq, Prod.mk.injEq] at H
  obtain ⟨rfl, rfl⟩ := H
  go_enter Tryz.func101, Tryz.ntmps101
  go_wp2_with (first | ((with_reducible refine gate_callee (f := 78) rfl ?_); refine goesL_ (some 14) rfl rfl Tryz.func78 (by kernel_rfl) rfl #[.int .u64 a0, .int .u64 a1] rfl (by (try simp only [List.map_toArray, List.map_cons, List.map_nil]); first | done | rfl | (simp only [List.length_drop, List.length_take]; rfl)) ?_; (with_reducible refine (bits_Mul.calls a0 a1 t174 t175 _ A4.out).mono ?_); rintro e w' ⟨rfl, ⟨nd, rfl⟩⟩; refine ⟨_, rfl, ?_⟩) | ((with_reducible refine gate_callee (f := 77) rfl ?_); refine goesL_ (some 20) rfl rfl Tryz.func77 (by kernel_rfl) rfl #[.int .u64 t175, .int .u64 a2, .int .u64 0] rfl (by (try simp only [List.map_toArray, List.map_cons, List.map_nil]); first | done | rfl | (simp only [List.length_drop, List.length_take]; rfl)) ?_; (with_reducible refine (bits_Add.calls t175 a2 0 t176 t177 _ A5.out).mono ?_); rintro e w' ⟨rfl, ⟨nd, rfl⟩⟩; refine ⟨_, rfl, ?_⟩))
  go_ret2
  exact ⟨by first | rfl | (simp; done) | (simp [*]; done), by repeat (first | exact Drawn0.refl _ | apply Drawn0.step)⟩

/-! ### bigall_low64: function 24 -/
def bigall_low64.f (l0 : List Int) : Option (Int) := if (l0.length : Int) = 0 then (some 0) else (if 0 < (l0.length : Int) then (some (rd l0 0)) else (none))
set_option maxHeartbeats 8000000 in
set_option maxRecDepth 100000 in
theorem bigall_low64.calls (A0 : Option Addr) (c0 : Nat) (l0 : List Int) (r : Int) (w : World) (hr0 : Kd.C (Kd.int .u64) w A0 l0.length l0) (hc0 : l0.length ≤ c0) (h : bigall_low64.f l0 = some r) :
    Calls Tryz.prog 24 #[.slice A0 l0.length c0] w fun e w' => e = .returned (.int .u64 r) ∧ Drawn0 w w' := by
  have HR0 := Aside0.mk hr0
  have HC0 := Aside0.mk hc0
  clear hr0 hc0
  have H : (if (l0.length : Int) = 0 then (some 0) else (if 0 < (l0.length : Int) then (some (rd l0 0)) else (none))) = some r := h
  clear h
  by_cases c2 : (l0.length : Int) = 0
  · rw [if_pos c2] at H
    have c2b0 : ((l0.length : Int) == 0) = true := beq_iff_eq.mpr c2
    have c2b1 : ((l0.length : Int) != 0) = false := bne_eq_false_iff_eq.mpr c2
    clear c2
    obtain rfl := Option.some.inj H
    go_enter Tryz.func24, Tryz.ntmps24
    go_wp2
    go_ret
    exact ⟨by first | rfl | (simp; done) | (simp [*]; done), by repeat (first | exact Drawn0.refl _ | apply Drawn0.step)⟩
  · rw [if_neg c2] at H
    have c2b0 : ((l0.length : Int) == 0) = false := beq_eq_false_iff_ne.mpr c2
    have c2b1 : ((l0.length : Int) != 0) = true := bne_iff_ne.mpr c2
    have c2b2 : ¬ (l0 = []) := fun h_ => c2 (by rw [h_]; rfl)
    by_cases c3 : 0 < (l0.length : Int)
    · rw [if_pos c3] at H
      have c3b0 : decide (0 < (l0.length : Int)) = true := decide_eq_true c3
      have c3b1 : decide (0 < l0.length) = true := decide_eq_true (by omega)
      clear c3
      obtain rfl := Option.some.inj H
      have p107 : 0 ≤ (0 : Int) := (by omega)
      have q107 : 0 < (l0.length : Int) := of_decide_eq_true (by first | (with_reducible assumption) | assumption)
      obtain ⟨ad107, e107, hx107_0⟩ := Kd.at_int HR0.out 0 p107 q107
      cases e107
      have qi107 : (0 < l0.length) = True := eq_true (by omega)
      (try rw [show ((0 : Int)).toNat = 0 from rfl] at hx107_0)
      (try rw [Addr.add_zero'] at hx107_0)
      replace p107 := eq_true p107
      replace q107 := eq_true q107
      go_enter Tryz.func24, Tryz.ntmps24
      go_wp2
      go_ret
      exact ⟨by first | rfl | (simp; done) | (simp [*]; done), by repeat (first | exact Drawn0.refl _ | apply Drawn0.step)⟩
    · rw [if_neg c3] at H
      exact absurd H (by simp)

-- NOT PRINTED: function 17 (bigall_Int_Uint64)

-- NOT PRINTED: function 29 (bigall_alias)

-- NOT PRINTED: function 38 (bigall_nat_set)

-- NOT PRINTED: function 30 (bigall_Int_Set)

/-! ### bigall_nat_bitLen: function 25 -/
def bigall_nat_bitLen.f (k : Nat) (l0 : List Int) : Option (Int) := if (wrap64 ((l0.length : Int) - 1)) ≥ 0 then (if 0 ≤ (wrap64 ((l0.length : Int) - 1)) then (if (wrap64 ((l0.length : Int) - 1)) < (l0.length : Int) then ((bits_Len.f k (Go.bits .or .u64 (Go.bits .or .u64 (Go.bits .or .u64 (Go.bits .or .u64 (Go.bits .or .u64 (Go.bits .or .u64 (rd l0 (wrap64 ((l0.length : Int) - 1))) ((rd l0 (wrap64 ((l0.length : Int) - 1))) / 2)) ((Go.bits .or .u64 (rd l0 (wrap64 ((l0.length : Int) - 1))) ((rd l0 (wrap64 ((l0.length : Int) - 1))) / 2)) / 4)) ((Go.bits .or .u64 (Go.bits .or .u64 (rd l0 (wrap64 ((l0.length : Int) - 1))) ((rd l0 (wrap64 ((l0.length : Int) - 1))) / 2)) ((Go.bits .or .u64 (rd l0 (wrap64 ((l0.length : Int) - 1))) ((rd l0 (wrap64 ((l0.length : Int) - 1))) / 2)) / 4)) / 16)) ((Go.bits .or .u64 (Go.bits .or .u64 (Go.bits .or .u64 (rd l0 (wrap64 ((l0.length : Int) - 1))) ((rd l0 (wrap64 ((l0.length : Int) - 1))) / 2)) ((Go.bits .or .u64 (rd l0 (wrap64 ((l0.length : Int) - 1))) ((rd l0 (wrap64 ((l0.length : Int) - 1))) / 2)) / 4)) ((Go.bits .or .u64 (Go.bits .or .u64 (rd l0 (wrap64 ((l0.length : Int) - 1))) ((rd l0 (wrap64 ((l0.length : Int) - 1))) / 2)) ((Go.bits .or .u64 (rd l0 (wrap64 ((l0.length : Int) - 1))) ((rd l0 (wrap64 ((l0.length : Int) - 1))) / 2)) / 4)) / 16)) / 256)) ((Go.bits .or .u64 (Go.bits .or .u64 (Go.bits .or .u64 (Go.bits .or .u64 (rd l0 (wrap64 ((l0.length : Int) - 1))) ((rd l0 (wrap64 ((l0.length : Int) - 1))) / 2)) ((Go.bits .or .u64 (rd l0 (wrap64 ((l0.length : Int) - 1))) ((rd l0 (wrap64 ((l0.length : Int) - 1))) / 2)) / 4)) ((Go.bits .or .u64 (Go.bits .or .u64 (rd l0 (wrap64 ((l0.length : Int) - 1))) ((rd l0 (wrap64 ((l0.length : Int) - 1))) / 2)) ((Go.bits .or .u64 (rd l0 (wrap64 ((l0.length : Int) - 1))) ((rd l0 (wrap64 ((l0.length : Int) - 1))) / 2)) / 4)) / 16)) ((Go.bits .or .u64 (Go.bits .or .u64 (Go.bits .or .u64 (rd l0 (wrap64 ((l0.length : Int) - 1))) ((rd l0 (wrap64 ((l0.length : Int) - 1))) / 2)) ((Go.bits .or .u64 (rd l0 (wrap64 ((l0.length : Int) - 1))) ((rd l0 (wrap64 ((l0.length : Int) - 1))) / 2)) / 4)) ((Go.bits .or .u64 (Go.bits .or .u64 (rd l0 (wrap64 ((l0.length : Int) - 1))) ((rd l0 (wrap64 ((l0.length : Int) - 1))) / 2)) ((Go.bits .or .u64 (rd l0 (wrap64 ((l0.length : Int) - 1))) ((rd l0 (wrap64 ((l0.length : Int) - 1))) / 2)) / 4)) / 16)) / 256)) / 65536)) (((Go.bits .or .u64 (Go.bits .or .u64 (Go.bits .or .u64 (Go.bits .or .u64 (Go.bits .or .u64 (rd l0 (wrap64 ((l0.length : Int) - 1))) ((rd l0 (wrap64 ((l0.length : Int) - 1))) / 2)) ((Go.bits .or .u64 (rd l0 (wrap64 ((l0.length : Int) - 1))) ((rd l0 (wrap64 ((l0.length : Int) - 1))) / 2)) / 4)) ((Go.bits .or .u64 (Go.bits .or .u64 (rd l0 (wrap64 ((l0.length : Int) - 1))) ((rd l0 (wrap64 ((l0.length : Int) - 1))) / 2)) ((Go.bits .or .u64 (rd l0 (wrap64 ((l0.length : Int) - 1))) ((rd l0 (wrap64 ((l0.length : Int) - 1))) / 2)) / 4)) / 16)) ((Go.bits .or .u64 (Go.bits .or .u64 (Go.bits .or .u64 (rd l0 (wrap64 ((l0.length : Int) - 1))) ((rd l0 (wrap64 ((l0.length : Int) - 1))) / 2)) ((Go.bits .or .u64 (rd l0 (wrap64 ((l0.length : Int) - 1))) ((rd l0 (wrap64 ((l0.length : Int) - 1))) / 2)) / 4)) ((Go.bits .or .u64 (Go.bits .or .u64 (rd l0 (wrap64 ((l0.length : Int) - 1))) ((rd l0 (wrap64 ((l0.length : Int) - 1))) / 2)) ((Go.bits .or .u64 (rd l0 (wrap64 ((l0.length : Int) - 1))) ((rd l0 (wrap64 ((l0.length : Int) - 1))) / 2)) / 4)) / 16)) / 256)) ((Go.bits .or .u64 (Go.bits .or .u64 (Go.bits .or .u64 (Go.bits .or .u64 (rd l0 (wrap64 ((l0.length : Int) - 1))) ((rd l0 (wrap64 ((l0.length : Int) - 1))) / 2)) ((Go.bits .or .u64 (rd l0 (wrap64 ((l0.length : Int) - 1))) ((rd l0 (wrap64 ((l0.length : Int) - 1))) / 2)) / 4)) ((Go.bits .or .u64 (Go.bits .or .u64 (rd l0 (wrap64 ((l0.length : Int) - 1))) ((rd l0 (wrap64 ((l0.length : Int) - 1))) / 2)) ((Go.bits .or .u64 (rd l0 (wrap64 ((l0.length : Int) - 1))) ((rd l0 (wrap64 ((l0.length : Int) - 1))) / 2)) / 4)) / 16)) ((Go.bits .or .u64 (Go.bits .or .u64 (Go.bits .or .u64 (rd l0 (wrap64 ((l0.length : Int) - 1))) ((rd l0 (wrap64 ((l0.length : Int) - 1))) / 2)) ((Go.bits .or .u64 (rd l0 (wrap64 ((l0.length : Int) - 1))) ((rd l0 (wrap64 ((l0.length : Int) - 1))) / 2)) / 4)) ((Go.bits .or .u64 (Go.bits .or .u64 (rd l0 (wrap64 ((l0.length : Int) - 1))) ((rd l0 (wrap64 ((l0.length : Int) - 1))) / 2)) ((Go.bits .or .u64 (rd l0 (wrap64 ((l0.length : Int) - 1))) ((rd l0 (wrap64 ((l0.length : Int) - 1))) / 2)) / 4)) / 16)) / 256)) / 65536)) / 65536) / 65536))).bind fun t224 => (some (wrap64 ((wrap64 ((wrap64 ((l0.length : Int) - 1)) * 64)) + t224)))) else (none)) else (none)) else (some 0)
theorem bigall_nat_bitLen.mono : ∀ a0 k, LeO (bigall_nat_bitLen.f k a0) (bigall_nat_bitLen.f (k + 1) a0) := by
  intro a0 k
  unfold bigall_nat_bitLen.f
  repeat' first
      | (with_reducible exact bits_Len.mono _ _)
      | (with_reducible exact LeO.refl _)
      | (with_reducible exact LeO.none _)
      | (with_reducible refine LeO.ite ?_ ?_)
      | (with_reducible refine LeO.bind ?_ (fun _ => ?_))
      | exact bits_Len.mono _ _
      | exact LeO.none _
      | refine LeO.ite ?_ ?_
      | refine LeO.bind ?_ (fun _ => ?_)
set_option maxHeartbeats 8000000 in
set_option maxRecDepth 100000 in
theorem bigall_nat_bitLen.calls (k : Nat) (A0 : Option Addr) (c0 : Nat) (l0 : List Int) (r : Int) (w : World) (hr0 : Kd.C (Kd.int .u64) w A0 l0.length l0) (hc0 : l0.length ≤ c0) (h : bigall_nat_bitLen.f k l0 = some r) :
    Calls Tryz.prog 25 #[.slice A0 l0.length c0] w fun e w' => e = .returned (.int .i64 r) ∧ Drawn0 w w' := by
  have HR0 := Aside0.mk hr0
  have HC0 := Aside0.mk hc0
  clear hr0 hc0
  have H : (if (wrap64 ((l0.length : Int) - 1)) ≥ 0 then (if 0 ≤ (wrap64 ((l0.length : Int) - 1)) then (if (wrap64 ((l0.length : Int) - 1)) < (l0.length : Int) then ((bits_Len.f k (Go.bits .or .u64 (Go.bits .or .u64 (Go.bits .or .u64 (Go.bits .or .u64 (Go.bits .or .u64 (Go.bits .or .u64 (rd l0 (wrap64 ((l0.length : Int) - 1))) ((rd l0 (wrap64 ((l0.length : Int) - 1))) / 2)) ((Go.bits .or .u64 (rd l0 (wrap64 ((l0.length : Int) - 1))) ((rd l0 (wrap64 ((l0.length : Int) - 1))) / 2)) / 4)) ((Go.bits .or .u64 (Go.bits .or .u64 (rd l0 (wrap64 ((l0.length : Int) - 1))) ((rd l0 (wrap64 ((l0.length : Int) - 1))) / 2)) ((Go.bits .or .u64 (rd l0 (wrap64 ((l0.length : Int) - 1))) ((rd l0 (wrap64 ((l0.length : Int) - 1))) / 2)) / 4)) / 16)) ((Go.bits .or .u64 (Go.bits .or .u64 (Go.bits .or .u64 (rd l0 (wrap64 ((l0.length : Int) - 1))) ((rd l0 (wrap64 ((l0.length : Int) - 1))) / 2)) ((Go.bits .or .u64 (rd l0 (wrap64 ((l0.length : Int) - 1))) ((rd l0 (wrap64 ((l0.length : Int) - 1))) / 2)) / 4)) ((Go.bits .or .u64 (Go.bits .or .u64 (rd l0 (wrap64 ((l0.length : Int) - 1))) ((rd l0 (wrap64 ((l0.length : Int) - 1))) / 2)) ((Go.bits .or .u64 (rd l0 (wrap64 ((l0.length : Int) - 1))) ((rd l0 (wrap64 ((l0.length : Int) - 1))) / 2)) / 4)) / 16)) / 256)) ((Go.bits .or .u64 (Go.bits .or .u64 (Go.bits .or .u64 (Go.bits .or .u64 (rd l0 (wrap64 ((l0.length : Int) - 1))) ((rd l0 (wrap64 ((l0.length : Int) - 1))) / 2)) ((Go.bits .or .u64 (rd l0 (wrap64 ((l0.length : Int) - 1))) ((rd l0 (wrap64 ((l0.length : Int) - 1))) / 2)) / 4)) ((Go.bits .or .u64 (Go.bits .or .u64 (rd l0 (wrap64 ((l0.length : Int) - 1))) ((rd l0 (wrap64 ((l0.length : Int) - 1))) / 2)) ((Go.bits .or .u64 (rd l0 (wrap64 ((l0.length : Int) - 1))) ((rd l0 (wrap64 ((l0.length : Int) - 1))) / 2)) / 4)) / 16)) ((Go.bits .or .u64 (Go.bits .or .u64 (Go.bits .or .u64 (rd l0 (wrap64 ((l0.length : Int) - 1))) ((rd l0 (wrap64 ((l0.length : Int) - 1))) / 2)) ((Go.bits .or .u64 (rd l0 (wrap64 ((l0.length : Int) - 1))) ((rd l0 (wrap64 ((l0.length : Int) - 1))) / 2)) / 4)) ((Go.bits .or .u64 (Go.bits .or .u64 (rd l0 (wrap64 ((l0.length : Int) - 1))) ((rd l0 (wrap64 ((l0.length : Int) - 1))) / 2)) ((Go.bits .or .u64 (rd l0 (wrap64 ((l0.length : Int) - 1))) ((rd l0 (wrap64 ((l0.length : Int) - 1))) / 2)) / 4)) / 16)) / 256)) / 65536)) (((Go.bits .or .u64 (Go.bits .or .u64 (Go.bits .or .u64 (Go.bits .or .u64 (Go.bits .or .u64 (rd l0 (wrap64 ((l0.length : Int) - 1))) ((rd l0 (wrap64 ((l0.length : Int) - 1))) / 2)) ((Go.bits .or .u64 (rd l0 (wrap64 ((l0.length : Int) - 1))) ((rd l0 (wrap64 ((l0.length : Int) - 1))) / 2)) / 4)) ((Go.bits .or .u64 (Go.bits .or .u64 (rd l0 (wrap64 ((l0.length : Int) - 1))) ((rd l0 (wrap64 ((l0.length : Int) - 1))) / 2)) ((Go.bits .or .u64 (rd l0 (wrap64 ((l0.length : Int) - 1))) ((rd l0 (wrap64 ((l0.length : Int) - 1))) / 2)) / 4)) / 16)) ((Go.bits .or .u64 (Go.bits .or .u64 (Go.bits .or .u64 (rd l0 (wrap64 ((l0.length : Int) - 1))) ((rd l0 (wrap64 ((l0.length : Int) - 1))) / 2)) ((Go.bits .or .u64 (rd l0 (wrap64 ((l0.length : Int) - 1))) ((rd l0 (wrap64 ((l0.length : Int) - 1))) / 2)) / 4)) ((Go.bits .or .u64 (Go.bits .or .u64 (rd l0 (wrap64 ((l0.length : Int) - 1))) ((rd l0 (wrap64 ((l0.length : Int) - 1))) / 2)) ((Go.bits .or .u64 (rd l0 (wrap64 ((l0.length : Int) - 1))) ((rd l0 (wrap64 ((l0.length : Int) - 1))) / 2)) / 4)) / 16)) / 256)) ((Go.bits .or .u64 (Go.bits .or .u64 (Go.bits .or .u64 (Go.bits .or .u64 (rd l0 (wrap64 ((l0.length : Int) - 1))) ((rd l0 (wrap64 ((l0.length : Int) - 1))) / 2)) ((Go.bits .or .u64 (rd l0 (wrap64 ((l0.length : Int) - 1))) ((rd l0 (wrap64 ((l0.length : Int) - 1))) / 2)) / 4)) ((Go.bits .or .u64 (Go.bits .or .u64 (rd l0 (wrap64 ((l0.length : Int) - 1))) ((rd l0 (wrap64 ((l0.length : Int) - 1))) / 2)) ((Go.bits .or .u64 (rd l0 (wrap64 ((l0.length : Int) - 1))) ((rd l0 (wrap64 ((l0.length : Int) - 1))) / 2)) / 4)) / 16)) ((Go.bits .or .u64 (Go.bits .or .u64 (Go.bits .or .u64 (rd l0 (wrap64 ((l0.length : Int) - 1))) ((rd l0 (wrap64 ((l0.length : Int) - 1))) / 2)) ((Go.bits .or .u64 (rd l0 (wrap64 ((l0.length : Int) - 1))) ((rd l0 (wrap64 ((l0.length : Int) - 1))) / 2)) / 4)) ((Go.bits .or .u64 (Go.bits .or .u64 (rd l0 (wrap64 ((l0.length : Int) - 1))) ((rd l0 (wrap64 ((l0.length : Int) - 1))) / 2)) ((Go.bits .or .u64 (rd l0 (wrap64 ((l0.length : Int) - 1))) ((rd l0 (wrap64 ((l0.length : Int) - 1))) / 2)) / 4)) / 16)) / 256)) / 65536)) / 65536) / 65536))).bind fun t224 => (some (wrap64 ((wrap64 ((wrap64 ((l0.length : Int) - 1)) * 64)) + t224)))) else (none)) else (none)) else (some 0)) = some r := h
  clear h
  by_cases c2 : (wrap64 ((l0.length : Int) - 1)) ≥ 0
  · rw [if_pos c2] at H
    have c2b0 : decide (0 ≤ (wrap64 ((l0.length : Int) - 1))) = true := decide_eq_true c2
    clear c2
    obtain ⟨ji3, hji3⟩ : ∃ j_ : Int, (wrap64 ((l0.length : Int) - 1)) = j_ := ⟨_, rfl⟩
    replace H : (if 0 ≤ (ji3) then (if (ji3) < (l0.length : Int) then ((bits_Len.f k (Go.bits .or .u64 (Go.bits .or .u64 (Go.bits .or .u64 (Go.bits .or .u64 (Go.bits .or .u64 (Go.bits .or .u64 (rd l0 (ji3)) ((rd l0 (ji3)) / 2)) ((Go.bits .or .u64 (rd l0 (ji3)) ((rd l0 (ji3)) / 2)) / 4)) ((Go.bits .or .u64 (Go.bits .or .u64 (rd l0 (ji3)) ((rd l0 (ji3)) / 2)) ((Go.bits .or .u64 (rd l0 (ji3)) ((rd l0 (ji3)) / 2)) / 4)) / 16)) ((Go.bits .or .u64 (Go.bits .or .u64 (Go.bits .or .u64 (rd l0 (ji3)) ((rd l0 (ji3)) / 2)) ((Go.bits .or .u64 (rd l0 (ji3)) ((rd l0 (ji3)) / 2)) / 4)) ((Go.bits .or .u64 (Go.bits .or .u64 (rd l0 (ji3)) ((rd l0 (ji3)) / 2)) ((Go.bits .or .u64 (rd l0 (ji3)) ((rd l0 (ji3)) / 2)) / 4)) / 16)) / 256)) ((Go.bits .or .u64 (Go.bits .or .u64 (Go.bits .or .u64 (Go.bits .or .u64 (rd l0 (ji3)) ((rd l0 (ji3)) / 2)) ((Go.bits .or .u64 (rd l0 (ji3)) ((rd l0 (ji3)) / 2)) / 4)) ((Go.bits .or .u64 (Go.bits .or .u64 (rd l0 (ji3)) ((rd l0 (ji3)) / 2)) ((Go.bits .or .u64 (rd l0 (ji3)) ((rd l0 (ji3)) / 2)) / 4)) / 16)) ((Go.bits .or .u64 (Go.bits .or .u64 (Go.bits .or .u64 (rd l0 (ji3)) ((rd l0 (ji3)) / 2)) ((Go.bits .or .u64 (rd l0 (ji3)) ((rd l0 (ji3)) / 2)) / 4)) ((Go.bits .or .u64 (Go.bits .or .u64 (rd l0 (ji3)) ((rd l0 (ji3)) / 2)) ((Go.bits .or .u64 (rd l0 (ji3)) ((rd l0 (ji3)) / 2)) / 4)) / 16)) / 256)) / 65536)) (((Go.bits .or .u64 (Go.bits .or .u64 (Go.bits .or .u64 (Go.bits .or .u64 (Go.bits .or .u64 (rd l0 (ji3)) ((rd l0 (ji3)) / 2)) ((Go.bits .or .u64 (rd l0 (ji3)) ((rd l0 (ji3)) / 2)) / 4)) ((Go.bits .or .u64 (Go.bits .or .u64 (rd l0 (ji3)) ((rd l0 (ji3)) / 2)) ((Go.bits .or .u64 (rd l0 (ji3)) ((rd l0 (ji3)) / 2)) / 4)) / 16)) ((Go.bits .or .u64 (Go.bits .or .u64 (Go.bits .or .u64 (rd l0 (ji3)) ((rd l0 (ji3)) / 2)) ((Go.bits .or .u64 (rd l0 (ji3)) ((rd l0 (ji3)) / 2)) / 4)) ((Go.bits .or .u64 (Go.bits .or .u64 (rd l0 (ji3)) ((rd l0 (ji3)) / 2)) ((Go.bits .or .u64 (rd l0 (ji3)) ((rd l0 (ji3)) / 2)) / 4)) / 16)) / 256)) ((Go.bits .or .u64 (Go.bits .or .u64 (Go.bits .or .u64 (Go.bits .or .u64 (rd l0 (ji3)) ((rd l0 (ji3)) / 2)) ((Go.bits .or .u64 (rd l0 (ji3)) ((rd l0 (ji3)) / 2)) / 4)) ((Go.bits .or .u64 (Go.bits .or .u64 (rd l0 (ji3)) ((rd l0 (ji3)) / 2)) ((Go.bits .or .u64 (rd l0 (ji3)) ((rd l0 (ji3)) / 2)) / 4)) / 16)) ((Go.bits .or .u64 (Go.bits .or .u64 (Go.bits .or .u64 (rd l0 (ji3)) ((rd l0 (ji3)) / 2)) ((Go.bits .or .u64 (rd l0 (ji3)) ((rd l0 (ji3)) / 2)) / 4)) ((Go.bits .or .u64 (Go.bits .or .u64 (rd l0 (ji3)) ((rd l0 (ji3)) / 2)) ((Go.bits .or .u64 (rd l0 (ji3)) ((rd l0 (ji3)) / 2)) / 4)) / 16)) / 256)) / 65536)) / 65536) / 65536))).bind fun t224 => (some (wrap64 ((wrap64 ((ji3) * 64)) + t224)))) else (none)) else (none)) = some r := by first | (rw [hji3] at H; exact H) | (simp only [hji3] at H ⊢; exact H)
    (try rw [hji3] at c2b0)
    have hji3w : (IntKind.i64.wrap ((l0.length : Int) - 1)) = ji3 := (i64_w _).trans hji3
    by_cases c4 : 0 ≤ (ji3)
    · rw [if_pos c4] at H
      have c4b0 : decide (0 ≤ (ji3)) = true := decide_eq_true c4
      clear c4
      by_cases c5 : (ji3) < (l0.length : Int)
      · rw [if_pos c5] at H
        have c5b0 : decide ((ji3) < (l0.length : Int)) = true := decide_eq_true c5
        clear c5
        replace H := Option.bind_eq_some_iff.mp H
        obtain ⟨t224, A60, H⟩ := H
        replace H : (some (wrap64 ((wrap64 ((ji3) * 64)) + t224))) = some r := H
        have A6 := Aside0.mk A60
        clear A60
        obtain rfl := Option.some.inj H
        have p223 : 0 ≤ ((ji3) : Int) := of_decide_eq_true (by first | (with_reducible assumption) | assumption)
        have q223 : (ji3) < (l0.length : Int) := of_decide_eq_true (by first | (with_reducible assumption) | assumption)
        obtain ⟨ad223, e223, hx223_0⟩ := Kd.at_int HR0.out (ji3) p223 q223
        cases e223
        replace p223 := eq_true p223
        replace q223 := eq_true q223
        go_enter Tryz.func25, Tryz.ntmps25
        go_wp2_with (first | ((with_reducible refine gate_callee (f := 37) rfl ?_); refine goesL_ (some 42) rfl rfl Tryz.func37 (by kernel_rfl) rfl #[.int .u64 (Go.bits .or .u64 (Go.bits .or .u64 (Go.bits .or .u64 (Go.bits .or .u64 (Go.bits .or .u64 (Go.bits .or .u64 (rd l0 (ji3)) ((rd l0 (ji3)) / 2)) ((Go.bits .or .u64 (rd l0 (ji3)) ((rd l0 (ji3)) / 2)) / 4)) ((Go.bits .or .u64 (Go.bits .or .u64 (rd l0 (ji3)) ((rd l0 (ji3)) / 2)) ((Go.bits .or .u64 (rd l0 (ji3)) ((rd l0 (ji3)) / 2)) / 4)) / 16)) ((Go.bits .or .u64 (Go.bits .or .u64 (Go.bits .or .u64 (rd l0 (ji3)) ((rd l0 (ji3)) / 2)) ((Go.bits .or .u64 (rd l0 (ji3)) ((rd l0 (ji3)) / 2)) / 4)) ((Go.bits .or .u64 (Go.bits .or .u64 (rd l0 (ji3)) ((rd l0 (ji3)) / 2)) ((Go.bits .or .u64 (rd l0 (ji3)) ((rd l0 (ji3)) / 2)) / 4)) / 16)) / 256)) ((Go.bits .or .u64 (Go.bits .or .u64 (Go.bits .or .u64 (Go.bits .or .u64 (rd l0 (ji3)) ((rd l0 (ji3)) / 2)) ((Go.bits .or .u64 (rd l0 (ji3)) ((rd l0 (ji3)) / 2)) / 4)) ((Go.bits .or .u64 (Go.bits .or .u64 (rd l0 (ji3)) ((rd l0 (ji3)) / 2)) ((Go.bits .or .u64 (rd l0 (ji3)) ((rd l0 (ji3)) / 2)) / 4)) / 16)) ((Go.bits .or .u64 (Go.bits .or .u64 (Go.bits .or .u64 (rd l0 (ji3)) ((rd l0 (ji3)) / 2)) ((Go.bits .or .u64 (rd l0 (ji3)) ((rd l0 (ji3)) / 2)) / 4)) ((Go.bits .or .u64 (Go.bits .or .u64 (rd l0 (ji3)) ((rd l0 (ji3)) / 2)) ((Go.bits .or .u64 (rd l0 (ji3)) ((rd l0 (ji3)) / 2)) / 4)) / 16)) / 256)) / 65536)) (((Go.bits .or .u64 (Go.bits .or .u64 (Go.bits .or .u64 (Go.bits .or .u64 (Go.bits .or .u64 (rd l0 (ji3)) ((rd l0 (ji3)) / 2)) ((Go.bits .or .u64 (rd l0 (ji3)) ((rd l0 (ji3)) / 2)) / 4)) ((Go.bits .or .u64 (Go.bits .or .u64 (rd l0 (ji3)) ((rd l0 (ji3)) / 2)) ((Go.bits .or .u64 (rd l0 (ji3)) ((rd l0 (ji3)) / 2)) / 4)) / 16)) ((Go.bits .or .u64 (Go.bits .or .u64 (Go.bits .or .u64 (rd l0 (ji3)) ((rd l0 (ji3)) / 2)) ((Go.bits .or .u64 (rd l0 (ji3)) ((rd l0 (ji3)) / 2)) / 4)) ((Go.bits .or .u64 (Go.bits .or .u64 (rd l0 (ji3)) ((rd l0 (ji3)) / 2)) ((Go.bits .or .u64 (rd l0 (ji3)) ((rd l0 (ji3)) / 2)) / 4)) / 16)) / 256)) ((Go.bits .or .u64 (Go.bits .or .u64 (Go.bits .or .u64 (Go.bits .or .u64 (rd l0 (ji3)) ((rd l0 (ji3)) / 2)) ((Go.bits .or .u64 (rd l0 (ji3)) ((rd l0 (ji3)) / 2)) / 4)) ((Go.bits .or .u64 (Go.bits .or .u64 (rd l0 (ji3)) ((rd l0 (ji3)) / 2)) ((Go.bits .or .u64 (rd l0 (ji3)) ((rd l0 (ji3)) / 2)) / 4)) / 16)) ((Go.bits .or .u64 (Go.bits .or .u64 (Go.bits .or .u64 (rd l0 (ji3)) ((rd l0 (ji3)) / 2)) ((Go.bits .or .u64 (rd l0 (ji3)) ((rd l0 (ji3)) / 2)) / 4)) ((Go.bits .or .u64 (Go.bits .or .u64 (rd l0 (ji3)) ((rd l0 (ji3)) / 2)) ((Go.bits .or .u64 (rd l0 (ji3)) ((rd l0 (ji3)) / 2)) / 4)) / 16)) / 256)) / 65536)) / 65536) / 65536))] rfl (by (try simp only [List.map_toArray, List.map_cons, List.map_nil]); first | done | (simp only [hji3]; rfl) | rfl | (simp only [List.length_drop, List.length_take]; rfl)) ?_; (with_reducible refine (bits_Len.calls k (Go.bits .or .u64 (Go.bits .or .u64 (Go.bits .or .u64 (Go.bits .or .u64 (Go.bits .or .u64 (Go.bits .or .u64 (rd l0 (ji3)) ((rd l0 (ji3)) / 2)) ((Go.bits .or .u64 (rd l0 (ji3)) ((rd l0 (ji3)) / 2)) / 4)) ((Go.bits .or .u64 (Go.bits .or .u64 (rd l0 (ji3)) ((rd l0 (ji3)) / 2)) ((Go.bits .or .u64 (rd l0 (ji3)) ((rd l0 (ji3)) / 2)) / 4)) / 16)) ((Go.bits .or .u64 (Go.bits .or .u64 (Go.bits .or .u64 (rd l0 (ji3)) ((rd l0 (ji3)) / 2)) ((Go.bits .or .u64 (rd l0 (ji3)) ((rd l0 (ji3)) / 2)) / 4)) ((Go.bits .or .u64 (Go.bits .or .u64 (rd l0 (ji3)) ((rd l0 (ji3)) / 2)) ((Go.bits .or .u64 (rd l0 (ji3)) ((rd l0 (ji3)) / 2)) / 4)) / 16)) / 256)) ((Go.bits .or .u64 (Go.bits .or .u64 (Go.bits .or .u64 (Go.bits .or .u64 (rd l0 (ji3)) ((rd l0 (ji3)) / 2)) ((Go.bits .or .u64 (rd l0 (ji3)) ((rd l0 (ji3)) / 2)) / 4)) ((Go.bits .or .u64 (Go.bits .or .u64 (rd l0 (ji3)) ((rd l0 (ji3)) / 2)) ((Go.bits .or .u64 (rd l0 (ji3)) ((rd l0 (ji3)) / 2)) / 4)) / 16)) ((Go.bits .or .u64 (Go.bits .or .u64 (Go.bits .or .u64 (rd l0 (ji3)) ((rd l0 (ji3)) / 2)) ((Go.bits .or .u64 (rd l0 (ji3)) ((rd l0 (ji3)) / 2)) / 4)) ((Go.bits .or .u64 (Go.bits .or .u64 (rd l0 (ji3)) ((rd l0 (ji3)) / 2)) ((Go.bits .or .u64 (rd l0 (ji3)) ((rd l0 (ji3)) / 2)) / 4)) / 16)) / 256)) / 65536)) (((Go.bits .or .u64 (Go.bits .or .u64 (Go.bits .or .u64 (Go.bits .or .u64 (Go.bits .or .u64 (rd l0 (ji3)) ((rd l0 (ji3)) / 2)) ((Go.bits .or .u64 (rd l0 (ji3)) ((rd l0 (ji3)) / 2)) / 4)) ((Go.bits .or .u64 (Go.bits .or .u64 (rd l0 (ji3)) ((rd l0 (ji3)) / 2)) ((Go.bits .or .u64 (rd l0 (ji3)) ((rd l0 (ji3)) / 2)) / 4)) / 16)) ((Go.bits .or .u64 (Go.bits .or .u64 (Go.bits .or .u64 (rd l0 (ji3)) ((rd l0 (ji3)) / 2)) ((Go.bits .or .u64 (rd l0 (ji3)) ((rd l0 (ji3)) / 2)) / 4)) ((Go.bits .or .u64 (Go.bits .or .u64 (rd l0 (ji3)) ((rd l0 (ji3)) / 2)) ((Go.bits .or .u64 (rd l0 (ji3)) ((rd l0 (ji3)) / 2)) / 4)) / 16)) / 256)) ((Go.bits .or .u64 (Go.bits .or .u64 (Go.bits .or .u64 (Go.bits .or .u64 (rd l0 (ji3)) ((rd l0 (ji3)) / 2)) ((Go.bits .or .u64 (rd l0 (ji3)) ((rd l0 (ji3)) / 2)) / 4)) ((Go.bits .or .u64 (Go.bits .or .u64 (rd l0 (ji3)) ((rd l0 (ji3)) / 2)) ((Go.bits .or .u64 (rd l0 (ji3)) ((rd l0 (ji3)) / 2)) / 4)) / 16)) ((Go.bits .or .u64 (Go.bits .or .u64 (Go.bits .or .u64 (rd l0 (ji3)) ((rd l0 (ji3)) / 2)) ((Go.bits .or .u64 (rd l0 (ji3)) ((rd l0 (ji3)) / 2)) / 4)) ((Go.bits .or .u64 (Go.bits .or .u64 (rd l0 (ji3)) ((rd l0 (ji3)) / 2)) ((Go.bits .or .u64 (rd l0 (ji3)) ((rd l0 (ji3)) / 2)) / 4)) / 16)) / 256)) / 65536)) / 65536) / 65536)) t224 _ A6.out).mono ?_); rintro e w' ⟨rfl, ⟨nd, rfl⟩⟩; refine ⟨_, rfl, ?_⟩))
        go_ret
        exact ⟨by first | rfl | (simp; done) | (simp only [← hji3] <;> (first | rfl | simp)) | (simp [*]; done), by repeat (first | exact Drawn0.refl _ | apply Drawn0.step)⟩
      · rw [if_neg c5] at H
        exact absurd H (by simp)
    · rw [if_neg c4] at H
      exact absurd H (by simp)
  · rw [if_neg c2] at H
    have c2b0 : decide (0 ≤ (wrap64 ((l0.length : Int) - 1))) = false := decide_eq_false c2
    clear c2
    obtain rfl := Option.some.inj H
    go_enter Tryz.func25, Tryz.ntmps25
    go_wp2
    go_ret
    exact ⟨by first | rfl | (simp; done) | (simp [*]; done), by repeat (first | exact Drawn0.refl _ | apply Drawn0.step)⟩

-- NOT PRINTED: function 19 (bigall_Int_BitLen)

/-! ### bigall_nat_bit: function 28 -/
def bigall_nat_bit.f (l0 : List Int) (a1 : Int) : Option (Int) := if (IntKind.u64.wrap (Int.tdiv a1 64)) ≥ (IntKind.u64.wrap ((l0.length : Int))) then (some 0) else (if 0 ≤ (IntKind.u64.wrap (Int.tdiv a1 64)) then (if (IntKind.u64.wrap (Int.tdiv a1 64)) < (l0.length : Int) then (if 0 ≤ (Int.tmod a1 64) then (some (Go.bits .and .u64 (shr .u64 (rd l0 (IntKind.u64.wrap (Int.tdiv a1 64))) (Int.tmod a1 64)) 1)) else (none)) else (none)) else (none))
set_option maxHeartbeats 8000000 in
set_option maxRecDepth 100000 in
theorem bigall_nat_bit.calls (A0 : Option Addr) (c0 : Nat) (l0 : List Int) (a1 : Int) (r : Int) (w : World) (hr0 : Kd.C (Kd.int .u64) w A0 l0.length l0) (hc0 : l0.length ≤ c0) (h : bigall_nat_bit.f l0 a1 = some r) :
    Calls Tryz.prog 28 #[.slice A0 l0.length c0, .int .u64 a1] w fun e w' => e = .returned (.int .u64 r) ∧ Drawn0 w w' := by
  have HR0 := Aside0.mk hr0
  have HC0 := Aside0.mk hc0
  clear hr0 hc0
  have H : (if (IntKind.u64.wrap (Int.tdiv a1 64)) ≥ (IntKind.u64.wrap ((l0.length : Int))) then (some 0) else (if 0 ≤ (IntKind.u64.wrap (Int.tdiv a1 64)) then (if (IntKind.u64.wrap (Int.tdiv a1 64)) < (l0.length : Int) then (if 0 ≤ (Int.tmod a1 64) then (some (Go.bits .and .u64 (shr .u64 (rd l0 (IntKind.u64.wrap (Int.tdiv a1 64))) (Int.tmod a1 64)) 1)) else (none)) else (none)) else (none))) = some r := h
  clear h
  by_cases c3 : (IntKind.u64.wrap (Int.tdiv a1 64)) ≥ (IntKind.u64.wrap ((l0.length : Int)))
  · rw [if_pos c3] at H
    have c3b0 : decide ((IntKind.u64.wrap ((l0.length : Int))) ≤ (IntKind.u64.wrap (Int.tdiv a1 64))) = true := decide_eq_true c3
    clear c3
    obtain rfl := Option.some.inj H
    go_enter Tryz.func28, Tryz.ntmps28
    go_wp2
    go_ret
    exact ⟨by first | rfl | (simp; done) | (simp [*]; done), by repeat (first | exact Drawn0.refl _ | apply Drawn0.step)⟩
  · rw [if_neg c3] at H
    have c3b0 : decide ((IntKind.u64.wrap ((l0.length : Int))) ≤ (IntKind.u64.wrap (Int.tdiv a1 64))) = false := decide_eq_false c3
    clear c3
    obtain ⟨ji4, hji4⟩ : ∃ j_ : Int, (IntKind.u64.wrap (Int.tdiv a1 64)) = j_ := ⟨_, rfl⟩
    replace H : (if 0 ≤ (ji4) then (if (ji4) < (l0.length : Int) then (if 0 ≤ (Int.tmod a1 64) then (some (Go.bits .and .u64 (shr .u64 (rd l0 (ji4)) (Int.tmod a1 64)) 1)) else (none)) else (none)) else (none)) = some r := by first | (rw [hji4] at H; exact H) | (simp only [hji4] at H ⊢; exact H)
    (try rw [hji4] at c3b0)
    by_cases c5 : 0 ≤ (ji4)
    · rw [if_pos c5] at H
      have c5b0 : decide (0 ≤ (ji4)) = true := decide_eq_true c5
      clear c5
      by_cases c6 : (ji4) < (l0.length : Int)
      · rw [if_pos c6] at H
        have c6b0 : decide ((ji4) < (l0.length : Int)) = true := decide_eq_true c6
        clear c6
        obtain ⟨ji7, hji7⟩ : ∃ j_ : Int, (Int.tmod a1 64) = j_ := ⟨_, rfl⟩
        replace H : (if 0 ≤ (ji7) then (some (Go.bits .and .u64 (shr .u64 (rd l0 (ji4)) (ji7)) 1)) else (none)) = some r := by first | (rw [hji7] at H; exact H) | (simp only [hji7] at H ⊢; exact H)
        by_cases c8 : 0 ≤ (ji7)
        · rw [if_pos c8] at H
          have c8b0 := eq_true c8
          have c8b1 : decide (0 ≤ (ji7)) = true := decide_eq_true c8
          clear c8
          obtain ⟨ji9, hji9⟩ : ∃ j_ : Int, (shr .u64 (rd l0 (ji4)) (ji7)) = j_ := ⟨_, rfl⟩
          replace H : (some (Go.bits .and .u64 (ji9) 1)) = some r := by first | (rw [hji9] at H; exact H) | (simp only [hji9] at H ⊢; exact H)
          have hji9_ : ((rd l0 (ji4)) / 2 ^ min (ji7).toNat 64) = ji9 := hji9
          have hji9z : (ji7) ≤ 64 → ((rd l0 (ji4)) / 2 ^ (ji7).toNat) = ji9 := shr_small hji9
          obtain rfl := Option.some.inj H
          have p229 : 0 ≤ ((ji4) : Int) := of_decide_eq_true (by first | (with_reducible assumption) | assumption)
          have q229 : (ji4) < (l0.length : Int) := of_decide_eq_true (by first | (with_reducible assumption) | assumption)
          obtain ⟨ad229, e229, hx229_0⟩ := Kd.at_int HR0.out (ji4) p229 q229
          cases e229
          replace p229 := eq_true p229
          replace q229 := eq_true q229
          go_enter Tryz.func28, Tryz.ntmps28
          go_wp2
          go_ret
          exact ⟨by first | rfl | (simp; done) | (simp only [← hji4, ← hji7, ← hji9] <;> (first | rfl | simp)) | (simp [*]; done), by repeat (first | exact Drawn0.refl _ | apply Drawn0.step)⟩
        · rw [if_neg c8] at H
          exact absurd H (by simp)
      · rw [if_neg c6] at H
        exact absurd H (by simp)
    · rw [if_neg c5] at H
      exact absurd H (by simp)

-- NOT PRINTED: function 20 (bigall_Int_Bit)

-- NOT PRINTED: function 14 (mathutil_modPowBigInt)

end Go.Proofs.YtmmnopmccamjcaaGreatDoor.PBig
