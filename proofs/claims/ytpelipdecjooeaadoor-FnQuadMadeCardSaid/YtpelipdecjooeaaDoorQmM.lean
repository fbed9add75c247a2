/- The reference's product of two factors. -/
import Derived.Test.YtpelipdecjooeaaDoorOFnQuadMadex3
import Derived.Test.YtpelipdecjooeaaDoorOFnQuadMadex2
import Derived.Test.YtpelipdecjooeaaDoorCom
namespace Go.Proofs.YtpelipdecjooeaaDoor.QmM
open Go Go.RowKit Go.Proofs.YtpelipdecjooeaaDoor.PFnQuadMade Go.Proofs.YtpelipdecjooeaaDoorW.PrintWords Go.Com
set_option linter.unusedVariables false
theorem w64in (n : Int) (h : -9223372036854775808 ≤ n ∧ n ≤ 9223372036854775807) : wrap64 n = n := by unfold wrap64; omega
def fits (n : Int) : Prop := -9223372036854775808 ≤ n ∧ n ≤ 9223372036854775807
theorem mult_two (K P1 Q1 P2 Q2 : Int) (k : Nat) (b1 : fits (K * P1)) (b2 : fits (K * Q1)) (b3 : fits (K * P1 * P2)) (b4 : fits (K * P1 * Q2)) (b5 : fits (K * Q1 * P2)) (b6 : fits (K * P1 * Q2 + K * Q1 * P2)) (b7 : fits (K * Q1 * Q2)) :
    spec_Multiplied.f (k + 12) K [[P1, Q1], [P2, Q2]] = some [K * P1 * P2, K * P1 * Q2 + K * Q1 * P2, K * Q1 * Q2] := by
  have e1 := w64in _ b1
  have e2 := w64in _ b2
  have e3 := w64in _ b3
  have e4 := w64in _ b4
  have e5 := w64in _ b5
  have e6 := w64in _ b6
  have e7 := w64in _ b7
  have n0 : wrap64 0 = 0 := w64in _ (by omega)
  have n1 : wrap64 1 = 1 := w64in _ (by omega)
  have n2 : wrap64 2 = 2 := w64in _ (by omega)
  have n3 : wrap64 3 = 3 := w64in _ (by omega)
  have q2 : wrap64 (1 + 1) = 2 := w64in _ (by omega)
  have q3 : wrap64 (2 + 1) = 3 := w64in _ (by omega)
  have q1 : wrap64 (0 + 1) = 1 := w64in _ (by omega)
  have z1 : wrap64 (0 + K * P1) = K * P1 := by rw [Int.zero_add, e1]
  have z2 : wrap64 (0 + K * Q1) = K * Q1 := by rw [Int.zero_add, e2]
  have z3 : wrap64 (0 + K * P1 * P2) = K * P1 * P2 := by rw [Int.zero_add, e3]
  have z4 : wrap64 (0 + K * P1 * Q2) = K * P1 * Q2 := by rw [Int.zero_add, e4]
  have z7 : wrap64 (0 + K * Q1 * Q2) = K * Q1 * Q2 := by rw [Int.zero_add, e7]
  have s1 : ∀ (k : Nat) (L : List (List Int)), spec_Multiplied.l1 (k + 2) [P1, Q1] [0, 0] L 2 0 [K] 1 0 = spec_Multiplied.l0 k [K * P1, K * Q1] L 2 1 := by
    intro k L
    rw [spec_Multiplied.l1, if_pos (by simp), if_pos (by simp), if_pos (by simp), if_pos (by simp), if_pos (by simp), Option.bind_some, q1, if_pos (by simp), if_pos (by simp), if_pos (by simp), spec_Multiplied.l1, if_neg (by simp), q1]
    show spec_Multiplied.l0 k [wrap64 (0 + wrap64 (K * P1)), wrap64 (0 + wrap64 (K * Q1))] L 2 1 = _
    rw [e1, e2, z1, z2]
  have s2 : ∀ (k : Nat) (L : List (List Int)), spec_Multiplied.l1 (k + 3) [P2, Q2] [0, 0, 0] L 2 1 [K * P1, K * Q1] 2 0 = spec_Multiplied.l0 k [K * P1 * P2, K * P1 * Q2 + K * Q1 * P2, K * Q1 * Q2] L 2 2 := by
    intro k L
    rw [spec_Multiplied.l1, if_pos (by simp), if_pos (by simp), if_pos (by simp), if_pos (by simp), if_pos (by simp), Option.bind_some, q1, if_pos (by simp), if_pos (by simp), if_pos (by simp)]
    show spec_Multiplied.l1 (k + 2) [P2, Q2] [wrap64 (0 + wrap64 (K * P1 * P2)), wrap64 (0 + wrap64 (K * P1 * Q2)), 0] L 2 1 [K * P1, K * Q1] 2 1 = _
    rw [e3, e4, z3, z4, spec_Multiplied.l1, if_pos (by simp), if_pos (by simp), if_pos (by simp), if_pos (by simp), if_pos (by simp), Option.bind_some, q2, if_pos (by simp), if_pos (by simp), if_pos (by simp)]
    show spec_Multiplied.l1 (k + 1) [P2, Q2] [K * P1 * P2, wrap64 (K * P1 * Q2 + wrap64 (K * Q1 * P2)), wrap64 (0 + wrap64 (K * Q1 * Q2))] L 2 1 [K * P1, K * Q1] 2 2 = _
    rw [e5, e6, e7, z7, spec_Multiplied.l1, if_neg (by simp), q2]
  rw [spec_Multiplied.f]
  show spec_Multiplied.l0 (k + 12) [K] [[P1, Q1], [P2, Q2]] 2 0 = _
  rw [spec_Multiplied.l0, if_pos (by simp), if_pos (by simp), if_pos (by simp)]
  show (if (2 : Int) = 2 then (if 0 ≤ (wrap64 (1 + 1)) then (if (wrap64 (1 + 1) : Int).toNat ≤ 35184372088832 then (spec_Multiplied.l1 (k + 11) [P1, Q1] (List.replicate (wrap64 (1 + 1) : Int).toNat 0) [[P1, Q1], [P2, Q2]] 2 0 [K] 1 0) else none) else none) else some []) = _
  rw [if_pos rfl, q2, if_pos (by simp), if_pos (by simp)]
  show spec_Multiplied.l1 (k + 9 + 2) [P1, Q1] [0, 0] [[P1, Q1], [P2, Q2]] 2 0 [K] 1 0 = _
  rw [s1, spec_Multiplied.l0, if_pos (by simp), if_pos (by simp), if_pos (by simp)]
  show (if (2 : Int) = 2 then (if 0 ≤ (wrap64 (2 + 1)) then (if (wrap64 (2 + 1) : Int).toNat ≤ 35184372088832 then (spec_Multiplied.l1 (k + 8) [P2, Q2] (List.replicate (wrap64 (2 + 1) : Int).toNat 0) [[P1, Q1], [P2, Q2]] 2 1 [K * P1, K * Q1] 2 0) else none) else none) else some []) = _
  rw [if_pos rfl, q3, if_pos (by simp), if_pos (by simp)]
  show spec_Multiplied.l1 (k + 5 + 3) [P2, Q2] [0, 0, 0] [[P1, Q1], [P2, Q2]] 2 1 [K * P1, K * Q1] 2 0 = _
  rw [s2, spec_Multiplied.l0, if_neg (by simp)]
theorem same_three (x y z : Int) (k : Nat) : spec_Same.f (k + 4) [x, y, z] [x, y, z] = some true := by
  have q1 : wrap64 (0 + 1) = 1 := w64in _ (by omega)
  have q2 : wrap64 (1 + 1) = 2 := w64in _ (by omega)
  have q3 : wrap64 (2 + 1) = 3 := w64in _ (by omega)
  rw [spec_Same.f, if_pos rfl]
  show spec_Same.l0 (k + 4) [x, y, z] [x, y, z] 3 0 = _
  rw [spec_Same.l0, if_pos (by simp), if_pos (by simp), if_pos (by simp), if_pos (by simp), if_pos rfl, q1, spec_Same.l0, if_pos (by simp), if_pos (by simp), if_pos (by simp), if_pos (by simp), if_pos rfl, q2, spec_Same.l0, if_pos (by simp), if_pos (by simp), if_pos (by simp), if_pos (by simp), if_pos rfl, q3, spec_Same.l0, if_neg (by simp)]
theorem mult_any (K P1 Q1 P2 Q2 : Int) (k : Nat) : ∃ x y z, spec_Multiplied.f (k + 12) K [[P1, Q1], [P2, Q2]] = some [x, y, z] := by
  have q2 : wrap64 (1 + 1) = 2 := w64in _ (by omega)
  have q3 : wrap64 (2 + 1) = 3 := w64in _ (by omega)
  have q1 : wrap64 (0 + 1) = 1 := w64in _ (by omega)
  have s1 : ∀ (k : Nat) (L : List (List Int)), spec_Multiplied.l1 (k + 2) [P1, Q1] [0, 0] L 2 0 [K] 1 0 = spec_Multiplied.l0 k [wrap64 (0 + wrap64 (K * P1)), wrap64 (0 + wrap64 (K * Q1))] L 2 1 := by
    intro k L
    rw [spec_Multiplied.l1, if_pos (by simp), if_pos (by simp), if_pos (by simp), if_pos (by simp), if_pos (by simp), Option.bind_some, q1, if_pos (by simp), if_pos (by simp), if_pos (by simp), spec_Multiplied.l1, if_neg (by simp), q1]
    rfl
  have s2 : ∀ (k : Nat) (L : List (List Int)) (c d : Int), spec_Multiplied.l1 (k + 3) [P2, Q2] [0, 0, 0] L 2 1 [c, d] 2 0 = spec_Multiplied.l0 k [wrap64 (0 + wrap64 (c * P2)), wrap64 (wrap64 (0 + wrap64 (c * Q2)) + wrap64 (d * P2)), wrap64 (0 + wrap64 (d * Q2))] L 2 2 := by
    intro k L c d
    rw [spec_Multiplied.l1, if_pos (by simp), if_pos (by simp), if_pos (by simp), if_pos (by simp), if_pos (by simp), Option.bind_some, q1, if_pos (by simp), if_pos (by simp), if_pos (by simp)]
    show spec_Multiplied.l1 (k + 2) [P2, Q2] [wrap64 (0 + wrap64 (c * P2)), wrap64 (0 + wrap64 (c * Q2)), 0] L 2 1 [c, d] 2 1 = _
    rw [spec_Multiplied.l1, if_pos (by simp), if_pos (by simp), if_pos (by simp), if_pos (by simp), if_pos (by simp), Option.bind_some, q2, if_pos (by simp), if_pos (by simp), if_pos (by simp)]
    show spec_Multiplied.l1 (k + 1) [P2, Q2] [wrap64 (0 + wrap64 (c * P2)), wrap64 (wrap64 (0 + wrap64 (c * Q2)) + wrap64 (d * P2)), wrap64 (0 + wrap64 (d * Q2))] L 2 1 [c, d] 2 2 = _
    rw [spec_Multiplied.l1, if_neg (by simp), q2]
  suffices h : spec_Multiplied.f (k + 12) K [[P1, Q1], [P2, Q2]] = some [wrap64 (0 + wrap64 (wrap64 (0 + wrap64 (K * P1)) * P2)), wrap64 (wrap64 (0 + wrap64 (wrap64 (0 + wrap64 (K * P1)) * Q2)) + wrap64 (wrap64 (0 + wrap64 (K * Q1)) * P2)), wrap64 (0 + wrap64 (wrap64 (0 + wrap64 (K * Q1)) * Q2))] from ⟨_, _, _, h⟩
  rw [spec_Multiplied.f]
  show spec_Multiplied.l0 (k + 12) [K] [[P1, Q1], [P2, Q2]] 2 0 = _
  rw [spec_Multiplied.l0, if_pos (by simp), if_pos (by simp), if_pos (by simp)]
  show (if (2 : Int) = 2 then (if 0 ≤ (wrap64 (1 + 1)) then (if (wrap64 (1 + 1) : Int).toNat ≤ 35184372088832 then (spec_Multiplied.l1 (k + 11) [P1, Q1] (List.replicate (wrap64 (1 + 1) : Int).toNat 0) [[P1, Q1], [P2, Q2]] 2 0 [K] 1 0) else none) else none) else some []) = _
  rw [if_pos rfl, q2, if_pos (by simp), if_pos (by simp)]
  show spec_Multiplied.l1 (k + 9 + 2) [P1, Q1] [0, 0] [[P1, Q1], [P2, Q2]] 2 0 [K] 1 0 = _
  rw [s1, spec_Multiplied.l0, if_pos (by simp), if_pos (by simp), if_pos (by simp)]
  generalize wrap64 (0 + wrap64 (K * P1)) = c
  generalize wrap64 (0 + wrap64 (K * Q1)) = d
  show (if (2 : Int) = 2 then (if 0 ≤ (wrap64 (2 + 1)) then (if (wrap64 (2 + 1) : Int).toNat ≤ 35184372088832 then (spec_Multiplied.l1 (k + 8) [P2, Q2] (List.replicate (wrap64 (2 + 1) : Int).toNat 0) [[P1, Q1], [P2, Q2]] 2 1 [c, d] 2 0) else none) else none) else some []) = _
  rw [if_pos rfl, q3, if_pos (by simp), if_pos (by simp)]
  show spec_Multiplied.l1 (k + 5 + 3) [P2, Q2] [0, 0, 0] [[P1, Q1], [P2, Q2]] 2 1 [c, d] 2 0 = _
  rw [s2, spec_Multiplied.l0, if_neg (by simp)]
end Go.Proofs.YtpelipdecjooeaaDoor.QmM
