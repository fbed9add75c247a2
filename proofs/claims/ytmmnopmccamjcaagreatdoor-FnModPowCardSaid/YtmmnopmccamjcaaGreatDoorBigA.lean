/- The package's steps on words: sums, differences and products with their upper words. -/
import Derived.Test.YtmmnopmccamjcaaGreatDoorShelf
import Derived.WalkKit
import Derived.RowKit3
import Derived.Deep.QuietTactic
import Derived.RegionTactic
namespace Go.Proofs.YtmmnopmccamjcaaGreatDoor.BigA
open Go Go.Proofs Go.Shelf Go.RowKit
set_option linter.unusedVariables false
def W (x : Int) : Prop := 0 ≤ x ∧ x < 18446744073709551616
theorem add64 (x y c : Int) (hx : 0 ≤ x) (hy : 0 ≤ y) (hc0 : 0 ≤ c) (hc : c ≤ 1) (w : World) : (callFunc 94 #[.int .u64 x, .int .u64 y, .int .u64 c]).run Tryz.prog w =
    .ok (.value (.tuple #[.int .u64 ((x + y + c) % 18446744073709551616), .int .u64 ((x + y + c) / 18446744073709551616)])) w := by
  obtain ⟨x, rfl⟩ := Int.eq_ofNat_of_zero_le hx
  obtain ⟨y, rfl⟩ := Int.eq_ofNat_of_zero_le hy
  obtain ⟨c, rfl⟩ := Int.eq_ofNat_of_zero_le hc0
  refine (Any7.bits_Add64 Tryz.lays25 x y c (by omega) w).trans ?_
  congr 5 <;> omega
def bor (x y b : Int) : Int := if x < y + b then 1 else 0
theorem sub64 (x y b : Int) (hx : 0 ≤ x) (hy : 0 ≤ y) (hy' : y < 18446744073709551616) (hb0 : 0 ≤ b) (hb : b ≤ 1) (w : World) : (callFunc 68 #[.int .u64 x, .int .u64 y, .int .u64 b]).run Tryz.prog w =
    .ok (.value (.tuple #[.int .u64 ((x - y - b) % 18446744073709551616), .int .u64 (bor x y b)])) w := by
  obtain ⟨x, rfl⟩ := Int.eq_ofNat_of_zero_le hx
  obtain ⟨y, rfl⟩ := Int.eq_ofNat_of_zero_le hy
  obtain ⟨b, rfl⟩ := Int.eq_ofNat_of_zero_le hb0
  have e1 : (((x + 18446744073709551616 - y - b) % 18446744073709551616 : Nat) : Int) = ((x : Int) - y - b) % 18446744073709551616 := by omega
  have e2 : ((if x < y + b then 1 else 0 : Nat) : Int) = bor x y b := by unfold bor; split <;> split <;> omega
  rw [← e1, ← e2]
  exact Any7.bits_Sub64 Tryz.lays26 x y b (by omega) w
theorem bor_le (x y b : Int) : 0 ≤ bor x y b ∧ bor x y b ≤ 1 := by unfold bor; split <;> omega
set_option maxHeartbeats 1000000 in
theorem add (x y c : Int) (hx : W x) (hy : W y) (hc0 : 0 ≤ c) (hc : c ≤ 1) (w : World) :
    Calls Tryz.prog 77 #[.int .u64 x, .int .u64 y, .int .u64 c] w fun e w' => e = .returned (.tuple #[.int .u64 ((x + y + c) % 18446744073709551616), .int .u64 ((x + y + c) / 18446744073709551616)]) ∧ ∃ m, w' = w.drewN m := by
  have h := add64 x y c hx.1 hy.1 hc0 hc
  generalize (x + y + c) % 18446744073709551616 = s at *
  generalize (x + y + c) / 18446744073709551616 = t at *
  go_enter Tryz.func77, Tryz.ntmps77
  go_wp2_with (simp only [h])
  repeat (go_quiet (fail); try go_wp2)
  go_ret2
  exact ⟨rfl, 0, rfl⟩
set_option maxHeartbeats 1000000 in
theorem sub (x y b : Int) (hx : W x) (hy : W y) (hb0 : 0 ≤ b) (hb : b ≤ 1) (w : World) :
    Calls Tryz.prog 50 #[.int .u64 x, .int .u64 y, .int .u64 b] w fun e w' => e = .returned (.tuple #[.int .u64 ((x - y - b) % 18446744073709551616), .int .u64 (bor x y b)]) ∧ ∃ m, w' = w.drewN m := by
  have h := sub64 x y b hx.1 hy.1 hy.2 hb0 hb
  generalize (x - y - b) % 18446744073709551616 = s at *
  generalize bor x y b = t at *
  go_enter Tryz.func50, Tryz.ntmps50
  go_wp2_with (simp only [h])
  repeat (go_quiet (fail); try go_wp2)
  go_ret2
  exact ⟨rfl, 0, rfl⟩
theorem mul (x y : Int) (hx : W x) (hy : W y) (w : World) :
    Calls Tryz.prog 78 #[.int .u64 x, .int .u64 y] w fun e w' => e = .returned (.tuple #[.int .u64 (x * y / 18446744073709551616), .int .u64 (x * y % 18446744073709551616)]) ∧ w' = w := by
  obtain ⟨x, rfl⟩ := Int.eq_ofNat_of_zero_le hx.1
  obtain ⟨y, rfl⟩ := Int.eq_ofNat_of_zero_le hy.1
  have h1 := hx.2
  have h2 := hy.2
  exact Tryz.bits_Mul x y (by omega) (by omega) w
end Go.Proofs.YtmmnopmccamjcaaGreatDoor.BigA
