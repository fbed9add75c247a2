/- Contracts of impl's functions over the tables. Printed by genimpl.py. -/
import Derived.Test.YtfoifemajoebpaaDoorProg
import Derived.Below
import Derived.Deep.Draws
import Derived.OwnWalk
import Derived.Tactics
import Derived.Laws.Slices
import Derived.WalkKit
import Derived.KernelRfl
import Derived.RowKit3
import Derived.WideLaws
import Derived.Laws.BitsLemmas
import Derived.RowKit
import Derived.Laws.ResultCell
import Derived.Outline
import Derived.Lib.Hide
import Derived.WalkLawsBesides
import Derived.Test.YtfoifemajoebpaaDoorTab
import Derived.Deep.QuietTactic
import Derived.BigQuiet
import Derived.Test.YtfoifemajoebpaaDoorBl
namespace Go.Proofs.YtfoifemajoebpaaDoor.Impl
open Go Go.RowKit Go.Proofs.YtfoifemajoebpaaDoor.Tab Go.Proofs.YtfoifemajoebpaaDoor.BlN Go.Proofs.YtfoifemajoebpaaDoor.Bl
set_option linter.unusedVariables false

theorem BitLen (n : Int) (h0 : 0 ≤ n) (h1 : n < 18446744073709551616) (h2 : n < 9223372036854775808) (w : World) (T : Tabs w) :
    Calls Tryd.prog 15 #[.int .i64 n] w fun e w' => e = .returned (.int .i64 (blen n.toNat : Int)) ∧ w' = w := by
  have e : IntKind.u64.wrap n = n := by rw [IntKind.wrap_u64]; omega
  have c := BitLenUint64 n h0 h1 w T
  go_enter Tryd.func15, Tryd.ntmps15
  go_wp2_with (first
    | (go_at_call 21; (with_reducible refine c.mono ?_); rintro e w' ⟨rfl, rfl⟩))
  go_ret
  exact ⟨rfl, rfl⟩

theorem BitLenUint (n : Int) (h0 : 0 ≤ n) (h1 : n < 18446744073709551616) (w : World) (T : Tabs w) :
    Calls Tryd.prog 16 #[.int .u64 n] w fun e w' => e = .returned (.int .i64 (blen n.toNat : Int)) ∧ w' = w := by
  have e : IntKind.u64.wrap n = n := by rw [IntKind.wrap_u64]; omega
  have c := BitLenUint64 n h0 h1 w T
  go_enter Tryd.func16, Tryd.ntmps16
  go_wp2_with (first
    | (go_at_call 21; (with_reducible refine c.mono ?_); rintro e w' ⟨rfl, rfl⟩))
  go_ret
  exact ⟨rfl, rfl⟩

theorem PopCount (z n : Int) (h0 : 0 ≤ n) (h1 : n < 18446744073709551616) (hz : IntKind.u64.wrap z = n) (w : World) (T : Tabs w) :
    Calls Tryd.prog 26 #[.int .i64 z] w fun e w' => e = .returned (.int .i64 (onesN 64 n.toNat : Int)) ∧ ∃ m, w' = w.drewN m := by
  have c := PopCountUint64 n h0 h1 w T
  go_enter Tryd.func26, Tryd.ntmps26
  go_wp2_with (first
    | (go_at_call 32; (with_reducible refine c.mono ?_); rintro e w' ⟨rfl, ⟨nd, rfl⟩⟩))
  go_ret
  exact ⟨rfl, nd, rfl⟩

theorem PopCountUint (n : Int) (h0 : 0 ≤ n) (h1 : n < 18446744073709551616) (w : World) (T : Tabs w) :
    Calls Tryd.prog 27 #[.int .u64 n] w fun e w' => e = .returned (.int .i64 (onesN 64 n.toNat : Int)) ∧ ∃ m, w' = w.drewN m := by
  have e : IntKind.u64.wrap n = n := by rw [IntKind.wrap_u64]; omega
  have c := PopCountUint64 n h0 h1 w T
  go_enter Tryd.func27, Tryd.ntmps27
  go_wp2_with (first
    | (go_at_call 32; (with_reducible refine c.mono ?_); rintro e w' ⟨rfl, ⟨nd, rfl⟩⟩))
  go_ret
  exact ⟨rfl, nd, rfl⟩

theorem PopCountUintptr (n : Int) (h0 : 0 ≤ n) (h1 : n < 18446744073709551616) (w : World) (T : Tabs w) :
    Calls Tryd.prog 28 #[.int .u64 n] w fun e w' => e = .returned (.int .i64 (onesN 64 n.toNat : Int)) ∧ ∃ m, w' = w.drewN m := by
  have e : IntKind.u64.wrap n = n := by rw [IntKind.wrap_u64]; omega
  have c := PopCountUint64 n h0 h1 w T
  go_enter Tryd.func28, Tryd.ntmps28
  go_wp2_with (first
    | (go_at_call 32; (with_reducible refine c.mono ?_); rintro e w' ⟨rfl, ⟨nd, rfl⟩⟩))
  go_ret
  exact ⟨rfl, nd, rfl⟩

theorem iBL1 (n : Int) (h0 : 0 ≤ n) (h1 : n < 18446744073709551616) (h2 : n < 9223372036854775808) (w : World) (T : Tabs w) :
    Calls Tryd.prog 11 #[.int .i64 1, .int .u64 n] w fun e w' => e = .returned (.int .i64 (blen n.toNat : Int)) ∧ w' = w := by
  have e : wrap64 n = n := by unfold wrap64; omega
  have e' : IntKind.i64.wrap n = n := by rw [IntKind.wrap_i64]; omega
  have c := BitLen n h0 h1 h2 w T
  go_enter Tryd.func11, Tryd.ntmps11
  go_wp2_with (first
    | (go_at_call 15; (with_reducible refine c.mono ?_); rintro e w' ⟨rfl, rfl⟩))
  go_ret
  exact ⟨rfl, rfl⟩

theorem iBL2 (n : Int) (h0 : 0 ≤ n) (h1 : n < 18446744073709551616) (w : World) (T : Tabs w) :
    Calls Tryd.prog 11 #[.int .i64 2, .int .u64 n] w fun e w' => e = .returned (.int .i64 (blen n.toNat : Int)) ∧ w' = w := by
  have e : IntKind.u64.wrap n = n := by rw [IntKind.wrap_u64]; omega
  have c := BitLenUint n h0 h1 w T
  go_enter Tryd.func11, Tryd.ntmps11
  go_wp2_with (first
    | (go_at_call 16; (with_reducible refine c.mono ?_); rintro e w' ⟨rfl, rfl⟩))
  go_ret
  exact ⟨rfl, rfl⟩

theorem iBL3 (n : Int) (h0 : 0 ≤ n) (h1 : n < 18446744073709551616) (w : World) (T : Tabs w) :
    Calls Tryd.prog 11 #[.int .i64 3, .int .u64 n] w fun e w' => e = .returned (.int .i64 (blen n.toNat : Int)) ∧ w' = w := by
  have e : IntKind.u64.wrap n = n := by rw [IntKind.wrap_u64]; omega
  have c := BitLenUintptr n h0 h1 w T
  go_enter Tryd.func11, Tryd.ntmps11
  go_wp2_with (first
    | (go_at_call 17; (with_reducible refine c.mono ?_); rintro e w' ⟨rfl, rfl⟩))
  go_ret
  exact ⟨rfl, rfl⟩

theorem iBL8 (n : Int) (h0 : 0 ≤ n) (h1 : n < 18446744073709551616) (w : World) (T : Tabs w) :
    Calls Tryd.prog 11 #[.int .i64 8, .int .u64 n] w fun e w' => e = .returned (.int .i64 (blen (n % 256).toNat : Int)) ∧ w' = w := by
  have e : IntKind.u8.wrap n = n % 256 := by rw [IntKind.wrap_u8]
  have c := BitLenByte (n % 256) (by omega) (by omega) w T
  go_enter Tryd.func11, Tryd.ntmps11
  go_wp2_with (first
    | (go_at_call 18; (with_reducible refine c.mono ?_); rintro e w' ⟨rfl, rfl⟩))
  go_ret
  exact ⟨rfl, rfl⟩

theorem iBL16 (n : Int) (h0 : 0 ≤ n) (h1 : n < 18446744073709551616) (w : World) (T : Tabs w) :
    Calls Tryd.prog 11 #[.int .i64 16, .int .u64 n] w fun e w' => e = .returned (.int .i64 (blen (n % 65536).toNat : Int)) ∧ w' = w := by
  have e : IntKind.u16.wrap n = n % 65536 := by rw [IntKind.wrap_u16]
  have c := BitLenUint16 (n % 65536) (by omega) (by omega) w T
  go_enter Tryd.func11, Tryd.ntmps11
  go_wp2_with (first
    | (go_at_call 19; (with_reducible refine c.mono ?_); rintro e w' ⟨rfl, rfl⟩))
  go_ret
  exact ⟨rfl, rfl⟩

theorem iBL32 (n : Int) (h0 : 0 ≤ n) (h1 : n < 18446744073709551616) (w : World) (T : Tabs w) :
    Calls Tryd.prog 11 #[.int .i64 32, .int .u64 n] w fun e w' => e = .returned (.int .i64 (blen (n % 4294967296).toNat : Int)) ∧ w' = w := by
  have e : IntKind.u32.wrap n = n % 4294967296 := by rw [IntKind.wrap_u32]
  have c := BitLenUint32 (n % 4294967296) (by omega) (by omega) w T
  go_enter Tryd.func11, Tryd.ntmps11
  go_wp2_with (first
    | (go_at_call 20; (with_reducible refine c.mono ?_); rintro e w' ⟨rfl, rfl⟩))
  go_ret
  exact ⟨rfl, rfl⟩

theorem iBL64 (n : Int) (h0 : 0 ≤ n) (h1 : n < 18446744073709551616) (w : World) (T : Tabs w) :
    Calls Tryd.prog 11 #[.int .i64 64, .int .u64 n] w fun e w' => e = .returned (.int .i64 (blen n.toNat : Int)) ∧ w' = w := by
  have c := BitLenUint64 n h0 h1 w T
  go_enter Tryd.func11, Tryd.ntmps11
  go_wp2_with (first
    | (go_at_call 21; (with_reducible refine c.mono ?_); rintro e w' ⟨rfl, rfl⟩))
  go_ret
  exact ⟨rfl, rfl⟩

theorem iL8 (n : Int) (h0 : 0 ≤ n) (h1 : n < 18446744073709551616) (w : World) (T : Tabs w) :
    Calls Tryd.prog 12 #[.int .i64 8, .int .u64 n] w fun e w' => e = .returned (.int .i64 ((blen (n % 256).toNat : Int) - 1)) ∧ w' = w := by
  have e : IntKind.u8.wrap n = n % 256 := by rw [IntKind.wrap_u8]
  have c := Log2Byte (n % 256) (by omega) (by omega) w T
  go_enter Tryd.func12, Tryd.ntmps12
  go_wp2_with (first
    | (go_at_call 22; (with_reducible refine c.mono ?_); rintro e w' ⟨rfl, rfl⟩))
  go_ret
  exact ⟨rfl, rfl⟩

theorem iL16 (n : Int) (h0 : 0 ≤ n) (h1 : n < 18446744073709551616) (w : World) (T : Tabs w) :
    Calls Tryd.prog 12 #[.int .i64 16, .int .u64 n] w fun e w' => e = .returned (.int .i64 ((blen (n % 65536).toNat : Int) - 1)) ∧ w' = w := by
  have e : IntKind.u16.wrap n = n % 65536 := by rw [IntKind.wrap_u16]
  have c := Log2Uint16 (n % 65536) (by omega) (by omega) w T
  go_enter Tryd.func12, Tryd.ntmps12
  go_wp2_with (first
    | (go_at_call 23; (with_reducible refine c.mono ?_); rintro e w' ⟨rfl, rfl⟩))
  go_ret
  exact ⟨rfl, rfl⟩

theorem iL32 (n : Int) (h0 : 0 ≤ n) (h1 : n < 18446744073709551616) (w : World) (T : Tabs w) :
    Calls Tryd.prog 12 #[.int .i64 32, .int .u64 n] w fun e w' => e = .returned (.int .i64 ((blen (n % 4294967296).toNat : Int) - 1)) ∧ w' = w := by
  have e : IntKind.u32.wrap n = n % 4294967296 := by rw [IntKind.wrap_u32]
  have c := Log2Uint32 (n % 4294967296) (by omega) (by omega) w T
  go_enter Tryd.func12, Tryd.ntmps12
  go_wp2_with (first
    | (go_at_call 24; (with_reducible refine c.mono ?_); rintro e w' ⟨rfl, rfl⟩))
  go_ret
  exact ⟨rfl, rfl⟩

theorem iL64 (n : Int) (h0 : 0 ≤ n) (h1 : n < 18446744073709551616) (w : World) (T : Tabs w) :
    Calls Tryd.prog 12 #[.int .i64 64, .int .u64 n] w fun e w' => e = .returned (.int .i64 ((blen n.toNat : Int) - 1)) ∧ w' = w := by
  have c := Log2Uint64 n h0 h1 w T
  go_enter Tryd.func12, Tryd.ntmps12
  go_wp2_with (first
    | (go_at_call 25; (with_reducible refine c.mono ?_); rintro e w' ⟨rfl, rfl⟩))
  go_ret
  exact ⟨rfl, rfl⟩

theorem iP1 (n : Int) (h0 : 0 ≤ n) (h1 : n < 18446744073709551616) (w : World) (T : Tabs w) :
    Calls Tryd.prog 14 #[.int .i64 1, .int .u64 n] w fun e w' => e = .returned (.int .i64 (onesN 64 n.toNat : Int)) ∧ ∃ m, w' = w.drewN m := by
  have c := fun z hz => PopCount z n h0 h1 hz w T
  replace c := c (wrap64 n) (by unfold wrap64; rw [IntKind.wrap_u64]; omega)
  go_enter Tryd.func14, Tryd.ntmps14
  go_wp2_with (first
    | (go_at_call 26; (with_reducible refine c.mono ?_); rintro e w' ⟨rfl, ⟨nd, rfl⟩⟩))
  go_ret
  exact ⟨rfl, nd, rfl⟩

theorem iP2 (n : Int) (h0 : 0 ≤ n) (h1 : n < 18446744073709551616) (w : World) (T : Tabs w) :
    Calls Tryd.prog 14 #[.int .i64 2, .int .u64 n] w fun e w' => e = .returned (.int .i64 (onesN 64 n.toNat : Int)) ∧ ∃ m, w' = w.drewN m := by
  have e : IntKind.u64.wrap n = n := by rw [IntKind.wrap_u64]; omega
  have c := PopCountUint n h0 h1 w T
  go_enter Tryd.func14, Tryd.ntmps14
  go_wp2_with (first
    | (go_at_call 27; (with_reducible refine c.mono ?_); rintro e w' ⟨rfl, ⟨nd, rfl⟩⟩))
  go_ret
  exact ⟨rfl, nd, rfl⟩

theorem iP3 (n : Int) (h0 : 0 ≤ n) (h1 : n < 18446744073709551616) (w : World) (T : Tabs w) :
    Calls Tryd.prog 14 #[.int .i64 3, .int .u64 n] w fun e w' => e = .returned (.int .i64 (onesN 64 n.toNat : Int)) ∧ ∃ m, w' = w.drewN m := by
  have e : IntKind.u64.wrap n = n := by rw [IntKind.wrap_u64]; omega
  have c := PopCountUintptr n h0 h1 w T
  go_enter Tryd.func14, Tryd.ntmps14
  go_wp2_with (first
    | (go_at_call 28; (with_reducible refine c.mono ?_); rintro e w' ⟨rfl, ⟨nd, rfl⟩⟩))
  go_ret
  exact ⟨rfl, nd, rfl⟩

theorem iP8 (n : Int) (h0 : 0 ≤ n) (h1 : n < 18446744073709551616) (w : World) (T : Tabs w) :
    Calls Tryd.prog 14 #[.int .i64 8, .int .u64 n] w fun e w' => e = .returned (.int .i64 (onesN 8 (n % 256).toNat : Int)) ∧ ∃ m, w' = w.drewN m := by
  have e : IntKind.u8.wrap n = n % 256 := by rw [IntKind.wrap_u8]
  have c := PopCountByte (n % 256) (by omega) (by omega) w T
  go_enter Tryd.func14, Tryd.ntmps14
  go_wp2_with (first
    | (go_at_call 29; (with_reducible refine c.mono ?_); rintro e w' ⟨rfl, ⟨nd, rfl⟩⟩))
  go_ret
  exact ⟨rfl, nd, rfl⟩

theorem iP16 (n : Int) (h0 : 0 ≤ n) (h1 : n < 18446744073709551616) (w : World) (T : Tabs w) :
    Calls Tryd.prog 14 #[.int .i64 16, .int .u64 n] w fun e w' => e = .returned (.int .i64 (onesN 16 (n % 65536).toNat : Int)) ∧ ∃ m, w' = w.drewN m := by
  have e : IntKind.u16.wrap n = n % 65536 := by rw [IntKind.wrap_u16]
  have c := PopCountUint16 (n % 65536) (by omega) (by omega) w T
  go_enter Tryd.func14, Tryd.ntmps14
  go_wp2_with (first
    | (go_at_call 30; (with_reducible refine c.mono ?_); rintro e w' ⟨rfl, ⟨nd, rfl⟩⟩))
  go_ret
  exact ⟨rfl, nd, rfl⟩

theorem iP32 (n : Int) (h0 : 0 ≤ n) (h1 : n < 18446744073709551616) (w : World) (T : Tabs w) :
    Calls Tryd.prog 14 #[.int .i64 32, .int .u64 n] w fun e w' => e = .returned (.int .i64 (onesN 32 (n % 4294967296).toNat : Int)) ∧ ∃ m, w' = w.drewN m := by
  have e : IntKind.u32.wrap n = n % 4294967296 := by rw [IntKind.wrap_u32]
  have c := PopCountUint32 (n % 4294967296) (by omega) (by omega) w T
  go_enter Tryd.func14, Tryd.ntmps14
  go_wp2_with (first
    | (go_at_call 31; (with_reducible refine c.mono ?_); rintro e w' ⟨rfl, ⟨nd, rfl⟩⟩))
  go_ret
  exact ⟨rfl, nd, rfl⟩

theorem iP64 (n : Int) (h0 : 0 ≤ n) (h1 : n < 18446744073709551616) (w : World) (T : Tabs w) :
    Calls Tryd.prog 14 #[.int .i64 64, .int .u64 n] w fun e w' => e = .returned (.int .i64 (onesN 64 n.toNat : Int)) ∧ ∃ m, w' = w.drewN m := by
  have c := PopCountUint64 n h0 h1 w T
  go_enter Tryd.func14, Tryd.ntmps14
  go_wp2_with (first
    | (go_at_call 32; (with_reducible refine c.mono ?_); rintro e w' ⟨rfl, ⟨nd, rfl⟩⟩))
  go_ret
  exact ⟨rfl, nd, rfl⟩

theorem counts (w : World) (T : Tabs w) : Calls Tryd.prog 10 #[] w fun e w' => e = .returned (.bool true) ∧ ∃ m, w' = w.drewN m := by
  have c1 := iBL8 5 (by decide) (by decide) w T
  have c2 := iP8 5 (by decide) (by decide) w T
  have c3 := fun m => iL8 5 (by decide) (by decide) (w.drewN m) T
  rw [show (blen ((5 : Int) % 256).toNat : Int) = 3 from by decide +kernel] at c1
  rw [show (onesN 8 ((5 : Int) % 256).toNat : Int) = 2 from by decide +kernel] at c2
  have c3' : ∀ m, Calls Tryd.prog 12 #[.int .i64 8, .int .u64 5] (w.drewN m) fun e w' => e = .returned (.int .i64 2) ∧ w' = w.drewN m := fun m => by
    have := c3 m
    rw [show (blen ((5 : Int) % 256).toNat : Int) - 1 = 2 from by decide +kernel] at this
    exact this
  go_enter Tryd.func10, Tryd.ntmps10
  go_wp2_with (first
    | (go_at_call 11; (with_reducible refine c1.mono ?_); rintro e w' ⟨rfl, rfl⟩)
    | (go_at_call 14; (with_reducible refine c2.mono ?_); rintro e w' ⟨rfl, ⟨nd, rfl⟩⟩)
    | (go_at_call 12; (with_reducible refine (c3' _).mono ?_); rintro e w' ⟨rfl, rfl⟩))
  go_ret
  exact ⟨rfl, _, rfl⟩

end Go.Proofs.YtfoifemajoebpaaDoor.Impl
