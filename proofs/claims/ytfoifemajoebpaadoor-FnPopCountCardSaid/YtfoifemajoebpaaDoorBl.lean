/- Contracts of the package's functions that read the tables. Printed by genbl.py. -/
import Derived.Test.YtfoifemajoebpaaDoorProg
import Derived.Below
import Derived.Deep.Draws
import Derived.OwnWalk
import Derived.Tactics
import Derived.Laws.Slices
import Derived.WalkKit
import Derived.KernelRfl
import Derived.RowKit3
import Derived.WideLaws
import Derived.Laws.BitsLemmas
import Derived.RowKit
import Derived.Laws.ResultCell
import Derived.Outline
import Derived.Lib.Hide
import Derived.WalkLawsBesides
import Derived.Test.YtfoifemajoebpaaDoorTab
import Derived.Deep.QuietTactic
import Derived.BigQuiet
import Derived.Test.YtfoifemajoebpaaDoorBlN
namespace Go.Proofs.YtfoifemajoebpaaDoor.Bl
open Go Go.RowKit Go.Proofs.YtfoifemajoebpaaDoor.Tab Go.Proofs.YtfoifemajoebpaaDoor.BlN
set_option linter.unusedVariables false
theorem ret_eq {a b : Int} (h : a = b) : Ending.returned (.int .i64 a) = Ending.returned (.int .i64 b) := by rw [h]

theorem BitLenByte_0 (n : Int) (h0 : 0 ≤ n) (h1 : n < 256) (w : World) (T : Tabs w) :
    Calls Tryd.prog 18 #[.int .u8 n] w fun e w' => e = .returned (.int .i64 (blen n.toNat : Int)) ∧ w' = w := by
  have c := T.log n.toNat (by omega)
  have hb : blen n.toNat ≤ 8 := blen_le 8 _ (by omega)
  rw [logs_at _ (by omega)] at c
  go_enter Tryd.func18, Tryd.ntmps18
  go_wp2
  go_ret
  exact ⟨ret_eq (by try unfold wrap64
                    omega), rfl⟩
theorem BitLenByte (n : Int) (h0 : 0 ≤ n) (h1 : n < 256) (w : World) (T : Tabs w) :
    Calls Tryd.prog 18 #[.int .u8 n] w fun e w' => e = .returned (.int .i64 (blen n.toNat : Int)) ∧ w' = w := by
  exact BitLenByte_0 n h0 (by omega) w T

theorem BitLenUint16_0 (n : Int) (h0 : 0 ≤ n) (h1 : n < 256) (w : World) (T : Tabs w) :
    Calls Tryd.prog 19 #[.int .u16 n] w fun e w' => e = .returned (.int .i64 (blen n.toNat : Int)) ∧ w' = w := by
  have c := T.log n.toNat (by omega)
  have hb : blen n.toNat ≤ 8 := blen_le 8 _ (by omega)
  rw [logs_at _ (by omega)] at c
  go_enter Tryd.func19, Tryd.ntmps19
  go_wp2
  go_ret
  exact ⟨ret_eq (by try unfold wrap64
                    omega), rfl⟩
theorem BitLenUint16_1 (n : Int) (h0 : 256 ≤ n) (h1 : n < 65536) (w : World) (T : Tabs w) :
    Calls Tryd.prog 19 #[.int .u16 n] w fun e w' => e = .returned (.int .i64 (blen n.toNat : Int)) ∧ w' = w := by
  have c := T.log (n / 256).toNat (by omega)
  have hb : blen (n / 256).toNat ≤ 8 := blen_le 8 _ (by omega)
  have he : blen n.toNat = blen (n / 256).toNat + 8 := by rw [blen_pow 8 n.toNat (by omega)]; congr 2; omega
  rw [logs_at _ (by omega)] at c
  go_enter Tryd.func19, Tryd.ntmps19
  go_wp2
  go_ret
  exact ⟨ret_eq (by try unfold wrap64
                    omega), rfl⟩
theorem BitLenUint16 (n : Int) (h0 : 0 ≤ n) (h1 : n < 65536) (w : World) (T : Tabs w) :
    Calls Tryd.prog 19 #[.int .u16 n] w fun e w' => e = .returned (.int .i64 (blen n.toNat : Int)) ∧ w' = w := by
  by_cases c1 : 256 ≤ n
  · exact BitLenUint16_1 n c1 h1 w T
  exact BitLenUint16_0 n h0 (by omega) w T

theorem BitLenUint32_0 (n : Int) (h0 : 0 ≤ n) (h1 : n < 256) (w : World) (T : Tabs w) :
    Calls Tryd.prog 20 #[.int .u32 n] w fun e w' => e = .returned (.int .i64 (blen n.toNat : Int)) ∧ w' = w := by
  have c := T.log n.toNat (by omega)
  have hb : blen n.toNat ≤ 8 := blen_le 8 _ (by omega)
  rw [logs_at _ (by omega)] at c
  go_enter Tryd.func20, Tryd.ntmps20
  go_wp2
  go_ret
  exact ⟨ret_eq (by try unfold wrap64
                    omega), rfl⟩
theorem BitLenUint32_1 (n : Int) (h0 : 256 ≤ n) (h1 : n < 65536) (w : World) (T : Tabs w) :
    Calls Tryd.prog 20 #[.int .u32 n] w fun e w' => e = .returned (.int .i64 (blen n.toNat : Int)) ∧ w' = w := by
  have c := T.log (n / 256).toNat (by omega)
  have hb : blen (n / 256).toNat ≤ 8 := blen_le 8 _ (by omega)
  have he : blen n.toNat = blen (n / 256).toNat + 8 := by rw [blen_pow 8 n.toNat (by omega)]; congr 2; omega
  rw [logs_at _ (by omega)] at c
  go_enter Tryd.func20, Tryd.ntmps20
  go_wp2
  go_ret
  exact ⟨ret_eq (by try unfold wrap64
                    omega), rfl⟩
theorem BitLenUint32_2 (n : Int) (h0 : 65536 ≤ n) (h1 : n < 16777216) (w : World) (T : Tabs w) :
    Calls Tryd.prog 20 #[.int .u32 n] w fun e w' => e = .returned (.int .i64 (blen n.toNat : Int)) ∧ w' = w := by
  have c := T.log (n / 65536).toNat (by omega)
  have hb : blen (n / 65536).toNat ≤ 8 := blen_le 8 _ (by omega)
  have he : blen n.toNat = blen (n / 65536).toNat + 16 := by rw [blen_pow 16 n.toNat (by omega)]; congr 2; omega
  rw [logs_at _ (by omega)] at c
  go_enter Tryd.func20, Tryd.ntmps20
  go_wp2
  go_ret
  exact ⟨ret_eq (by try unfold wrap64
                    omega), rfl⟩
theorem BitLenUint32_3 (n : Int) (h0 : 16777216 ≤ n) (h1 : n < 4294967296) (w : World) (T : Tabs w) :
    Calls Tryd.prog 20 #[.int .u32 n] w fun e w' => e = .returned (.int .i64 (blen n.toNat : Int)) ∧ w' = w := by
  have c := T.log (n / 16777216).toNat (by omega)
  have hb : blen (n / 16777216).toNat ≤ 8 := blen_le 8 _ (by omega)
  have he : blen n.toNat = blen (n / 16777216).toNat + 24 := by rw [blen_pow 24 n.toNat (by omega)]; congr 2; omega
  rw [logs_at _ (by omega)] at c
  go_enter Tryd.func20, Tryd.ntmps20
  go_wp2
  go_ret
  exact ⟨ret_eq (by try unfold wrap64
                    omega), rfl⟩
theorem BitLenUint32 (n : Int) (h0 : 0 ≤ n) (h1 : n < 4294967296) (w : World) (T : Tabs w) :
    Calls Tryd.prog 20 #[.int .u32 n] w fun e w' => e = .returned (.int .i64 (blen n.toNat : Int)) ∧ w' = w := by
  by_cases c3 : 16777216 ≤ n
  · exact BitLenUint32_3 n c3 h1 w T
  by_cases c2 : 65536 ≤ n
  · exact BitLenUint32_2 n c2 (by omega) w T
  by_cases c1 : 256 ≤ n
  · exact BitLenUint32_1 n c1 (by omega) w T
  exact BitLenUint32_0 n h0 (by omega) w T

theorem BitLenUint64_0 (n : Int) (h0 : 0 ≤ n) (h1 : n < 256) (w : World) (T : Tabs w) :
    Calls Tryd.prog 21 #[.int .u64 n] w fun e w' => e = .returned (.int .i64 (blen n.toNat : Int)) ∧ w' = w := by
  have c := T.log n.toNat (by omega)
  have hb : blen n.toNat ≤ 8 := blen_le 8 _ (by omega)
  rw [logs_at _ (by omega)] at c
  go_enter Tryd.func21, Tryd.ntmps21
  go_wp2
  go_ret
  exact ⟨ret_eq (by try unfold wrap64
                    omega), rfl⟩
theorem BitLenUint64_1 (n : Int) (h0 : 256 ≤ n) (h1 : n < 65536) (w : World) (T : Tabs w) :
    Calls Tryd.prog 21 #[.int .u64 n] w fun e w' => e = .returned (.int .i64 (blen n.toNat : Int)) ∧ w' = w := by
  have c := T.log (n / 256).toNat (by omega)
  have hb : blen (n / 256).toNat ≤ 8 := blen_le 8 _ (by omega)
  have he : blen n.toNat = blen (n / 256).toNat + 8 := by rw [blen_pow 8 n.toNat (by omega)]; congr 2; omega
  rw [logs_at _ (by omega)] at c
  go_enter Tryd.func21, Tryd.ntmps21
  go_wp2
  go_ret
  exact ⟨ret_eq (by try unfold wrap64
                    omega), rfl⟩
theorem BitLenUint64_2 (n : Int) (h0 : 65536 ≤ n) (h1 : n < 16777216) (w : World) (T : Tabs w) :
    Calls Tryd.prog 21 #[.int .u64 n] w fun e w' => e = .returned (.int .i64 (blen n.toNat : Int)) ∧ w' = w := by
  have c := T.log (n / 65536).toNat (by omega)
  have hb : blen (n / 65536).toNat ≤ 8 := blen_le 8 _ (by omega)
  have he : blen n.toNat = blen (n / 65536).toNat + 16 := by rw [blen_pow 16 n.toNat (by omega)]; congr 2; omega
  rw [logs_at _ (by omega)] at c
  go_enter Tryd.func21, Tryd.ntmps21
  go_wp2
  go_ret
  exact ⟨ret_eq (by try unfold wrap64
                    omega), rfl⟩
theorem BitLenUint64_3 (n : Int) (h0 : 16777216 ≤ n) (h1 : n < 4294967296) (w : World) (T : Tabs w) :
    Calls Tryd.prog 21 #[.int .u64 n] w fun e w' => e = .returned (.int .i64 (blen n.toNat : Int)) ∧ w' = w := by
  have c := T.log (n / 16777216).toNat (by omega)
  have hb : blen (n / 16777216).toNat ≤ 8 := blen_le 8 _ (by omega)
  have he : blen n.toNat = blen (n / 16777216).toNat + 24 := by rw [blen_pow 24 n.toNat (by omega)]; congr 2; omega
  rw [logs_at _ (by omega)] at c
  go_enter Tryd.func21, Tryd.ntmps21
  go_wp2
  go_ret
  exact ⟨ret_eq (by try unfold wrap64
                    omega), rfl⟩
theorem BitLenUint64_4 (n : Int) (h0 : 4294967296 ≤ n) (h1 : n < 1099511627776) (w : World) (T : Tabs w) :
    Calls Tryd.prog 21 #[.int .u64 n] w fun e w' => e = .returned (.int .i64 (blen n.toNat : Int)) ∧ w' = w := by
  have c := T.log (n / 4294967296).toNat (by omega)
  have hb : blen (n / 4294967296).toNat ≤ 8 := blen_le 8 _ (by omega)
  have he : blen n.toNat = blen (n / 4294967296).toNat + 32 := by rw [blen_pow 32 n.toNat (by omega)]; congr 2; omega
  rw [logs_at _ (by omega)] at c
  go_enter Tryd.func21, Tryd.ntmps21
  go_wp2
  go_ret
  exact ⟨ret_eq (by try unfold wrap64
                    omega), rfl⟩
theorem BitLenUint64_5 (n : Int) (h0 : 1099511627776 ≤ n) (h1 : n < 281474976710656) (w : World) (T : Tabs w) :
    Calls Tryd.prog 21 #[.int .u64 n] w fun e w' => e = .returned (.int .i64 (blen n.toNat : Int)) ∧ w' = w := by
  have c := T.log (n / 1099511627776).toNat (by omega)
  have hb : blen (n / 1099511627776).toNat ≤ 8 := blen_le 8 _ (by omega)
  have he : blen n.toNat = blen (n / 1099511627776).toNat + 40 := by rw [blen_pow 40 n.toNat (by omega)]; congr 2; omega
  rw [logs_at _ (by omega)] at c
  go_enter Tryd.func21, Tryd.ntmps21
  go_wp2
  go_ret
  exact ⟨ret_eq (by try unfold wrap64
                    omega), rfl⟩
theorem BitLenUint64_6 (n : Int) (h0 : 281474976710656 ≤ n) (h1 : n < 72057594037927936) (w : World) (T : Tabs w) :
    Calls Tryd.prog 21 #[.int .u64 n] w fun e w' => e = .returned (.int .i64 (blen n.toNat : Int)) ∧ w' = w := by
  have c := T.log (n / 281474976710656).toNat (by omega)
  have hb : blen (n / 281474976710656).toNat ≤ 8 := blen_le 8 _ (by omega)
  have he : blen n.toNat = blen (n / 281474976710656).toNat + 48 := by rw [blen_pow 48 n.toNat (by omega)]; congr 2; omega
  rw [logs_at _ (by omega)] at c
  go_enter Tryd.func21, Tryd.ntmps21
  go_wp2
  go_ret
  exact ⟨ret_eq (by try unfold wrap64
                    omega), rfl⟩
theorem BitLenUint64_7 (n : Int) (h0 : 72057594037927936 ≤ n) (h1 : n < 18446744073709551616) (w : World) (T : Tabs w) :
    Calls Tryd.prog 21 #[.int .u64 n] w fun e w' => e = .returned (.int .i64 (blen n.toNat : Int)) ∧ w' = w := by
  have c := T.log (n / 72057594037927936).toNat (by omega)
  have hb : blen (n / 72057594037927936).toNat ≤ 8 := blen_le 8 _ (by omega)
  have he : blen n.toNat = blen (n / 72057594037927936).toNat + 56 := by rw [blen_pow 56 n.toNat (by omega)]; congr 2; omega
  rw [logs_at _ (by omega)] at c
  go_enter Tryd.func21, Tryd.ntmps21
  go_wp2
  go_ret
  exact ⟨ret_eq (by try unfold wrap64
                    omega), rfl⟩
theorem BitLenUint64 (n : Int) (h0 : 0 ≤ n) (h1 : n < 18446744073709551616) (w : World) (T : Tabs w) :
    Calls Tryd.prog 21 #[.int .u64 n] w fun e w' => e = .returned (.int .i64 (blen n.toNat : Int)) ∧ w' = w := by
  by_cases c7 : 72057594037927936 ≤ n
  · exact BitLenUint64_7 n c7 h1 w T
  by_cases c6 : 281474976710656 ≤ n
  · exact BitLenUint64_6 n c6 (by omega) w T
  by_cases c5 : 1099511627776 ≤ n
  · exact BitLenUint64_5 n c5 (by omega) w T
  by_cases c4 : 4294967296 ≤ n
  · exact BitLenUint64_4 n c4 (by omega) w T
  by_cases c3 : 16777216 ≤ n
  · exact BitLenUint64_3 n c3 (by omega) w T
  by_cases c2 : 65536 ≤ n
  · exact BitLenUint64_2 n c2 (by omega) w T
  by_cases c1 : 256 ≤ n
  · exact BitLenUint64_1 n c1 (by omega) w T
  exact BitLenUint64_0 n h0 (by omega) w T

theorem BitLenUintptr_0 (n : Int) (h0 : 0 ≤ n) (h1 : n < 256) (w : World) (T : Tabs w) :
    Calls Tryd.prog 17 #[.int .u64 n] w fun e w' => e = .returned (.int .i64 (blen n.toNat : Int)) ∧ w' = w := by
  have c := T.log n.toNat (by omega)
  have hb : blen n.toNat ≤ 8 := blen_le 8 _ (by omega)
  rw [logs_at _ (by omega)] at c
  go_enter Tryd.func17, Tryd.ntmps17
  go_wp2
  go_ret
  exact ⟨ret_eq (by try unfold wrap64
                    omega), rfl⟩
theorem BitLenUintptr_1 (n : Int) (h0 : 256 ≤ n) (h1 : n < 65536) (w : World) (T : Tabs w) :
    Calls Tryd.prog 17 #[.int .u64 n] w fun e w' => e = .returned (.int .i64 (blen n.toNat : Int)) ∧ w' = w := by
  have c := T.log (n / 256).toNat (by omega)
  have hb : blen (n / 256).toNat ≤ 8 := blen_le 8 _ (by omega)
  have he : blen n.toNat = blen (n / 256).toNat + 8 := by rw [blen_pow 8 n.toNat (by omega)]; congr 2; omega
  rw [logs_at _ (by omega)] at c
  go_enter Tryd.func17, Tryd.ntmps17
  go_wp2
  go_ret
  exact ⟨ret_eq (by try unfold wrap64
                    omega), rfl⟩
theorem BitLenUintptr_2 (n : Int) (h0 : 65536 ≤ n) (h1 : n < 16777216) (w : World) (T : Tabs w) :
    Calls Tryd.prog 17 #[.int .u64 n] w fun e w' => e = .returned (.int .i64 (blen n.toNat : Int)) ∧ w' = w := by
  have c := T.log (n / 65536).toNat (by omega)
  have hb : blen (n / 65536).toNat ≤ 8 := blen_le 8 _ (by omega)
  have he : blen n.toNat = blen (n / 65536).toNat + 16 := by rw [blen_pow 16 n.toNat (by omega)]; congr 2; omega
  rw [logs_at _ (by omega)] at c
  go_enter Tryd.func17, Tryd.ntmps17
  go_wp2
  go_ret
  exact ⟨ret_eq (by try unfold wrap64
                    omega), rfl⟩
theorem BitLenUintptr_3 (n : Int) (h0 : 16777216 ≤ n) (h1 : n < 4294967296) (w : World) (T : Tabs w) :
    Calls Tryd.prog 17 #[.int .u64 n] w fun e w' => e = .returned (.int .i64 (blen n.toNat : Int)) ∧ w' = w := by
  have c := T.log (n / 16777216).toNat (by omega)
  have hb : blen (n / 16777216).toNat ≤ 8 := blen_le 8 _ (by omega)
  have he : blen n.toNat = blen (n / 16777216).toNat + 24 := by rw [blen_pow 24 n.toNat (by omega)]; congr 2; omega
  rw [logs_at _ (by omega)] at c
  go_enter Tryd.func17, Tryd.ntmps17
  go_wp2
  go_ret
  exact ⟨ret_eq (by try unfold wrap64
                    omega), rfl⟩
theorem BitLenUintptr_4 (n : Int) (h0 : 4294967296 ≤ n) (h1 : n < 1099511627776) (w : World) (T : Tabs w) :
    Calls Tryd.prog 17 #[.int .u64 n] w fun e w' => e = .returned (.int .i64 (blen n.toNat : Int)) ∧ w' = w := by
  have c := T.log (n / 4294967296).toNat (by omega)
  have hb : blen (n / 4294967296).toNat ≤ 8 := blen_le 8 _ (by omega)
  have he : blen n.toNat = blen (n / 4294967296).toNat + 32 := by rw [blen_pow 32 n.toNat (by omega)]; congr 2; omega
  rw [logs_at _ (by omega)] at c
  go_enter Tryd.func17, Tryd.ntmps17
  go_wp2
  go_ret
  exact ⟨ret_eq (by try unfold wrap64
                    omega), rfl⟩
theorem BitLenUintptr_5 (n : Int) (h0 : 1099511627776 ≤ n) (h1 : n < 281474976710656) (w : World) (T : Tabs w) :
    Calls Tryd.prog 17 #[.int .u64 n] w fun e w' => e = .returned (.int .i64 (blen n.toNat : Int)) ∧ w' = w := by
  have c := T.log (n / 1099511627776).toNat (by omega)
  have hb : blen (n / 1099511627776).toNat ≤ 8 := blen_le 8 _ (by omega)
  have he : blen n.toNat = blen (n / 1099511627776).toNat + 40 := by rw [blen_pow 40 n.toNat (by omega)]; congr 2; omega
  rw [logs_at _ (by omega)] at c
  go_enter Tryd.func17, Tryd.ntmps17
  go_wp2
  go_ret
  exact ⟨ret_eq (by try unfold wrap64
                    omega), rfl⟩
theorem BitLenUintptr_6 (n : Int) (h0 : 281474976710656 ≤ n) (h1 : n < 72057594037927936) (w : World) (T : Tabs w) :
    Calls Tryd.prog 17 #[.int .u64 n] w fun e w' => e = .returned (.int .i64 (blen n.toNat : Int)) ∧ w' = w := by
  have c := T.log (n / 281474976710656).toNat (by omega)
  have hb : blen (n / 281474976710656).toNat ≤ 8 := blen_le 8 _ (by omega)
  have he : blen n.toNat = blen (n / 281474976710656).toNat + 48 := by rw [blen_pow 48 n.toNat (by omega)]; congr 2; omega
  rw [logs_at _ (by omega)] at c
  go_enter Tryd.func17, Tryd.ntmps17
  go_wp2
  go_ret
  exact ⟨ret_eq (by try unfold wrap64
                    omega), rfl⟩
theorem BitLenUintptr_7 (n : Int) (h0 : 72057594037927936 ≤ n) (h1 : n < 18446744073709551616) (w : World) (T : Tabs w) :
    Calls Tryd.prog 17 #[.int .u64 n] w fun e w' => e = .returned (.int .i64 (blen n.toNat : Int)) ∧ w' = w := by
  have c := T.log (n / 72057594037927936).toNat (by omega)
  have hb : blen (n / 72057594037927936).toNat ≤ 8 := blen_le 8 _ (by omega)
  have he : blen n.toNat = blen (n / 72057594037927936).toNat + 56 := by rw [blen_pow 56 n.toNat (by omega)]; congr 2; omega
  rw [logs_at _ (by omega)] at c
  go_enter Tryd.func17, Tryd.ntmps17
  go_wp2
  go_ret
  exact ⟨ret_eq (by try unfold wrap64
                    omega), rfl⟩
theorem BitLenUintptr (n : Int) (h0 : 0 ≤ n) (h1 : n < 18446744073709551616) (w : World) (T : Tabs w) :
    Calls Tryd.prog 17 #[.int .u64 n] w fun e w' => e = .returned (.int .i64 (blen n.toNat : Int)) ∧ w' = w := by
  by_cases c7 : 72057594037927936 ≤ n
  · exact BitLenUintptr_7 n c7 h1 w T
  by_cases c6 : 281474976710656 ≤ n
  · exact BitLenUintptr_6 n c6 (by omega) w T
  by_cases c5 : 1099511627776 ≤ n
  · exact BitLenUintptr_5 n c5 (by omega) w T
  by_cases c4 : 4294967296 ≤ n
  · exact BitLenUintptr_4 n c4 (by omega) w T
  by_cases c3 : 16777216 ≤ n
  · exact BitLenUintptr_3 n c3 (by omega) w T
  by_cases c2 : 65536 ≤ n
  · exact BitLenUintptr_2 n c2 (by omega) w T
  by_cases c1 : 256 ≤ n
  · exact BitLenUintptr_1 n c1 (by omega) w T
  exact BitLenUintptr_0 n h0 (by omega) w T

theorem Log2Byte_0 (n : Int) (h0 : 0 ≤ n) (h1 : n < 256) (w : World) (T : Tabs w) :
    Calls Tryd.prog 22 #[.int .u8 n] w fun e w' => e = .returned (.int .i64 ((blen n.toNat : Int) - 1)) ∧ w' = w := by
  have c := T.log n.toNat (by omega)
  have hb : blen n.toNat ≤ 8 := blen_le 8 _ (by omega)
  rw [logs_at _ (by omega)] at c
  go_enter Tryd.func22, Tryd.ntmps22
  go_wp2
  go_ret
  exact ⟨ret_eq (by try unfold wrap64
                    omega), rfl⟩
theorem Log2Byte (n : Int) (h0 : 0 ≤ n) (h1 : n < 256) (w : World) (T : Tabs w) :
    Calls Tryd.prog 22 #[.int .u8 n] w fun e w' => e = .returned (.int .i64 ((blen n.toNat : Int) - 1)) ∧ w' = w := by
  exact Log2Byte_0 n h0 (by omega) w T

theorem Log2Uint16_0 (n : Int) (h0 : 0 ≤ n) (h1 : n < 256) (w : World) (T : Tabs w) :
    Calls Tryd.prog 23 #[.int .u16 n] w fun e w' => e = .returned (.int .i64 ((blen n.toNat : Int) - 1)) ∧ w' = w := by
  have c := T.log n.toNat (by omega)
  have hb : blen n.toNat ≤ 8 := blen_le 8 _ (by omega)
  rw [logs_at _ (by omega)] at c
  go_enter Tryd.func23, Tryd.ntmps23
  go_wp2
  go_ret
  exact ⟨ret_eq (by try unfold wrap64
                    omega), rfl⟩
theorem Log2Uint16_1 (n : Int) (h0 : 256 ≤ n) (h1 : n < 65536) (w : World) (T : Tabs w) :
    Calls Tryd.prog 23 #[.int .u16 n] w fun e w' => e = .returned (.int .i64 ((blen n.toNat : Int) - 1)) ∧ w' = w := by
  have c := T.log (n / 256).toNat (by omega)
  have hb : blen (n / 256).toNat ≤ 8 := blen_le 8 _ (by omega)
  have he : blen n.toNat = blen (n / 256).toNat + 8 := by rw [blen_pow 8 n.toNat (by omega)]; congr 2; omega
  rw [logs_at _ (by omega)] at c
  go_enter Tryd.func23, Tryd.ntmps23
  go_wp2
  go_ret
  exact ⟨ret_eq (by try unfold wrap64
                    omega), rfl⟩
theorem Log2Uint16 (n : Int) (h0 : 0 ≤ n) (h1 : n < 65536) (w : World) (T : Tabs w) :
    Calls Tryd.prog 23 #[.int .u16 n] w fun e w' => e = .returned (.int .i64 ((blen n.toNat : Int) - 1)) ∧ w' = w := by
  by_cases c1 : 256 ≤ n
  · exact Log2Uint16_1 n c1 h1 w T
  exact Log2Uint16_0 n h0 (by omega) w T

theorem Log2Uint32_0 (n : Int) (h0 : 0 ≤ n) (h1 : n < 256) (w : World) (T : Tabs w) :
    Calls Tryd.prog 24 #[.int .u32 n] w fun e w' => e = .returned (.int .i64 ((blen n.toNat : Int) - 1)) ∧ w' = w := by
  have c := T.log n.toNat (by omega)
  have hb : blen n.toNat ≤ 8 := blen_le 8 _ (by omega)
  rw [logs_at _ (by omega)] at c
  go_enter Tryd.func24, Tryd.ntmps24
  go_wp2
  go_ret
  exact ⟨ret_eq (by try unfold wrap64
                    omega), rfl⟩
theorem Log2Uint32_1 (n : Int) (h0 : 256 ≤ n) (h1 : n < 65536) (w : World) (T : Tabs w) :
    Calls Tryd.prog 24 #[.int .u32 n] w fun e w' => e = .returned (.int .i64 ((blen n.toNat : Int) - 1)) ∧ w' = w := by
  have c := T.log (n / 256).toNat (by omega)
  have hb : blen (n / 256).toNat ≤ 8 := blen_le 8 _ (by omega)
  have he : blen n.toNat = blen (n / 256).toNat + 8 := by rw [blen_pow 8 n.toNat (by omega)]; congr 2; omega
  rw [logs_at _ (by omega)] at c
  go_enter Tryd.func24, Tryd.ntmps24
  go_wp2
  go_ret
  exact ⟨ret_eq (by try unfold wrap64
                    omega), rfl⟩
theorem Log2Uint32_2 (n : Int) (h0 : 65536 ≤ n) (h1 : n < 16777216) (w : World) (T : Tabs w) :
    Calls Tryd.prog 24 #[.int .u32 n] w fun e w' => e = .returned (.int .i64 ((blen n.toNat : Int) - 1)) ∧ w' = w := by
  have c := T.log (n / 65536).toNat (by omega)
  have hb : blen (n / 65536).toNat ≤ 8 := blen_le 8 _ (by omega)
  have he : blen n.toNat = blen (n / 65536).toNat + 16 := by rw [blen_pow 16 n.toNat (by omega)]; congr 2; omega
  rw [logs_at _ (by omega)] at c
  go_enter Tryd.func24, Tryd.ntmps24
  go_wp2
  go_ret
  exact ⟨ret_eq (by try unfold wrap64
                    omega), rfl⟩
theorem Log2Uint32_3 (n : Int) (h0 : 16777216 ≤ n) (h1 : n < 4294967296) (w : World) (T : Tabs w) :
    Calls Tryd.prog 24 #[.int .u32 n] w fun e w' => e = .returned (.int .i64 ((blen n.toNat : Int) - 1)) ∧ w' = w := by
  have c := T.log (n / 16777216).toNat (by omega)
  have hb : blen (n / 16777216).toNat ≤ 8 := blen_le 8 _ (by omega)
  have he : blen n.toNat = blen (n / 16777216).toNat + 24 := by rw [blen_pow 24 n.toNat (by omega)]; congr 2; omega
  rw [logs_at _ (by omega)] at c
  go_enter Tryd.func24, Tryd.ntmps24
  go_wp2
  go_ret
  exact ⟨ret_eq (by try unfold wrap64
                    omega), rfl⟩
theorem Log2Uint32 (n : Int) (h0 : 0 ≤ n) (h1 : n < 4294967296) (w : World) (T : Tabs w) :
    Calls Tryd.prog 24 #[.int .u32 n] w fun e w' => e = .returned (.int .i64 ((blen n.toNat : Int) - 1)) ∧ w' = w := by
  by_cases c3 : 16777216 ≤ n
  · exact Log2Uint32_3 n c3 h1 w T
  by_cases c2 : 65536 ≤ n
  · exact Log2Uint32_2 n c2 (by omega) w T
  by_cases c1 : 256 ≤ n
  · exact Log2Uint32_1 n c1 (by omega) w T
  exact Log2Uint32_0 n h0 (by omega) w T

theorem Log2Uint64_0 (n : Int) (h0 : 0 ≤ n) (h1 : n < 256) (w : World) (T : Tabs w) :
    Calls Tryd.prog 25 #[.int .u64 n] w fun e w' => e = .returned (.int .i64 ((blen n.toNat : Int) - 1)) ∧ w' = w := by
  have c := T.log n.toNat (by omega)
  have hb : blen n.toNat ≤ 8 := blen_le 8 _ (by omega)
  rw [logs_at _ (by omega)] at c
  go_enter Tryd.func25, Tryd.ntmps25
  go_wp2
  go_ret
  exact ⟨ret_eq (by try unfold wrap64
                    omega), rfl⟩
theorem Log2Uint64_1 (n : Int) (h0 : 256 ≤ n) (h1 : n < 65536) (w : World) (T : Tabs w) :
    Calls Tryd.prog 25 #[.int .u64 n] w fun e w' => e = .returned (.int .i64 ((blen n.toNat : Int) - 1)) ∧ w' = w := by
  have c := T.log (n / 256).toNat (by omega)
  have hb : blen (n / 256).toNat ≤ 8 := blen_le 8 _ (by omega)
  have he : blen n.toNat = blen (n / 256).toNat + 8 := by rw [blen_pow 8 n.toNat (by omega)]; congr 2; omega
  rw [logs_at _ (by omega)] at c
  go_enter Tryd.func25, Tryd.ntmps25
  go_wp2
  go_ret
  exact ⟨ret_eq (by try unfold wrap64
                    omega), rfl⟩
theorem Log2Uint64_2 (n : Int) (h0 : 65536 ≤ n) (h1 : n < 16777216) (w : World) (T : Tabs w) :
    Calls Tryd.prog 25 #[.int .u64 n] w fun e w' => e = .returned (.int .i64 ((blen n.toNat : Int) - 1)) ∧ w' = w := by
  have c := T.log (n / 65536).toNat (by omega)
  have hb : blen (n / 65536).toNat ≤ 8 := blen_le 8 _ (by omega)
  have he : blen n.toNat = blen (n / 65536).toNat + 16 := by rw [blen_pow 16 n.toNat (by omega)]; congr 2; omega
  rw [logs_at _ (by omega)] at c
  go_enter Tryd.func25, Tryd.ntmps25
  go_wp2
  go_ret
  exact ⟨ret_eq (by try unfold wrap64
                    omega), rfl⟩
theorem Log2Uint64_3 (n : Int) (h0 : 16777216 ≤ n) (h1 : n < 4294967296) (w : World) (T : Tabs w) :
    Calls Tryd.prog 25 #[.int .u64 n] w fun e w' => e = .returned (.int .i64 ((blen n.toNat : Int) - 1)) ∧ w' = w := by
  have c := T.log (n / 16777216).toNat (by omega)
  have hb : blen (n / 16777216).toNat ≤ 8 := blen_le 8 _ (by omega)
  have he : blen n.toNat = blen (n / 16777216).toNat + 24 := by rw [blen_pow 24 n.toNat (by omega)]; congr 2; omega
  rw [logs_at _ (by omega)] at c
  go_enter Tryd.func25, Tryd.ntmps25
  go_wp2
  go_ret
  exact ⟨ret_eq (by try unfold wrap64
                    omega), rfl⟩
theorem Log2Uint64_4 (n : Int) (h0 : 4294967296 ≤ n) (h1 : n < 1099511627776) (w : World) (T : Tabs w) :
    Calls Tryd.prog 25 #[.int .u64 n] w fun e w' => e = .returned (.int .i64 ((blen n.toNat : Int) - 1)) ∧ w' = w := by
  have c := T.log (n / 4294967296).toNat (by omega)
  have hb : blen (n / 4294967296).toNat ≤ 8 := blen_le 8 _ (by omega)
  have he : blen n.toNat = blen (n / 4294967296).toNat + 32 := by rw [blen_pow 32 n.toNat (by omega)]; congr 2; omega
  rw [logs_at _ (by omega)] at c
  go_enter Tryd.func25, Tryd.ntmps25
  go_wp2
  go_ret
  exact ⟨ret_eq (by try unfold wrap64
                    omega), rfl⟩
theorem Log2Uint64_5 (n : Int) (h0 : 1099511627776 ≤ n) (h1 : n < 281474976710656) (w : World) (T : Tabs w) :
    Calls Tryd.prog 25 #[.int .u64 n] w fun e w' => e = .returned (.int .i64 ((blen n.toNat : Int) - 1)) ∧ w' = w := by
  have c := T.log (n / 1099511627776).toNat (by omega)
  have hb : blen (n / 1099511627776).toNat ≤ 8 := blen_le 8 _ (by omega)
  have he : blen n.toNat = blen (n / 1099511627776).toNat + 40 := by rw [blen_pow 40 n.toNat (by omega)]; congr 2; omega
  rw [logs_at _ (by omega)] at c
  go_enter Tryd.func25, Tryd.ntmps25
  go_wp2
  go_ret
  exact ⟨ret_eq (by try unfold wrap64
                    omega), rfl⟩
theorem Log2Uint64_6 (n : Int) (h0 : 281474976710656 ≤ n) (h1 : n < 72057594037927936) (w : World) (T : Tabs w) :
    Calls Tryd.prog 25 #[.int .u64 n] w fun e w' => e = .returned (.int .i64 ((blen n.toNat : Int) - 1)) ∧ w' = w := by
  have c := T.log (n / 281474976710656).toNat (by omega)
  have hb : blen (n / 281474976710656).toNat ≤ 8 := blen_le 8 _ (by omega)
  have he : blen n.toNat = blen (n / 281474976710656).toNat + 48 := by rw [blen_pow 48 n.toNat (by omega)]; congr 2; omega
  rw [logs_at _ (by omega)] at c
  go_enter Tryd.func25, Tryd.ntmps25
  go_wp2
  go_ret
  exact ⟨ret_eq (by try unfold wrap64
                    omega), rfl⟩
theorem Log2Uint64_7 (n : Int) (h0 : 72057594037927936 ≤ n) (h1 : n < 18446744073709551616) (w : World) (T : Tabs w) :
    Calls Tryd.prog 25 #[.int .u64 n] w fun e w' => e = .returned (.int .i64 ((blen n.toNat : Int) - 1)) ∧ w' = w := by
  have c := T.log (n / 72057594037927936).toNat (by omega)
  have hb : blen (n / 72057594037927936).toNat ≤ 8 := blen_le 8 _ (by omega)
  have he : blen n.toNat = blen (n / 72057594037927936).toNat + 56 := by rw [blen_pow 56 n.toNat (by omega)]; congr 2; omega
  rw [logs_at _ (by omega)] at c
  go_enter Tryd.func25, Tryd.ntmps25
  go_wp2
  go_ret
  exact ⟨ret_eq (by try unfold wrap64
                    omega), rfl⟩
theorem Log2Uint64 (n : Int) (h0 : 0 ≤ n) (h1 : n < 18446744073709551616) (w : World) (T : Tabs w) :
    Calls Tryd.prog 25 #[.int .u64 n] w fun e w' => e = .returned (.int .i64 ((blen n.toNat : Int) - 1)) ∧ w' = w := by
  by_cases c7 : 72057594037927936 ≤ n
  · exact Log2Uint64_7 n c7 h1 w T
  by_cases c6 : 281474976710656 ≤ n
  · exact Log2Uint64_6 n c6 (by omega) w T
  by_cases c5 : 1099511627776 ≤ n
  · exact Log2Uint64_5 n c5 (by omega) w T
  by_cases c4 : 4294967296 ≤ n
  · exact Log2Uint64_4 n c4 (by omega) w T
  by_cases c3 : 16777216 ≤ n
  · exact Log2Uint64_3 n c3 (by omega) w T
  by_cases c2 : 65536 ≤ n
  · exact Log2Uint64_2 n c2 (by omega) w T
  by_cases c1 : 256 ≤ n
  · exact Log2Uint64_1 n c1 (by omega) w T
  exact Log2Uint64_0 n h0 (by omega) w T

theorem PopCountByte (n : Int) (h0 : 0 ≤ n) (h1 : n < 256) (w : World) (T : Tabs w) :
    Calls Tryd.prog 29 #[.int .u8 n] w fun e w' => e = .returned (.int .i64 (onesN 8 n.toNat : Int)) ∧ ∃ m, w' = w.drewN m := by
  have c := T.pop n.toNat (by omega)
  rw [pops_at _ (by omega)] at c
  have b := ones_le 8 n.toNat
  go_enter Tryd.func29, Tryd.ntmps29
  go_wp2
  go_ret
  exact ⟨ret_eq (by try unfold wrap64
                    try omega), 0, rfl⟩

theorem PopCountUint16 (n : Int) (h0 : 0 ≤ n) (h1 : n < 65536) (w : World) (T : Tabs w) :
    Calls Tryd.prog 30 #[.int .u16 n] w fun e w' => e = .returned (.int .i64 (onesN 16 n.toNat : Int)) ∧ ∃ m, w' = w.drewN m := by
  have he := ones_16 n.toNat
  obtain ⟨x0, e0⟩ : ∃ x, IntKind.u8.wrap n = x := ⟨_, rfl⟩
  have l0 : 0 ≤ x0 ∧ x0 < 256 ∧ (n.toNat % 256) = x0.toNat := by rw [← e0, IntKind.wrap_u8]; omega
  obtain ⟨l0, m0, k0⟩ := l0
  have c0 := T.pop x0.toNat (by omega)
  rw [pops_at _ (by omega)] at c0
  have b0 := ones_le 8 x0.toNat
  rw [k0] at he
  clear k0
  obtain ⟨y0, f0⟩ : ∃ y : Int, (onesN 8 x0.toNat : Int) = y := ⟨_, rfl⟩
  rw [f0] at c0
  have p0 : 0 ≤ y0 ∧ y0 ≤ 8 := by omega
  obtain ⟨p0, q0⟩ := p0
  obtain ⟨x1, e1⟩ : ∃ x, IntKind.u8.wrap (n / 256) = x := ⟨_, rfl⟩
  have l1 : 0 ≤ x1 ∧ x1 < 256 ∧ (n.toNat / 256) = x1.toNat := by rw [← e1, IntKind.wrap_u8]; omega
  obtain ⟨l1, m1, k1⟩ := l1
  have c1 := T.pop x1.toNat (by omega)
  rw [pops_at _ (by omega)] at c1
  have b1 := ones_le 8 x1.toNat
  rw [k1] at he
  clear k1
  obtain ⟨y1, f1⟩ : ∃ y : Int, (onesN 8 x1.toNat : Int) = y := ⟨_, rfl⟩
  rw [f1] at c1
  have p1 : 0 ≤ y1 ∧ y1 ≤ 8 := by omega
  obtain ⟨p1, q1⟩ := p1
  replace he : (onesN 16 n.toNat : Int) = y0 + y1 := by omega
  rw [he]
  clear he b0 f0 b1 f1
  have s0 : IntKind.i64.wrap (y1 + y0) = y1 + y0 := by rw [IntKind.wrap_i64]; omega
  go_enter Tryd.func30, Tryd.ntmps30
  go_wp2
  go_quiet (fail)
  go_wp2
  go_ret
  exact ⟨ret_eq (by try unfold wrap64
                    try simp only [IntKind.wrap_i64]
                    omega), _, rfl⟩

theorem PopCountUint32 (n : Int) (h0 : 0 ≤ n) (h1 : n < 4294967296) (w : World) (T : Tabs w) :
    Calls Tryd.prog 31 #[.int .u32 n] w fun e w' => e = .returned (.int .i64 (onesN 32 n.toNat : Int)) ∧ ∃ m, w' = w.drewN m := by
  have he := ones_32 n.toNat
  obtain ⟨x0, e0⟩ : ∃ x, IntKind.u8.wrap n = x := ⟨_, rfl⟩
  have l0 : 0 ≤ x0 ∧ x0 < 256 ∧ (n.toNat % 256) = x0.toNat := by rw [← e0, IntKind.wrap_u8]; omega
  obtain ⟨l0, m0, k0⟩ := l0
  have c0 := T.pop x0.toNat (by omega)
  rw [pops_at _ (by omega)] at c0
  have b0 := ones_le 8 x0.toNat
  rw [k0] at he
  clear k0
  obtain ⟨y0, f0⟩ : ∃ y : Int, (onesN 8 x0.toNat : Int) = y := ⟨_, rfl⟩
  rw [f0] at c0
  have p0 : 0 ≤ y0 ∧ y0 ≤ 8 := by omega
  obtain ⟨p0, q0⟩ := p0
  obtain ⟨x1, e1⟩ : ∃ x, IntKind.u8.wrap (n / 256) = x := ⟨_, rfl⟩
  have l1 : 0 ≤ x1 ∧ x1 < 256 ∧ (n.toNat / 256 % 256) = x1.toNat := by rw [← e1, IntKind.wrap_u8]; omega
  obtain ⟨l1, m1, k1⟩ := l1
  have c1 := T.pop x1.toNat (by omega)
  rw [pops_at _ (by omega)] at c1
  have b1 := ones_le 8 x1.toNat
  rw [k1] at he
  clear k1
  obtain ⟨y1, f1⟩ : ∃ y : Int, (onesN 8 x1.toNat : Int) = y := ⟨_, rfl⟩
  rw [f1] at c1
  have p1 : 0 ≤ y1 ∧ y1 ≤ 8 := by omega
  obtain ⟨p1, q1⟩ := p1
  obtain ⟨x2, e2⟩ : ∃ x, IntKind.u8.wrap (n / 65536) = x := ⟨_, rfl⟩
  have l2 : 0 ≤ x2 ∧ x2 < 256 ∧ (n.toNat / 65536 % 256) = x2.toNat := by rw [← e2, IntKind.wrap_u8]; omega
  obtain ⟨l2, m2, k2⟩ := l2
  have c2 := T.pop x2.toNat (by omega)
  rw [pops_at _ (by omega)] at c2
  have b2 := ones_le 8 x2.toNat
  rw [k2] at he
  clear k2
  obtain ⟨y2, f2⟩ : ∃ y : Int, (onesN 8 x2.toNat : Int) = y := ⟨_, rfl⟩
  rw [f2] at c2
  have p2 : 0 ≤ y2 ∧ y2 ≤ 8 := by omega
  obtain ⟨p2, q2⟩ := p2
  obtain ⟨x3, e3⟩ : ∃ x, IntKind.u8.wrap (n / 16777216) = x := ⟨_, rfl⟩
  have l3 : 0 ≤ x3 ∧ x3 < 256 ∧ (n.toNat / 16777216) = x3.toNat := by rw [← e3, IntKind.wrap_u8]; omega
  obtain ⟨l3, m3, k3⟩ := l3
  have c3 := T.pop x3.toNat (by omega)
  rw [pops_at _ (by omega)] at c3
  have b3 := ones_le 8 x3.toNat
  rw [k3] at he
  clear k3
  obtain ⟨y3, f3⟩ : ∃ y : Int, (onesN 8 x3.toNat : Int) = y := ⟨_, rfl⟩
  rw [f3] at c3
  have p3 : 0 ≤ y3 ∧ y3 ≤ 8 := by omega
  obtain ⟨p3, q3⟩ := p3
  replace he : (onesN 32 n.toNat : Int) = y0 + y1 + y2 + y3 := by omega
  rw [he]
  clear he b0 f0 b1 f1 b2 f2 b3 f3
  have s2 : IntKind.i64.wrap (y3 + y2) = y3 + y2 := by rw [IntKind.wrap_i64]; omega
  have s1 : IntKind.i64.wrap (y3 + y2 + y1) = y3 + y2 + y1 := by rw [IntKind.wrap_i64]; omega
  have s0 : IntKind.i64.wrap (y3 + y2 + y1 + y0) = y3 + y2 + y1 + y0 := by rw [IntKind.wrap_i64]; omega
  go_enter Tryd.func31, Tryd.ntmps31
  go_wp2
  go_quiet (fail)
  go_wp2
  go_ret
  exact ⟨ret_eq (by try unfold wrap64
                    try simp only [IntKind.wrap_i64]
                    omega), _, rfl⟩

theorem PopCountUint64 (n : Int) (h0 : 0 ≤ n) (h1 : n < 18446744073709551616) (w : World) (T : Tabs w) :
    Calls Tryd.prog 32 #[.int .u64 n] w fun e w' => e = .returned (.int .i64 (onesN 64 n.toNat : Int)) ∧ ∃ m, w' = w.drewN m := by
  have he := ones_64 n.toNat
  obtain ⟨x0, e0⟩ : ∃ x, IntKind.u8.wrap n = x := ⟨_, rfl⟩
  have l0 : 0 ≤ x0 ∧ x0 < 256 ∧ (n.toNat % 256) = x0.toNat := by rw [← e0, IntKind.wrap_u8]; omega
  obtain ⟨l0, m0, k0⟩ := l0
  have c0 := T.pop x0.toNat (by omega)
  rw [pops_at _ (by omega)] at c0
  have b0 := ones_le 8 x0.toNat
  rw [k0] at he
  clear k0
  obtain ⟨y0, f0⟩ : ∃ y : Int, (onesN 8 x0.toNat : Int) = y := ⟨_, rfl⟩
  rw [f0] at c0
  have p0 : 0 ≤ y0 ∧ y0 ≤ 8 := by omega
  obtain ⟨p0, q0⟩ := p0
  obtain ⟨x1, e1⟩ : ∃ x, IntKind.u8.wrap (n / 256) = x := ⟨_, rfl⟩
  have l1 : 0 ≤ x1 ∧ x1 < 256 ∧ (n.toNat / 256 % 256) = x1.toNat := by rw [← e1, IntKind.wrap_u8]; omega
  obtain ⟨l1, m1, k1⟩ := l1
  have c1 := T.pop x1.toNat (by omega)
  rw [pops_at _ (by omega)] at c1
  have b1 := ones_le 8 x1.toNat
  rw [k1] at he
  clear k1
  obtain ⟨y1, f1⟩ : ∃ y : Int, (onesN 8 x1.toNat : Int) = y := ⟨_, rfl⟩
  rw [f1] at c1
  have p1 : 0 ≤ y1 ∧ y1 ≤ 8 := by omega
  obtain ⟨p1, q1⟩ := p1
  obtain ⟨x2, e2⟩ : ∃ x, IntKind.u8.wrap (n / 65536) = x := ⟨_, rfl⟩
  have l2 : 0 ≤ x2 ∧ x2 < 256 ∧ (n.toNat / 65536 % 256) = x2.toNat := by rw [← e2, IntKind.wrap_u8]; omega
  obtain ⟨l2, m2, k2⟩ := l2
  have c2 := T.pop x2.toNat (by omega)
  rw [pops_at _ (by omega)] at c2
  have b2 := ones_le 8 x2.toNat
  rw [k2] at he
  clear k2
  obtain ⟨y2, f2⟩ : ∃ y : Int, (onesN 8 x2.toNat : Int) = y := ⟨_, rfl⟩
  rw [f2] at c2
  have p2 : 0 ≤ y2 ∧ y2 ≤ 8 := by omega
  obtain ⟨p2, q2⟩ := p2
  obtain ⟨x3, e3⟩ : ∃ x, IntKind.u8.wrap (n / 16777216) = x := ⟨_, rfl⟩
  have l3 : 0 ≤ x3 ∧ x3 < 256 ∧ (n.toNat / 16777216 % 256) = x3.toNat := by rw [← e3, IntKind.wrap_u8]; omega
  obtain ⟨l3, m3, k3⟩ := l3
  have c3 := T.pop x3.toNat (by omega)
  rw [pops_at _ (by omega)] at c3
  have b3 := ones_le 8 x3.toNat
  rw [k3] at he
  clear k3
  obtain ⟨y3, f3⟩ : ∃ y : Int, (onesN 8 x3.toNat : Int) = y := ⟨_, rfl⟩
  rw [f3] at c3
  have p3 : 0 ≤ y3 ∧ y3 ≤ 8 := by omega
  obtain ⟨p3, q3⟩ := p3
  obtain ⟨x4, e4⟩ : ∃ x, IntKind.u8.wrap (n / 4294967296) = x := ⟨_, rfl⟩
  have l4 : 0 ≤ x4 ∧ x4 < 256 ∧ (n.toNat / 4294967296 % 256) = x4.toNat := by rw [← e4, IntKind.wrap_u8]; omega
  obtain ⟨l4, m4, k4⟩ := l4
  have c4 := T.pop x4.toNat (by omega)
  rw [pops_at _ (by omega)] at c4
  have b4 := ones_le 8 x4.toNat
  rw [k4] at he
  clear k4
  obtain ⟨y4, f4⟩ : ∃ y : Int, (onesN 8 x4.toNat : Int) = y := ⟨_, rfl⟩
  rw [f4] at c4
  have p4 : 0 ≤ y4 ∧ y4 ≤ 8 := by omega
  obtain ⟨p4, q4⟩ := p4
  obtain ⟨x5, e5⟩ : ∃ x, IntKind.u8.wrap (n / 1099511627776) = x := ⟨_, rfl⟩
  have l5 : 0 ≤ x5 ∧ x5 < 256 ∧ (n.toNat / 1099511627776 % 256) = x5.toNat := by rw [← e5, IntKind.wrap_u8]; omega
  obtain ⟨l5, m5, k5⟩ := l5
  have c5 := T.pop x5.toNat (by omega)
  rw [pops_at _ (by omega)] at c5
  have b5 := ones_le 8 x5.toNat
  rw [k5] at he
  clear k5
  obtain ⟨y5, f5⟩ : ∃ y : Int, (onesN 8 x5.toNat : Int) = y := ⟨_, rfl⟩
  rw [f5] at c5
  have p5 : 0 ≤ y5 ∧ y5 ≤ 8 := by omega
  obtain ⟨p5, q5⟩ := p5
  obtain ⟨x6, e6⟩ : ∃ x, IntKind.u8.wrap (n / 281474976710656) = x := ⟨_, rfl⟩
  have l6 : 0 ≤ x6 ∧ x6 < 256 ∧ (n.toNat / 281474976710656 % 256) = x6.toNat := by rw [← e6, IntKind.wrap_u8]; omega
  obtain ⟨l6, m6, k6⟩ := l6
  have c6 := T.pop x6.toNat (by omega)
  rw [pops_at _ (by omega)] at c6
  have b6 := ones_le 8 x6.toNat
  rw [k6] at he
  clear k6
  obtain ⟨y6, f6⟩ : ∃ y : Int, (onesN 8 x6.toNat : Int) = y := ⟨_, rfl⟩
  rw [f6] at c6
  have p6 : 0 ≤ y6 ∧ y6 ≤ 8 := by omega
  obtain ⟨p6, q6⟩ := p6
  obtain ⟨x7, e7⟩ : ∃ x, IntKind.u8.wrap (n / 72057594037927936) = x := ⟨_, rfl⟩
  have l7 : 0 ≤ x7 ∧ x7 < 256 ∧ (n.toNat / 72057594037927936) = x7.toNat := by rw [← e7, IntKind.wrap_u8]; omega
  obtain ⟨l7, m7, k7⟩ := l7
  have c7 := T.pop x7.toNat (by omega)
  rw [pops_at _ (by omega)] at c7
  have b7 := ones_le 8 x7.toNat
  rw [k7] at he
  clear k7
  obtain ⟨y7, f7⟩ : ∃ y : Int, (onesN 8 x7.toNat : Int) = y := ⟨_, rfl⟩
  rw [f7] at c7
  have p7 : 0 ≤ y7 ∧ y7 ≤ 8 := by omega
  obtain ⟨p7, q7⟩ := p7
  replace he : (onesN 64 n.toNat : Int) = y0 + y1 + y2 + y3 + y4 + y5 + y6 + y7 := by omega
  rw [he]
  clear he b0 f0 b1 f1 b2 f2 b3 f3 b4 f4 b5 f5 b6 f6 b7 f7
  have s6 : IntKind.i64.wrap (y7 + y6) = y7 + y6 := by rw [IntKind.wrap_i64]; omega
  have s5 : IntKind.i64.wrap (y7 + y6 + y5) = y7 + y6 + y5 := by rw [IntKind.wrap_i64]; omega
  have s4 : IntKind.i64.wrap (y7 + y6 + y5 + y4) = y7 + y6 + y5 + y4 := by rw [IntKind.wrap_i64]; omega
  have s3 : IntKind.i64.wrap (y7 + y6 + y5 + y4 + y3) = y7 + y6 + y5 + y4 + y3 := by rw [IntKind.wrap_i64]; omega
  have s2 : IntKind.i64.wrap (y7 + y6 + y5 + y4 + y3 + y2) = y7 + y6 + y5 + y4 + y3 + y2 := by rw [IntKind.wrap_i64]; omega
  have s1 : IntKind.i64.wrap (y7 + y6 + y5 + y4 + y3 + y2 + y1) = y7 + y6 + y5 + y4 + y3 + y2 + y1 := by rw [IntKind.wrap_i64]; omega
  have s0 : IntKind.i64.wrap (y7 + y6 + y5 + y4 + y3 + y2 + y1 + y0) = y7 + y6 + y5 + y4 + y3 + y2 + y1 + y0 := by rw [IntKind.wrap_i64]; omega
  go_enter Tryd.func32, Tryd.ntmps32
  go_wp2
  go_quiet (fail)
  go_wp2
  go_ret
  exact ⟨ret_eq (by try unfold wrap64
                    try simp only [IntKind.wrap_i64]
                    omega), _, rfl⟩

end Go.Proofs.YtfoifemajoebpaaDoor.Bl
