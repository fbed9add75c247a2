/- Contracts of the package's functions that read the tables. Printed by genbl.py. -/
import Derived.Test.YtpelipdecjooeaaDoorProg
import Derived.Below
import Derived.Deep.Draws
import Derived.OwnWalk
import Derived.Tactics
import Derived.Laws.Slices
import Derived.WalkKit
import Derived.KernelRfl
import Derived.RowKit3
import Derived.WideLaws
import Derived.Laws.BitsLemmas
import Derived.RowKit
import Derived.Laws.ResultCell
import Derived.Outline
import Derived.Lib.Hide
import Derived.WalkLawsBesides
import Derived.Test.YtpelipdecjooeaaDoorTab
import Derived.Deep.QuietTactic
import Derived.BigQuiet
import Derived.Test.YtpelipdecjooeaaDoorBlN
namespace Go.Proofs.YtpelipdecjooeaaDoor.Bl
open Go Go.RowKit Go.Proofs.YtpelipdecjooeaaDoor.Tab Go.Proofs.YtpelipdecjooeaaDoor.BlN
set_option linter.unusedVariables false
theorem ret_eq {a b : Int} (h : a = b) : Ending.returned (.int .i64 a) = Ending.returned (.int .i64 b) := by rw [h]

theorem BitLenUint64_0 (n : Int) (h0 : 0 ≤ n) (h1 : n < 256) (w : World) (T : Tabs w) :
    Calls Tryd.prog 15 #[.int .u64 n] w fun e w' => e = .returned (.int .i64 (blen n.toNat : Int)) ∧ w' = w := by
  have c := T.log n.toNat (by omega)
  have hb : blen n.toNat ≤ 8 := blen_le 8 _ (by omega)
  rw [logs_at _ (by omega)] at c
  go_enter Tryd.func15, Tryd.ntmps15
  go_wp2
  go_ret
  exact ⟨ret_eq (by try unfold wrap64
                    omega), rfl⟩
theorem BitLenUint64_1 (n : Int) (h0 : 256 ≤ n) (h1 : n < 65536) (w : World) (T : Tabs w) :
    Calls Tryd.prog 15 #[.int .u64 n] w fun e w' => e = .returned (.int .i64 (blen n.toNat : Int)) ∧ w' = w := by
  have c := T.log (n / 256).toNat (by omega)
  have hb : blen (n / 256).toNat ≤ 8 := blen_le 8 _ (by omega)
  have he : blen n.toNat = blen (n / 256).toNat + 8 := by rw [blen_pow 8 n.toNat (by omega)]; congr 2; omega
  rw [logs_at _ (by omega)] at c
  go_enter Tryd.func15, Tryd.ntmps15
  go_wp2
  go_ret
  exact ⟨ret_eq (by try unfold wrap64
                    omega), rfl⟩
theorem BitLenUint64_2 (n : Int) (h0 : 65536 ≤ n) (h1 : n < 16777216) (w : World) (T : Tabs w) :
    Calls Tryd.prog 15 #[.int .u64 n] w fun e w' => e = .returned (.int .i64 (blen n.toNat : Int)) ∧ w' = w := by
  have c := T.log (n / 65536).toNat (by omega)
  have hb : blen (n / 65536).toNat ≤ 8 := blen_le 8 _ (by omega)
  have he : blen n.toNat = blen (n / 65536).toNat + 16 := by rw [blen_pow 16 n.toNat (by omega)]; congr 2; omega
  rw [logs_at _ (by omega)] at c
  go_enter Tryd.func15, Tryd.ntmps15
  go_wp2
  go_ret
  exact ⟨ret_eq (by try unfold wrap64
                    omega), rfl⟩
theorem BitLenUint64_3 (n : Int) (h0 : 16777216 ≤ n) (h1 : n < 4294967296) (w : World) (T : Tabs w) :
    Calls Tryd.prog 15 #[.int .u64 n] w fun e w' => e = .returned (.int .i64 (blen n.toNat : Int)) ∧ w' = w := by
  have c := T.log (n / 16777216).toNat (by omega)
  have hb : blen (n / 16777216).toNat ≤ 8 := blen_le 8 _ (by omega)
  have he : blen n.toNat = blen (n / 16777216).toNat + 24 := by rw [blen_pow 24 n.toNat (by omega)]; congr 2; omega
  rw [logs_at _ (by omega)] at c
  go_enter Tryd.func15, Tryd.ntmps15
  go_wp2
  go_ret
  exact ⟨ret_eq (by try unfold wrap64
                    omega), rfl⟩
theorem BitLenUint64_4 (n : Int) (h0 : 4294967296 ≤ n) (h1 : n < 1099511627776) (w : World) (T : Tabs w) :
    Calls Tryd.prog 15 #[.int .u64 n] w fun e w' => e = .returned (.int .i64 (blen n.toNat : Int)) ∧ w' = w := by
  have c := T.log (n / 4294967296).toNat (by omega)
  have hb : blen (n / 4294967296).toNat ≤ 8 := blen_le 8 _ (by omega)
  have he : blen n.toNat = blen (n / 4294967296).toNat + 32 := by rw [blen_pow 32 n.toNat (by omega)]; congr 2; omega
  rw [logs_at _ (by omega)] at c
  go_enter Tryd.func15, Tryd.ntmps15
  go_wp2
  go_ret
  exact ⟨ret_eq (by try unfold wrap64
                    omega), rfl⟩
theorem BitLenUint64_5 (n : Int) (h0 : 1099511627776 ≤ n) (h1 : n < 281474976710656) (w : World) (T : Tabs w) :
    Calls Tryd.prog 15 #[.int .u64 n] w fun e w' => e = .returned (.int .i64 (blen n.toNat : Int)) ∧ w' = w := by
  have c := T.log (n / 1099511627776).toNat (by omega)
  have hb : blen (n / 1099511627776).toNat ≤ 8 := blen_le 8 _ (by omega)
  have he : blen n.toNat = blen (n / 1099511627776).toNat + 40 := by rw [blen_pow 40 n.toNat (by omega)]; congr 2; omega
  rw [logs_at _ (by omega)] at c
  go_enter Tryd.func15, Tryd.ntmps15
  go_wp2
  go_ret
  exact ⟨ret_eq (by try unfold wrap64
                    omega), rfl⟩
theorem BitLenUint64_6 (n : Int) (h0 : 281474976710656 ≤ n) (h1 : n < 72057594037927936) (w : World) (T : Tabs w) :
    Calls Tryd.prog 15 #[.int .u64 n] w fun e w' => e = .returned (.int .i64 (blen n.toNat : Int)) ∧ w' = w := by
  have c := T.log (n / 281474976710656).toNat (by omega)
  have hb : blen (n / 281474976710656).toNat ≤ 8 := blen_le 8 _ (by omega)
  have he : blen n.toNat = blen (n / 281474976710656).toNat + 48 := by rw [blen_pow 48 n.toNat (by omega)]; congr 2; omega
  rw [logs_at _ (by omega)] at c
  go_enter Tryd.func15, Tryd.ntmps15
  go_wp2
  go_ret
  exact ⟨ret_eq (by try unfold wrap64
                    omega), rfl⟩
theorem BitLenUint64_7 (n : Int) (h0 : 72057594037927936 ≤ n) (h1 : n < 18446744073709551616) (w : World) (T : Tabs w) :
    Calls Tryd.prog 15 #[.int .u64 n] w fun e w' => e = .returned (.int .i64 (blen n.toNat : Int)) ∧ w' = w := by
  have c := T.log (n / 72057594037927936).toNat (by omega)
  have hb : blen (n / 72057594037927936).toNat ≤ 8 := blen_le 8 _ (by omega)
  have he : blen n.toNat = blen (n / 72057594037927936).toNat + 56 := by rw [blen_pow 56 n.toNat (by omega)]; congr 2; omega
  rw [logs_at _ (by omega)] at c
  go_enter Tryd.func15, Tryd.ntmps15
  go_wp2
  go_ret
  exact ⟨ret_eq (by try unfold wrap64
                    omega), rfl⟩
theorem BitLenUint64 (n : Int) (h0 : 0 ≤ n) (h1 : n < 18446744073709551616) (w : World) (T : Tabs w) :
    Calls Tryd.prog 15 #[.int .u64 n] w fun e w' => e = .returned (.int .i64 (blen n.toNat : Int)) ∧ w' = w := by
  by_cases c7 : 72057594037927936 ≤ n
  · exact BitLenUint64_7 n c7 h1 w T
  by_cases c6 : 281474976710656 ≤ n
  · exact BitLenUint64_6 n c6 (by omega) w T
  by_cases c5 : 1099511627776 ≤ n
  · exact BitLenUint64_5 n c5 (by omega) w T
  by_cases c4 : 4294967296 ≤ n
  · exact BitLenUint64_4 n c4 (by omega) w T
  by_cases c3 : 16777216 ≤ n
  · exact BitLenUint64_3 n c3 (by omega) w T
  by_cases c2 : 65536 ≤ n
  · exact BitLenUint64_2 n c2 (by omega) w T
  by_cases c1 : 256 ≤ n
  · exact BitLenUint64_1 n c1 (by omega) w T
  exact BitLenUint64_0 n h0 (by omega) w T

end Go.Proofs.YtpelipdecjooeaaDoor.Bl
