/- The walks of the laws over the tables. -/
import Derived.Test.YtfoifemajoebpaaDoorSpecT
import Derived.Laws.Bits64b
namespace Go.Proofs.YtfoifemajoebpaaDoor.LawsW
open Go Go.RowKit Go.Proofs.YtfoifemajoebpaaDoor.Tab Go.Proofs.YtfoifemajoebpaaDoor.BlN Go.Proofs.YtfoifemajoebpaaDoor.Bl Go.Proofs.YtfoifemajoebpaaDoor.Impl Go.Proofs.YtfoifemajoebpaaDoor.SpecT
set_option linter.unusedVariables false
set_option maxRecDepth 100000

theorem joined_walk (a b o n x y z t : Int) (ho : Go.bits .or .u64 a b = o) (hn : Go.bits .and .u64 a b = n) (w : World) (T : Tabs w)
    (ca : ∀ w', Tabs w' → Calls Tryd.prog 14 #[.int .i64 64, .int .u64 a] w' fun e w'' => e = .returned (.int .i64 x) ∧ ∃ m, w'' = w'.drewN m)
    (cb : ∀ w', Tabs w' → Calls Tryd.prog 14 #[.int .i64 64, .int .u64 b] w' fun e w'' => e = .returned (.int .i64 y) ∧ ∃ m, w'' = w'.drewN m)
    (co : ∀ w', Tabs w' → Calls Tryd.prog 14 #[.int .i64 64, .int .u64 o] w' fun e w'' => e = .returned (.int .i64 z) ∧ ∃ m, w'' = w'.drewN m)
    (cd : ∀ w', Tabs w' → Calls Tryd.prog 14 #[.int .i64 64, .int .u64 n] w' fun e w'' => e = .returned (.int .i64 t) ∧ ∃ m, w'' = w'.drewN m)
    (h : x + y = z + t) :
    Calls Tryd.prog 6 #[.int .u64 a, .int .u64 b] w fun e w' => e = .returned (.bool true) ∧ ∃ m, w' = w.drewN m := by
  go_enter Tryd.func6, Tryd.ntmps6
  go_wp2_with (first
    | (go_at_call 10; (with_reducible refine (counts _ ?_).mono ?_); exact T; rintro e w' ⟨rfl, ⟨nd, rfl⟩⟩)
    | (go_at_call 14; (with_reducible refine (ca _ ?_).mono ?_); exact T; rintro e w' ⟨rfl, ⟨nd, rfl⟩⟩)
    | (go_at_call 14; (with_reducible refine (cb _ ?_).mono ?_); exact T; rintro e w' ⟨rfl, ⟨nd, rfl⟩⟩)
    | (go_at_call 14; (with_reducible refine (co _ ?_).mono ?_); exact T; rintro e w' ⟨rfl, ⟨nd, rfl⟩⟩)
    | (go_at_call 14; (with_reducible refine (cd _ ?_).mono ?_); exact T; rintro e w' ⟨rfl, ⟨nd, rfl⟩⟩))
  go_ret
  exact ⟨by simp, _, rfl⟩
theorem joined (a b : Int) (ha0 : 0 ≤ a) (ha1 : a < 18446744073709551616) (hb0 : 0 ≤ b) (hb1 : b < 18446744073709551616) (w : World) (T : Tabs w) :
    Calls Tryd.prog 6 #[.int .u64 a, .int .u64 b] w fun e w' => e = .returned (.bool true) ∧ ∃ m, w' = w.drewN m := by
  obtain ⟨a, rfl⟩ := Int.eq_ofNat_of_zero_le ha0
  obtain ⟨b, rfl⟩ := Int.eq_ofNat_of_zero_le hb0
  have hol : (a ||| b) < 2 ^ 64 := Nat.or_lt_two_pow (by omega) (by omega)
  have hnl : (a &&& b) < 2 ^ 64 := Nat.and_lt_two_pow _ (by omega)
  have ho := bits_or_u64_nat a b (by omega) (by omega)
  have hn := bits_and_u64_nat a b (by omega) (by omega)
  have j := ones_joined 64 a b
  exact joined_walk a b _ _ _ _ _ _ ho hn w T (fun w' T' => iP64 a ha0 ha1 w' T') (fun w' T' => iP64 b hb0 hb1 w' T') (fun w' T' => iP64 _ (by omega) (by omega) w' T') (fun w' T' => iP64 _ (by omega) (by omega) w' T')
    (by simp only [Int.toNat_natCast]; omega)

theorem bl_arm (wd n lo : Int) (h0 : 0 ≤ n) (h1 : n < 18446744073709551616) (hl0 : 0 ≤ lo) (hl1 : lo < 18446744073709551616) (hw : wd = 8 ∨ wd = 16 ∨ wd = 32 ∨ wd = 64) (hlo : PFnBitLen.spec_Low.f wd n = some lo) (w : World) (T : Tabs w)
    (hB : ∀ w', Tabs w' → Calls Tryd.prog 11 #[.int .i64 wd, .int .u64 n] w' fun e w'' => e = .returned (.int .i64 (blen lo.toNat : Int)) ∧ w'' = w') :
    Calls Tryd.prog 3 #[.int .i64 wd, .int .u64 n] w fun e w' => e = .returned (.bool true) ∧ ∃ m, w' = w.drewN m := by
  have cn := sLength n h0 h1
  have cl := sLength lo hl0 hl1
  have cw := sWidth wd hw
  have co := sLow wd n lo hlo
  have hb : blen lo.toNat ≤ 64 := blen_le 64 _ (by omega)
  go_enter Tryd.func3, Tryd.ntmps3
  go_wp2_with (first
    | (go_at_call 10; (with_reducible refine (counts _ ?_).mono ?_); exact T; rintro e w' ⟨rfl, ⟨nd, rfl⟩⟩)
    | (go_at_call 7; (with_reducible refine (cn _).mono ?_); rintro e w' ⟨rfl, ⟨nd, rfl⟩⟩)
    | (go_at_call 7; (with_reducible refine (cl _).mono ?_); rintro e w' ⟨rfl, ⟨nd, rfl⟩⟩)
    | (go_at_call 8; (with_reducible refine (cw _).mono ?_); rintro e w' ⟨rfl, ⟨nd, rfl⟩⟩)
    | (go_at_call 9; (with_reducible refine (co _).mono ?_); rintro e w' ⟨rfl, ⟨nd, rfl⟩⟩)
    | (go_at_call 11; (with_reducible refine (hB _ ?_).mono ?_); exact T; rintro e w' ⟨rfl, rfl⟩))
  all_goals
    go_ret
    exact ⟨by simp, _, rfl⟩

theorem bl_ext1 (n v : Int) (h0 : 0 ≤ n) (h1 : n < 18446744073709551616) (h2 : n < 9223372036854775808) (cn : ∀ w', Calls Tryd.prog 7 #[.int .u64 n] w' fun e w'' => e = .returned (.int .i64 v) ∧ ∃ m, w'' = w'.drewN m) (w : World) (T : Tabs w)
    (hB : ∀ w', Tabs w' → Calls Tryd.prog 11 #[.int .i64 1, .int .u64 n] w' fun e w'' => e = .returned (.int .i64 v) ∧ w'' = w') :
    Calls Tryd.prog 3 #[.int .i64 1, .int .u64 n] w fun e w' => e = .returned (.bool true) ∧ ∃ m, w' = w.drewN m := by
  have cw := sNot 1 (by omega)
  go_enter Tryd.func3, Tryd.ntmps3
  go_wp2_with (first
    | (go_at_call 10; (with_reducible refine (counts _ ?_).mono ?_); exact T; rintro e w' ⟨rfl, ⟨nd, rfl⟩⟩)
    | (go_at_call 7; (with_reducible refine (cn _).mono ?_); rintro e w' ⟨rfl, ⟨nd, rfl⟩⟩)
    | (go_at_call 8; (with_reducible refine (cw _).mono ?_); rintro e w' ⟨rfl, ⟨nd, rfl⟩⟩)
    | (go_at_call 11; (with_reducible refine (hB _ ?_).mono ?_); exact T; rintro e w' ⟨rfl, rfl⟩))
  all_goals
    go_ret
    exact ⟨by simp, _, rfl⟩

theorem bl_ext2 (n v : Int) (h0 : 0 ≤ n) (h1 : n < 18446744073709551616) (cn : ∀ w', Calls Tryd.prog 7 #[.int .u64 n] w' fun e w'' => e = .returned (.int .i64 v) ∧ ∃ m, w'' = w'.drewN m) (w : World) (T : Tabs w)
    (hB : ∀ w', Tabs w' → Calls Tryd.prog 11 #[.int .i64 2, .int .u64 n] w' fun e w'' => e = .returned (.int .i64 v) ∧ w'' = w') :
    Calls Tryd.prog 3 #[.int .i64 2, .int .u64 n] w fun e w' => e = .returned (.bool true) ∧ ∃ m, w' = w.drewN m := by
  have cw := sNot 2 (by omega)
  go_enter Tryd.func3, Tryd.ntmps3
  go_wp2_with (first
    | (go_at_call 10; (with_reducible refine (counts _ ?_).mono ?_); exact T; rintro e w' ⟨rfl, ⟨nd, rfl⟩⟩)
    | (go_at_call 7; (with_reducible refine (cn _).mono ?_); rintro e w' ⟨rfl, ⟨nd, rfl⟩⟩)
    | (go_at_call 8; (with_reducible refine (cw _).mono ?_); rintro e w' ⟨rfl, ⟨nd, rfl⟩⟩)
    | (go_at_call 11; (with_reducible refine (hB _ ?_).mono ?_); exact T; rintro e w' ⟨rfl, rfl⟩))
  all_goals
    go_ret
    exact ⟨by simp, _, rfl⟩

theorem bl_ext3 (n v : Int) (h0 : 0 ≤ n) (h1 : n < 18446744073709551616) (cn : ∀ w', Calls Tryd.prog 7 #[.int .u64 n] w' fun e w'' => e = .returned (.int .i64 v) ∧ ∃ m, w'' = w'.drewN m) (w : World) (T : Tabs w)
    (hB : ∀ w', Tabs w' → Calls Tryd.prog 11 #[.int .i64 3, .int .u64 n] w' fun e w'' => e = .returned (.int .i64 v) ∧ w'' = w') :
    Calls Tryd.prog 3 #[.int .i64 3, .int .u64 n] w fun e w' => e = .returned (.bool true) ∧ ∃ m, w' = w.drewN m := by
  have cw := sNot 3 (by omega)
  go_enter Tryd.func3, Tryd.ntmps3
  go_wp2_with (first
    | (go_at_call 10; (with_reducible refine (counts _ ?_).mono ?_); exact T; rintro e w' ⟨rfl, ⟨nd, rfl⟩⟩)
    | (go_at_call 7; (with_reducible refine (cn _).mono ?_); rintro e w' ⟨rfl, ⟨nd, rfl⟩⟩)
    | (go_at_call 8; (with_reducible refine (cw _).mono ?_); rintro e w' ⟨rfl, ⟨nd, rfl⟩⟩)
    | (go_at_call 11; (with_reducible refine (hB _ ?_).mono ?_); exact T; rintro e w' ⟨rfl, rfl⟩))
  all_goals
    go_ret
    exact ⟨by simp, _, rfl⟩

theorem bl_cntA (wd n v : Int) (h0 : 0 ≤ n) (h1 : n < 18446744073709551616) (hv : wd < 1) (cn : ∀ w', Calls Tryd.prog 7 #[.int .u64 n] w' fun e w'' => e = .returned (.int .i64 v) ∧ ∃ m, w'' = w'.drewN m) (w : World) (T : Tabs w) :
    Calls Tryd.prog 3 #[.int .i64 wd, .int .u64 n] w fun e w' => e = .returned (.bool true) ∧ ∃ m, w' = w.drewN m := by
  have cw := sNot wd (by omega)
  have hv1 : wd ≠ 1 := by omega
  go_enter Tryd.func3, Tryd.ntmps3
  go_wp2_with (first
    | (go_at_call 10; (with_reducible refine (counts _ ?_).mono ?_); exact T; rintro e w' ⟨rfl, ⟨nd, rfl⟩⟩)
    | (go_at_call 7; (with_reducible refine (cn _).mono ?_); rintro e w' ⟨rfl, ⟨nd, rfl⟩⟩)
    | (go_at_call 8; (with_reducible refine (cw _).mono ?_); rintro e w' ⟨rfl, ⟨nd, rfl⟩⟩))
  all_goals
    go_ret
    exact ⟨by simp, _, rfl⟩

theorem bl_cntB (wd n v : Int) (h0 : 0 ≤ n) (h1 : n < 18446744073709551616) (hw : ¬ (wd = 8 ∨ wd = 16 ∨ wd = 32 ∨ wd = 64)) (hv : 3 < wd) (cn : ∀ w', Calls Tryd.prog 7 #[.int .u64 n] w' fun e w'' => e = .returned (.int .i64 v) ∧ ∃ m, w'' = w'.drewN m) (w : World) (T : Tabs w) :
    Calls Tryd.prog 3 #[.int .i64 wd, .int .u64 n] w fun e w' => e = .returned (.bool true) ∧ ∃ m, w' = w.drewN m := by
  have cw := sNot wd (by omega)
  have hv1 : wd ≠ 1 := by omega
  clear hw
  go_enter Tryd.func3, Tryd.ntmps3
  go_wp2_with (first
    | (go_at_call 10; (with_reducible refine (counts _ ?_).mono ?_); exact T; rintro e w' ⟨rfl, ⟨nd, rfl⟩⟩)
    | (go_at_call 7; (with_reducible refine (cn _).mono ?_); rintro e w' ⟨rfl, ⟨nd, rfl⟩⟩)
    | (go_at_call 8; (with_reducible refine (cw _).mono ?_); rintro e w' ⟨rfl, ⟨nd, rfl⟩⟩))
  all_goals
    go_ret
    exact ⟨by simp, _, rfl⟩

theorem bl_cntC (n v : Int) (h0 : 9223372036854775808 ≤ n) (h1 : n < 18446744073709551616) (cn : ∀ w', Calls Tryd.prog 7 #[.int .u64 n] w' fun e w'' => e = .returned (.int .i64 v) ∧ ∃ m, w'' = w'.drewN m) (w : World) (T : Tabs w) :
    Calls Tryd.prog 3 #[.int .i64 1, .int .u64 n] w fun e w' => e = .returned (.bool true) ∧ ∃ m, w' = w.drewN m := by
  have cw := sNot 1 (by omega)
  go_enter Tryd.func3, Tryd.ntmps3
  go_wp2_with (first
    | (go_at_call 10; (with_reducible refine (counts _ ?_).mono ?_); exact T; rintro e w' ⟨rfl, ⟨nd, rfl⟩⟩)
    | (go_at_call 7; (with_reducible refine (cn _).mono ?_); rintro e w' ⟨rfl, ⟨nd, rfl⟩⟩)
    | (go_at_call 8; (with_reducible refine (cw _).mono ?_); rintro e w' ⟨rfl, ⟨nd, rfl⟩⟩))
  all_goals
    go_ret
    exact ⟨by simp, _, rfl⟩

theorem log_arm (wd n lo : Int) (h0 : 0 ≤ n) (h1 : n < 18446744073709551616) (hl0 : 0 ≤ lo) (hl1 : lo < 18446744073709551616) (hw : wd = 8 ∨ wd = 16 ∨ wd = 32 ∨ wd = 64) (hlo : PFnBitLen.spec_Low.f wd n = some lo) (w : World) (T : Tabs w)
    (hB : ∀ w', Tabs w' → Calls Tryd.prog 12 #[.int .i64 wd, .int .u64 n] w' fun e w'' => e = .returned (.int .i64 ((blen lo.toNat : Int) - 1)) ∧ w'' = w') :
    Calls Tryd.prog 4 #[.int .i64 wd, .int .u64 n] w fun e w' => e = .returned (.bool true) ∧ ∃ m, w' = w.drewN m := by
  have cl := sLength lo hl0 hl1
  have cw := sWidth wd hw
  have co := sLow wd n lo hlo
  have hb : blen lo.toNat ≤ 64 := blen_le 64 _ (by omega)
  go_enter Tryd.func4, Tryd.ntmps4
  go_wp2_with (first
    | (go_at_call 10; (with_reducible refine (counts _ ?_).mono ?_); exact T; rintro e w' ⟨rfl, ⟨nd, rfl⟩⟩)
    | (go_at_call 7; (with_reducible refine (cl _).mono ?_); rintro e w' ⟨rfl, ⟨nd, rfl⟩⟩)
    | (go_at_call 8; (with_reducible refine (cw _).mono ?_); rintro e w' ⟨rfl, ⟨nd, rfl⟩⟩)
    | (go_at_call 9; (with_reducible refine (co _).mono ?_); rintro e w' ⟨rfl, ⟨nd, rfl⟩⟩)
    | (go_at_call 12; (with_reducible refine (hB _ ?_).mono ?_); exact T; rintro e w' ⟨rfl, rfl⟩))
  all_goals
    go_ret
    exact ⟨by simp, _, rfl⟩

theorem log_not (wd n : Int) (h0 : 0 ≤ n) (h1 : n < 18446744073709551616) (hw : ¬ (wd = 8 ∨ wd = 16 ∨ wd = 32 ∨ wd = 64)) (w : World) (T : Tabs w) :
    Calls Tryd.prog 4 #[.int .i64 wd, .int .u64 n] w fun e w' => e = .returned (.bool true) ∧ ∃ m, w' = w.drewN m := by
  have cw := sNot wd hw
  go_enter Tryd.func4, Tryd.ntmps4
  go_wp2_with (first
    | (go_at_call 10; (with_reducible refine (counts _ ?_).mono ?_); exact T; rintro e w' ⟨rfl, ⟨nd, rfl⟩⟩)
    | (go_at_call 8; (with_reducible refine (cw _).mono ?_); rintro e w' ⟨rfl, ⟨nd, rfl⟩⟩))
  all_goals
    go_ret
    exact ⟨by simp, _, rfl⟩

theorem pop_arm (wd n lo : Int) (h0 : 0 ≤ n) (h1 : n < 18446744073709551616) (hl0 : 0 ≤ lo) (hl1 : lo < 18446744073709551616) (hw : wd = 8 ∨ wd = 16 ∨ wd = 32 ∨ wd = 64) (hlo : PFnBitLen.spec_Low.f wd n = some lo) (w : World) (T : Tabs w)
    (hB : ∀ w', Tabs w' → Calls Tryd.prog 14 #[.int .i64 wd, .int .u64 n] w' fun e w'' => e = .returned (.int .i64 (onesN 64 lo.toNat : Int)) ∧ ∃ m, w'' = w'.drewN m) :
    Calls Tryd.prog 5 #[.int .i64 wd, .int .u64 n] w fun e w' => e = .returned (.bool true) ∧ ∃ m, w' = w.drewN m := by
  have cn := sOnes n h0 h1
  have cl := sOnes lo hl0 hl1
  have cw := sWidth wd hw
  have co := sLow wd n lo hlo
  have hb := ones_le 64 lo.toNat
  go_enter Tryd.func5, Tryd.ntmps5
  go_wp2_with (first
    | (go_at_call 10; (with_reducible refine (counts _ ?_).mono ?_); exact T; rintro e w' ⟨rfl, ⟨nd, rfl⟩⟩)
    | (go_at_call 13; (with_reducible refine (cn _).mono ?_); rintro e w' ⟨rfl, ⟨nd, rfl⟩⟩)
    | (go_at_call 13; (with_reducible refine (cl _).mono ?_); rintro e w' ⟨rfl, ⟨nd, rfl⟩⟩)
    | (go_at_call 8; (with_reducible refine (cw _).mono ?_); rintro e w' ⟨rfl, ⟨nd, rfl⟩⟩)
    | (go_at_call 9; (with_reducible refine (co _).mono ?_); rintro e w' ⟨rfl, ⟨nd, rfl⟩⟩)
    | (go_at_call 14; (with_reducible refine (hB _ ?_).mono ?_); exact T; rintro e w' ⟨rfl, ⟨nd, rfl⟩⟩))
  all_goals
    go_ret
    exact ⟨by simp, _, rfl⟩

theorem pop_ext1 (n v : Int) (h0 : 0 ≤ n) (h1 : n < 18446744073709551616) (cn : ∀ w', Calls Tryd.prog 13 #[.int .u64 n] w' fun e w'' => e = .returned (.int .i64 v) ∧ ∃ m, w'' = w'.drewN m) (w : World) (T : Tabs w)
    (hB : ∀ w', Tabs w' → Calls Tryd.prog 14 #[.int .i64 1, .int .u64 n] w' fun e w'' => e = .returned (.int .i64 v) ∧ ∃ m, w'' = w'.drewN m) :
    Calls Tryd.prog 5 #[.int .i64 1, .int .u64 n] w fun e w' => e = .returned (.bool true) ∧ ∃ m, w' = w.drewN m := by
  have cw := sNot 1 (by omega)
  go_enter Tryd.func5, Tryd.ntmps5
  go_wp2_with (first
    | (go_at_call 10; (with_reducible refine (counts _ ?_).mono ?_); exact T; rintro e w' ⟨rfl, ⟨nd, rfl⟩⟩)
    | (go_at_call 13; (with_reducible refine (cn _).mono ?_); rintro e w' ⟨rfl, ⟨nd, rfl⟩⟩)
    | (go_at_call 8; (with_reducible refine (cw _).mono ?_); rintro e w' ⟨rfl, ⟨nd, rfl⟩⟩)
    | (go_at_call 14; (with_reducible refine (hB _ ?_).mono ?_); exact T; rintro e w' ⟨rfl, ⟨nd, rfl⟩⟩))
  all_goals
    go_ret
    exact ⟨by simp, _, rfl⟩

theorem pop_ext2 (n v : Int) (h0 : 0 ≤ n) (h1 : n < 18446744073709551616) (cn : ∀ w', Calls Tryd.prog 13 #[.int .u64 n] w' fun e w'' => e = .returned (.int .i64 v) ∧ ∃ m, w'' = w'.drewN m) (w : World) (T : Tabs w)
    (hB : ∀ w', Tabs w' → Calls Tryd.prog 14 #[.int .i64 2, .int .u64 n] w' fun e w'' => e = .returned (.int .i64 v) ∧ ∃ m, w'' = w'.drewN m) :
    Calls Tryd.prog 5 #[.int .i64 2, .int .u64 n] w fun e w' => e = .returned (.bool true) ∧ ∃ m, w' = w.drewN m := by
  have cw := sNot 2 (by omega)
  go_enter Tryd.func5, Tryd.ntmps5
  go_wp2_with (first
    | (go_at_call 10; (with_reducible refine (counts _ ?_).mono ?_); exact T; rintro e w' ⟨rfl, ⟨nd, rfl⟩⟩)
    | (go_at_call 13; (with_reducible refine (cn _).mono ?_); rintro e w' ⟨rfl, ⟨nd, rfl⟩⟩)
    | (go_at_call 8; (with_reducible refine (cw _).mono ?_); rintro e w' ⟨rfl, ⟨nd, rfl⟩⟩)
    | (go_at_call 14; (with_reducible refine (hB _ ?_).mono ?_); exact T; rintro e w' ⟨rfl, ⟨nd, rfl⟩⟩))
  all_goals
    go_ret
    exact ⟨by simp, _, rfl⟩

theorem pop_ext3 (n v : Int) (h0 : 0 ≤ n) (h1 : n < 18446744073709551616) (cn : ∀ w', Calls Tryd.prog 13 #[.int .u64 n] w' fun e w'' => e = .returned (.int .i64 v) ∧ ∃ m, w'' = w'.drewN m) (w : World) (T : Tabs w)
    (hB : ∀ w', Tabs w' → Calls Tryd.prog 14 #[.int .i64 3, .int .u64 n] w' fun e w'' => e = .returned (.int .i64 v) ∧ ∃ m, w'' = w'.drewN m) :
    Calls Tryd.prog 5 #[.int .i64 3, .int .u64 n] w fun e w' => e = .returned (.bool true) ∧ ∃ m, w' = w.drewN m := by
  have cw := sNot 3 (by omega)
  go_enter Tryd.func5, Tryd.ntmps5
  go_wp2_with (first
    | (go_at_call 10; (with_reducible refine (counts _ ?_).mono ?_); exact T; rintro e w' ⟨rfl, ⟨nd, rfl⟩⟩)
    | (go_at_call 13; (with_reducible refine (cn _).mono ?_); rintro e w' ⟨rfl, ⟨nd, rfl⟩⟩)
    | (go_at_call 8; (with_reducible refine (cw _).mono ?_); rintro e w' ⟨rfl, ⟨nd, rfl⟩⟩)
    | (go_at_call 14; (with_reducible refine (hB _ ?_).mono ?_); exact T; rintro e w' ⟨rfl, ⟨nd, rfl⟩⟩))
  all_goals
    go_ret
    exact ⟨by simp, _, rfl⟩

theorem pop_cntA (wd n v : Int) (h0 : 0 ≤ n) (h1 : n < 18446744073709551616) (hv : wd < 1) (cn : ∀ w', Calls Tryd.prog 13 #[.int .u64 n] w' fun e w'' => e = .returned (.int .i64 v) ∧ ∃ m, w'' = w'.drewN m) (w : World) (T : Tabs w) :
    Calls Tryd.prog 5 #[.int .i64 wd, .int .u64 n] w fun e w' => e = .returned (.bool true) ∧ ∃ m, w' = w.drewN m := by
  have cw := sNot wd (by omega)
  have hv1 : wd ≠ 1 := by omega
  go_enter Tryd.func5, Tryd.ntmps5
  go_wp2_with (first
    | (go_at_call 10; (with_reducible refine (counts _ ?_).mono ?_); exact T; rintro e w' ⟨rfl, ⟨nd, rfl⟩⟩)
    | (go_at_call 13; (with_reducible refine (cn _).mono ?_); rintro e w' ⟨rfl, ⟨nd, rfl⟩⟩)
    | (go_at_call 8; (with_reducible refine (cw _).mono ?_); rintro e w' ⟨rfl, ⟨nd, rfl⟩⟩))
  all_goals
    go_ret
    exact ⟨by simp, _, rfl⟩

theorem pop_cntB (wd n v : Int) (h0 : 0 ≤ n) (h1 : n < 18446744073709551616) (hw : ¬ (wd = 8 ∨ wd = 16 ∨ wd = 32 ∨ wd = 64)) (hv : 3 < wd) (cn : ∀ w', Calls Tryd.prog 13 #[.int .u64 n] w' fun e w'' => e = .returned (.int .i64 v) ∧ ∃ m, w'' = w'.drewN m) (w : World) (T : Tabs w) :
    Calls Tryd.prog 5 #[.int .i64 wd, .int .u64 n] w fun e w' => e = .returned (.bool true) ∧ ∃ m, w' = w.drewN m := by
  have cw := sNot wd (by omega)
  have hv1 : wd ≠ 1 := by omega
  clear hw
  go_enter Tryd.func5, Tryd.ntmps5
  go_wp2_with (first
    | (go_at_call 10; (with_reducible refine (counts _ ?_).mono ?_); exact T; rintro e w' ⟨rfl, ⟨nd, rfl⟩⟩)
    | (go_at_call 13; (with_reducible refine (cn _).mono ?_); rintro e w' ⟨rfl, ⟨nd, rfl⟩⟩)
    | (go_at_call 8; (with_reducible refine (cw _).mono ?_); rintro e w' ⟨rfl, ⟨nd, rfl⟩⟩))
  all_goals
    go_ret
    exact ⟨by simp, _, rfl⟩

theorem bitLen (wd n : Int) (h0 : 0 ≤ n) (h1 : n < 18446744073709551616) (w : World) (T : Tabs w) :
    Calls Tryd.prog 3 #[.int .i64 wd, .int .u64 n] w fun e w' => e = .returned (.bool true) ∧ ∃ m, w' = w.drewN m := by
  by_cases hw : wd = 8 ∨ wd = 16 ∨ wd = 32 ∨ wd = 64
  · rcases hw with rfl | rfl | rfl | rfl
    · exact bl_arm 8 n _ h0 h1 (by omega) (by omega) (by decide) (low_8 n h0 h1) w T (fun w' T' => iBL8 n h0 h1 w' T')
    · exact bl_arm 16 n _ h0 h1 (by omega) (by omega) (by decide) (low_16 n h0 h1) w T (fun w' T' => iBL16 n h0 h1 w' T')
    · exact bl_arm 32 n _ h0 h1 (by omega) (by omega) (by decide) (low_32 n h0 h1) w T (fun w' T' => iBL32 n h0 h1 w' T')
    · exact bl_arm 64 n _ h0 h1 h0 h1 (by decide) (low_64 n h0 h1) w T (fun w' T' => iBL64 n h0 h1 w' T')
  · by_cases hv : wd < 1 ∨ 3 < wd ∨ (wd = 1 ∧ 9223372036854775808 ≤ n)
    · rcases hv with hv | hv | ⟨rfl, hv⟩
      · exact bl_cntA wd n _ h0 h1 hv (sLength n h0 h1) w T
      · exact bl_cntB wd n _ h0 h1 hw hv (sLength n h0 h1) w T
      · exact bl_cntC n _ hv h1 (sLength n h0 h1) w T
    · rcases (by omega : (wd = 1 ∧ n < 9223372036854775808) ∨ wd = 2 ∨ wd = 3) with ⟨rfl, h2⟩ | rfl | rfl
      · exact bl_ext1 n _ h0 h1 h2 (sLength n h0 h1) w T (fun w' T' => iBL1 n h0 h1 h2 w' T')
      · exact bl_ext2 n _ h0 h1 (sLength n h0 h1) w T (fun w' T' => iBL2 n h0 h1 w' T')
      · exact bl_ext3 n _ h0 h1 (sLength n h0 h1) w T (fun w' T' => iBL3 n h0 h1 w' T')
theorem log2 (wd n : Int) (h0 : 0 ≤ n) (h1 : n < 18446744073709551616) (w : World) (T : Tabs w) :
    Calls Tryd.prog 4 #[.int .i64 wd, .int .u64 n] w fun e w' => e = .returned (.bool true) ∧ ∃ m, w' = w.drewN m := by
  by_cases hw : wd = 8 ∨ wd = 16 ∨ wd = 32 ∨ wd = 64
  · rcases hw with rfl | rfl | rfl | rfl
    · exact log_arm 8 n _ h0 h1 (by omega) (by omega) (by decide) (low_8 n h0 h1) w T (fun w' T' => iL8 n h0 h1 w' T')
    · exact log_arm 16 n _ h0 h1 (by omega) (by omega) (by decide) (low_16 n h0 h1) w T (fun w' T' => iL16 n h0 h1 w' T')
    · exact log_arm 32 n _ h0 h1 (by omega) (by omega) (by decide) (low_32 n h0 h1) w T (fun w' T' => iL32 n h0 h1 w' T')
    · exact log_arm 64 n _ h0 h1 h0 h1 (by decide) (low_64 n h0 h1) w T (fun w' T' => iL64 n h0 h1 w' T')
  · exact log_not wd n h0 h1 hw w T
theorem ones_8 (x : Nat) (h : x < 256) : onesN 64 x = onesN 8 x := ones_small 56 8 x h
theorem ones_16' (x : Nat) (h : x < 65536) : onesN 64 x = onesN 16 x := ones_small 48 16 x h
theorem ones_32' (x : Nat) (h : x < 4294967296) : onesN 64 x = onesN 32 x := ones_small 32 32 x h
theorem popCount (wd n : Int) (h0 : 0 ≤ n) (h1 : n < 18446744073709551616) (w : World) (T : Tabs w) :
    Calls Tryd.prog 5 #[.int .i64 wd, .int .u64 n] w fun e w' => e = .returned (.bool true) ∧ ∃ m, w' = w.drewN m := by
  by_cases hw : wd = 8 ∨ wd = 16 ∨ wd = 32 ∨ wd = 64
  · rcases hw with rfl | rfl | rfl | rfl
    · exact pop_arm 8 n _ h0 h1 (by omega) (by omega) (by decide) (low_8 n h0 h1) w T (fun w' T' => by rw [ones_8 _ (by omega)]; exact iP8 n h0 h1 w' T')
    · exact pop_arm 16 n _ h0 h1 (by omega) (by omega) (by decide) (low_16 n h0 h1) w T (fun w' T' => by rw [ones_16' _ (by omega)]; exact iP16 n h0 h1 w' T')
    · exact pop_arm 32 n _ h0 h1 (by omega) (by omega) (by decide) (low_32 n h0 h1) w T (fun w' T' => by rw [ones_32' _ (by omega)]; exact iP32 n h0 h1 w' T')
    · exact pop_arm 64 n _ h0 h1 h0 h1 (by decide) (low_64 n h0 h1) w T (fun w' T' => iP64 n h0 h1 w' T')
  · by_cases hv : wd < 1 ∨ 3 < wd
    · rcases hv with hv | hv
      · exact pop_cntA wd n _ h0 h1 hv (sOnes n h0 h1) w T
      · exact pop_cntB wd n _ h0 h1 hw hv (sOnes n h0 h1) w T
    · rcases (by omega : wd = 1 ∨ wd = 2 ∨ wd = 3) with rfl | rfl | rfl
      · exact pop_ext1 n _ h0 h1 (sOnes n h0 h1) w T (fun w' T' => iP1 n h0 h1 w' T')
      · exact pop_ext2 n _ h0 h1 (sOnes n h0 h1) w T (fun w' T' => iP2 n h0 h1 w' T')
      · exact pop_ext3 n _ h0 h1 (sOnes n h0 h1) w T (fun w' T' => iP3 n h0 h1 w' T')
end Go.Proofs.YtfoifemajoebpaaDoor.LawsW
