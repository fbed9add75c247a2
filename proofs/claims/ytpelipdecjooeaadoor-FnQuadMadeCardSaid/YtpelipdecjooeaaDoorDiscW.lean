/- The walks of the discriminant's law. -/
import Derived.Test.YtpelipdecjooeaaDoorDiscT
namespace Go.Proofs.YtpelipdecjooeaaDoor.DiscW
open Go Go.RowKit Go.Com Go.Proofs.YtpelipdecjooeaaDoor.Tab Go.Proofs.YtpelipdecjooeaaDoor.BlN Go.Proofs.YtpelipdecjooeaaDoor.DiscT
set_option linter.unusedVariables false
set_option maxRecDepth 100000

/-- the walk of QuadPolyDiscriminant, with names for all that its callees answer -/
theorem qpd_walk (a b c aa ab ac x y z X Y D S r R : Int) (w : World) (T : Tabs w)
    (ca : ∀ w', Calls Tryd.prog 16 #[.int .i64 a] w' fun e w'' => e = .returned (.int .u64 aa) ∧ ∃ m, w'' = w'.drewN m)
    (cb : ∀ w', Calls Tryd.prog 16 #[.int .i64 b] w' fun e w'' => e = .returned (.int .u64 ab) ∧ ∃ m, w'' = w'.drewN m)
    (cc : ∀ w', Calls Tryd.prog 16 #[.int .i64 c] w' fun e w'' => e = .returned (.int .u64 ac) ∧ ∃ m, w'' = w'.drewN m)
    (la : ∀ w', Tabs w' → Calls Tryd.prog 15 #[.int .u64 aa] w' fun e w'' => e = .returned (.int .i64 x) ∧ w'' = w')
    (lb : ∀ w', Tabs w' → Calls Tryd.prog 15 #[.int .u64 ab] w' fun e w'' => e = .returned (.int .i64 y) ∧ w'' = w')
    (lc : ∀ w', Tabs w' → Calls Tryd.prog 15 #[.int .u64 ac] w' fun e w'' => e = .returned (.int .i64 z) ∧ w'' = w')
    (hx0 : 0 ≤ x) (hx1 : x ≤ 20) (hy0 : 0 ≤ y) (hy1 : y ≤ 20) (hz0 : 0 ≤ z) (hz1 : z ≤ 20)
    (hX : wrap64 (b * b) = X) (hY0 : wrap64 (4 * a) = 4 * a) (hY : wrap64 (4 * a * c) = Y) (hD : wrap64 (X - Y) = D)
    (hS : S = if D < 0 then -D else D) (hSw : wrap64 (-D) = -D) (hS0 : 0 ≤ S) (hSu : IntKind.u64.wrap S = S)
    (cs : ∀ w', Calls Tryd.prog 18 #[.int .u64 S] w' fun e w'' => e = .returned (.int .u64 r) ∧ ∃ m, w'' = w'.drewN m)
    (hr : IntKind.u64.wrap (r * r) = R) (hr0 : wrap64 r = r) :
    Calls Tryd.prog 13 #[.int .i64 a, .int .i64 b, .int .i64 c] w fun e w' => e = .returned (.tuple #[.int .i64 D, .int .i64 (if R = S then r else -1), .nilIface]) ∧ ∃ m, w' = w.drewN m := by
  by_cases hD0 : D < 0 <;> by_cases hRS : R = S
  all_goals
    first | rw [if_pos hD0] at hS | rw [if_neg hD0] at hS
    first | rw [if_pos hRS] | rw [if_neg hRS]
    subst hS
    go_enter Tryd.func13, Tryd.ntmps13
    go_wp2_with (first
      | (go_at_call 16; (with_reducible refine (ca _).mono ?_); rintro e w' ⟨rfl, ⟨nd, rfl⟩⟩)
      | (go_at_call 16; (with_reducible refine (cb _).mono ?_); rintro e w' ⟨rfl, ⟨nd, rfl⟩⟩)
      | (go_at_call 16; (with_reducible refine (cc _).mono ?_); rintro e w' ⟨rfl, ⟨nd, rfl⟩⟩)
      | (go_at_call 15; (with_reducible refine (la _ ?_).mono ?_); exact T; rintro e w' ⟨rfl, rfl⟩)
      | (go_at_call 15; (with_reducible refine (lb _ ?_).mono ?_); exact T; rintro e w' ⟨rfl, rfl⟩)
      | (go_at_call 15; (with_reducible refine (lc _ ?_).mono ?_); exact T; rintro e w' ⟨rfl, rfl⟩)
      | (go_at_call 18; (with_reducible refine (cs _).mono ?_); rintro e w' ⟨rfl, ⟨nd, rfl⟩⟩))
    exact bodyPost_ret (v := .tuple #[.int .i64 _, .int .i64 _, .nilIface]) (by simp [results, Tryd.results13, go_sem] <;> first | done | exact hr0 | exact ⟨rfl, rfl⟩ | rfl) rfl ⟨rfl, _, rfl⟩

/-- the root that is told of a number: that of a square, else -1 -/
def told (s n : Int) : Int := if s * s = n then s else -1
def mag (n : Int) : Int := if n < 0 then -n else n
theorem mag_pos (n : Int) : 0 ≤ mag n := by unfold mag; split <;> omega

theorem prod_in {a c : Int} (ha0 : -1000000 ≤ a) (ha1 : a ≤ 1000000) (hc0 : -1000000 ≤ c) (hc1 : c ≤ 1000000) : -1000000000000 ≤ a * c ∧ a * c ≤ 1000000000000 := by
  have h1 := Int.mul_nonneg (a := 1000000 - a) (b := 1000000 - c) (by omega) (by omega)
  have h2 := Int.mul_nonneg (a := 1000000 + a) (b := 1000000 + c) (by omega) (by omega)
  have h3 := Int.mul_nonneg (a := 1000000 - a) (b := 1000000 + c) (by omega) (by omega)
  have h4 := Int.mul_nonneg (a := 1000000 + a) (b := 1000000 - c) (by omega) (by omega)
  have e1 : (1000000 - a) * (1000000 - c) = 1000000000000 - 1000000 * a - 1000000 * c + a * c := by grind
  have e2 : (1000000 + a) * (1000000 + c) = 1000000000000 + 1000000 * a + 1000000 * c + a * c := by grind
  have e3 : (1000000 - a) * (1000000 + c) = 1000000000000 - 1000000 * a + 1000000 * c - a * c := by grind
  have e4 : (1000000 + a) * (1000000 - c) = 1000000000000 + 1000000 * a - 1000000 * c - a * c := by grind
  omega
def disc (a b c : Int) : Int := b * b - 4 * a * c
theorem disc_in {a b c : Int} (ha0 : -1000000 ≤ a) (ha1 : a ≤ 1000000) (hb0 : -1000000 ≤ b) (hb1 : b ≤ 1000000) (hc0 : -1000000 ≤ c) (hc1 : c ≤ 1000000) :
    -5000000000000 ≤ disc a b c ∧ disc a b c ≤ 5000000000000 := by
  have h1 := prod_in ha0 ha1 hc0 hc1
  have h2 := prod_in hb0 hb1 hb0 hb1
  have e : 4 * a * c = 4 * (a * c) := by rw [Int.mul_assoc]
  unfold disc
  rw [e]; omega

theorem qpd (a b c s : Int) (ha0 : -1000000 ≤ a) (ha1 : a ≤ 1000000) (hb0 : -1000000 ≤ b) (hb1 : b ≤ 1000000) (hc0 : -1000000 ≤ c) (hc1 : c ≤ 1000000)
    (hs : 0 ≤ s) (h1 : s * s ≤ mag (disc a b c)) (h2 : mag (disc a b c) < (s + 1) * (s + 1)) (w : World) (T : Tabs w) :
    Calls Tryd.prog 13 #[.int .i64 a, .int .i64 b, .int .i64 c] w fun e w' => e = .returned (.tuple #[.int .i64 (disc a b c), .int .i64 (told s (mag (disc a b c))), .nilIface]) ∧ ∃ m, w' = w.drewN m := by
  have p1 := prod_in ha0 ha1 hc0 hc1
  have p2 := prod_in hb0 hb1 hb0 hb1
  have e : 4 * a * c = 4 * (a * c) := by rw [Int.mul_assoc]
  have hd := disc_in ha0 ha1 hb0 hb1 hc0 hc1
  have hm : mag (disc a b c) ≤ 5000000000000 := by unfold mag; split <;> omega
  have hm0 := mag_pos (disc a b c)
  have hq := Nums.sq_nonneg s
  have hs3 : s ≤ 3000000 := by
    rcases Int.lt_or_le 3000000 s with g | g
    · have := Nums.sq_le (a := 3000000) (b := s) (by omega) (by omega); omega
    · exact g
  have bl : ∀ n : Int, -1000000 ≤ n → n ≤ 1000000 → 0 ≤ (if n < 0 then -n else n) ∧ (if n < 0 then -n else n) < 18446744073709551616 ∧ (blen (if n < 0 then -n else n).toNat : Int) ≤ 20 := fun n g0 g1 => by
    have := blen_le 20 (if n < 0 then -n else n).toNat (by split <;> omega)
    refine ⟨by split <;> omega, by split <;> omega, by omega⟩
  obtain ⟨a2, a3, a4⟩ := bl a ha0 ha1
  obtain ⟨b2, b3, b4⟩ := bl b hb0 hb1
  obtain ⟨c2, c3, c4⟩ := bl c hc0 hc1
  have hSu : IntKind.u64.wrap (mag (disc a b c)) = mag (disc a b c) := by rw [IntKind.wrap_u64]; omega
  exact qpd_walk a b c _ _ _ _ _ _ (b * b) (4 * a * c) (disc a b c) (mag (disc a b c)) s (s * s) w T (fun w' => cAbs a ha0 ha1 w') (fun w' => cAbs b hb0 hb1 w') (fun w' => cAbs c hc0 hc1 w')
    (fun w' T' => Bl.BitLenUint64 _ a2 a3 w' T') (fun w' T' => Bl.BitLenUint64 _ b2 b3 w' T') (fun w' T' => Bl.BitLenUint64 _ c2 c3 w' T') (by omega) a4 (by omega) b4 (by omega) c4
    (w64in _ (by omega)) (w64in _ (by omega)) (w64in _ (by omega)) (w64in _ (by unfold disc at hd; omega)) rfl (w64in _ (by omega)) hm0 hSu
    (fun w' => cSqrt _ s hm0 (by omega) hs h1 h2 w') (by rw [IntKind.wrap_u64]; omega) (w64in _ (by omega))

theorem impl_walk (a b c D v : Int) (w : World) (T : Tabs w)
    (cq : ∀ w', Tabs w' → Calls Tryd.prog 13 #[.int .i64 a, .int .i64 b, .int .i64 c] w' fun e w'' => e = .returned (.tuple #[.int .i64 D, .int .i64 v, .nilIface]) ∧ ∃ m, w'' = w'.drewN m) :
    Calls Tryd.prog 6 #[.int .i64 a, .int .i64 b, .int .i64 c] w fun e w' => e = .returned (.tuple #[.int .i64 D, .int .i64 v, .bool true]) ∧ ∃ m, w' = w.drewN m := by
  go_enter Tryd.func6, Tryd.ntmps6
  go_wp2_with (first
    | (go_at_call 13; (with_reducible refine (cq _ ?_).mono ?_); exact T; rintro e w' ⟨rfl, ⟨nd, rfl⟩⟩))
  exact bodyPost_ret (v := .tuple #[.int .i64 _, .int .i64 _, .bool true]) (by simp [results, Tryd.results6, go_sem]; first | done | exact ⟨rfl, rfl⟩ | rfl) rfl ⟨rfl, _, rfl⟩

theorem law_walk (a b c D v : Int) (w : World) (T : Tabs w)
    (c1 : ∀ w', Tabs w' → Calls Tryd.prog 6 #[.int .i64 1, .int .i64 3, .int .i64 2] w' fun e w'' => e = .returned (.tuple #[.int .i64 1, .int .i64 1, .bool true]) ∧ ∃ m, w'' = w'.drewN m)
    (c2 : ∀ w', Tabs w' → Calls Tryd.prog 6 #[.int .i64 a, .int .i64 b, .int .i64 c] w' fun e w'' => e = .returned (.tuple #[.int .i64 D, .int .i64 v, .bool true]) ∧ ∃ m, w'' = w'.drewN m)
    (ka : ∀ w', Calls Tryd.prog 7 #[.int .i64 a] w' fun e w'' => e = .returned (.bool true) ∧ ∃ m, w'' = w'.drewN m)
    (kb : ∀ w', Calls Tryd.prog 7 #[.int .i64 b] w' fun e w'' => e = .returned (.bool true) ∧ ∃ m, w'' = w'.drewN m)
    (kc : ∀ w', Calls Tryd.prog 7 #[.int .i64 c] w' fun e w'' => e = .returned (.bool true) ∧ ∃ m, w'' = w'.drewN m)
    (X Y : Int) (hX : wrap64 (b * b) = X) (hY0 : wrap64 (4 * a) = 4 * a) (hY : wrap64 (4 * a * c) = Y) (hD : wrap64 (X - Y) = D) (hN : wrap64 (-D) = -D)
    (crp : 0 ≤ D → ∀ w', Calls Tryd.prog 8 #[.int .i64 D] w' fun e w'' => e = .returned (.int .i64 v) ∧ ∃ m, w'' = w'.drewN m)
    (crn : D ≤ 0 → ∀ w', Calls Tryd.prog 8 #[.int .i64 (-D)] w' fun e w'' => e = .returned (.int .i64 v) ∧ ∃ m, w'' = w'.drewN m) :
    Calls Tryd.prog 3 #[.int .i64 a, .int .i64 b, .int .i64 c] w fun e w' => e = .returned (.bool true) ∧ ∃ m, w' = w.drewN m := by
  go_enter Tryd.func3, Tryd.ntmps3
  go_wp2_with (first
    | (go_at_call 6; (with_reducible refine (c1 _ ?_).mono ?_); exact T; rintro e w' ⟨rfl, ⟨nd, rfl⟩⟩)
    | (go_at_call 6; (with_reducible refine (c2 _ ?_).mono ?_); exact T; rintro e w' ⟨rfl, ⟨nd, rfl⟩⟩)
    | (go_at_call 7; (with_reducible refine (ka _).mono ?_); rintro e w' ⟨rfl, ⟨nd, rfl⟩⟩)
    | (go_at_call 7; (with_reducible refine (kb _).mono ?_); rintro e w' ⟨rfl, ⟨nd, rfl⟩⟩)
    | (go_at_call 7; (with_reducible refine (kc _).mono ?_); rintro e w' ⟨rfl, ⟨nd, rfl⟩⟩)
    | (go_at_call 8; (with_reducible refine (crp ?_ _).mono ?_); omega; rintro e w' ⟨rfl, ⟨nd, rfl⟩⟩)
    | (go_at_call 8; (with_reducible refine (crn ?_ _).mono ?_); omega; rintro e w' ⟨rfl, ⟨nd, rfl⟩⟩))
  all_goals
    go_ret
    exact ⟨by simp, _, rfl⟩

theorem law_a (a b c : Int) (w : World) (T : Tabs w)
    (c1 : ∀ w', Tabs w' → Calls Tryd.prog 6 #[.int .i64 1, .int .i64 3, .int .i64 2] w' fun e w'' => e = .returned (.tuple #[.int .i64 1, .int .i64 1, .bool true]) ∧ ∃ m, w'' = w'.drewN m)
    (ka : ∀ w', Calls Tryd.prog 7 #[.int .i64 a] w' fun e w'' => e = .returned (.bool false) ∧ ∃ m, w'' = w'.drewN m) :
    Calls Tryd.prog 3 #[.int .i64 a, .int .i64 b, .int .i64 c] w fun e w' => e = .returned (.bool true) ∧ ∃ m, w' = w.drewN m := by
  go_enter Tryd.func3, Tryd.ntmps3
  go_wp2_with (first
    | (go_at_call 6; (with_reducible refine (c1 _ ?_).mono ?_); exact T; rintro e w' ⟨rfl, ⟨nd, rfl⟩⟩)
    | (go_at_call 7; (with_reducible refine (ka _).mono ?_); rintro e w' ⟨rfl, ⟨nd, rfl⟩⟩))
  all_goals
    go_ret
    exact ⟨by simp, _, rfl⟩

theorem law_b (a b c : Int) (w : World) (T : Tabs w)
    (c1 : ∀ w', Tabs w' → Calls Tryd.prog 6 #[.int .i64 1, .int .i64 3, .int .i64 2] w' fun e w'' => e = .returned (.tuple #[.int .i64 1, .int .i64 1, .bool true]) ∧ ∃ m, w'' = w'.drewN m)
    (ka : ∀ w', Calls Tryd.prog 7 #[.int .i64 a] w' fun e w'' => e = .returned (.bool true) ∧ ∃ m, w'' = w'.drewN m)
    (kb : ∀ w', Calls Tryd.prog 7 #[.int .i64 b] w' fun e w'' => e = .returned (.bool false) ∧ ∃ m, w'' = w'.drewN m) :
    Calls Tryd.prog 3 #[.int .i64 a, .int .i64 b, .int .i64 c] w fun e w' => e = .returned (.bool true) ∧ ∃ m, w' = w.drewN m := by
  go_enter Tryd.func3, Tryd.ntmps3
  go_wp2_with (first
    | (go_at_call 6; (with_reducible refine (c1 _ ?_).mono ?_); exact T; rintro e w' ⟨rfl, ⟨nd, rfl⟩⟩)
    | (go_at_call 7; (with_reducible refine (ka _).mono ?_); rintro e w' ⟨rfl, ⟨nd, rfl⟩⟩)
    | (go_at_call 7; (with_reducible refine (kb _).mono ?_); rintro e w' ⟨rfl, ⟨nd, rfl⟩⟩))
  all_goals
    go_ret
    exact ⟨by simp, _, rfl⟩

theorem law_c (a b c : Int) (w : World) (T : Tabs w)
    (c1 : ∀ w', Tabs w' → Calls Tryd.prog 6 #[.int .i64 1, .int .i64 3, .int .i64 2] w' fun e w'' => e = .returned (.tuple #[.int .i64 1, .int .i64 1, .bool true]) ∧ ∃ m, w'' = w'.drewN m)
    (ka : ∀ w', Calls Tryd.prog 7 #[.int .i64 a] w' fun e w'' => e = .returned (.bool true) ∧ ∃ m, w'' = w'.drewN m)
    (kb : ∀ w', Calls Tryd.prog 7 #[.int .i64 b] w' fun e w'' => e = .returned (.bool true) ∧ ∃ m, w'' = w'.drewN m)
    (kc : ∀ w', Calls Tryd.prog 7 #[.int .i64 c] w' fun e w'' => e = .returned (.bool false) ∧ ∃ m, w'' = w'.drewN m) :
    Calls Tryd.prog 3 #[.int .i64 a, .int .i64 b, .int .i64 c] w fun e w' => e = .returned (.bool true) ∧ ∃ m, w' = w.drewN m := by
  go_enter Tryd.func3, Tryd.ntmps3
  go_wp2_with (first
    | (go_at_call 6; (with_reducible refine (c1 _ ?_).mono ?_); exact T; rintro e w' ⟨rfl, ⟨nd, rfl⟩⟩)
    | (go_at_call 7; (with_reducible refine (ka _).mono ?_); rintro e w' ⟨rfl, ⟨nd, rfl⟩⟩)
    | (go_at_call 7; (with_reducible refine (kb _).mono ?_); rintro e w' ⟨rfl, ⟨nd, rfl⟩⟩)
    | (go_at_call 7; (with_reducible refine (kc _).mono ?_); rintro e w' ⟨rfl, ⟨nd, rfl⟩⟩))
  all_goals
    go_ret
    exact ⟨by simp, _, rfl⟩

theorem one_three_two (w : World) (T : Tabs w) : Calls Tryd.prog 6 #[.int .i64 1, .int .i64 3, .int .i64 2] w fun e w'' => e = .returned (.tuple #[.int .i64 1, .int .i64 1, .bool true]) ∧ ∃ m, w'' = w.drewN m :=
  impl_walk 1 3 2 1 1 w T fun w' T' => qpd 1 3 2 1 (by decide) (by decide) (by decide) (by decide) (by decide) (by decide) (by decide) (by decide) (by decide) w' T'

theorem discriminant (a b c : Int) (w : World) (T : Tabs w) :
    Calls Tryd.prog 3 #[.int .i64 a, .int .i64 b, .int .i64 c] w fun e w' => e = .returned (.bool true) ∧ ∃ m, w' = w.drewN m := by
  by_cases ha : -1000000 ≤ a ∧ a ≤ 1000000
  · obtain ⟨ha0, ha1⟩ := ha
    by_cases hb : -1000000 ≤ b ∧ b ≤ 1000000
    · obtain ⟨hb0, hb1⟩ := hb
      by_cases hc : -1000000 ≤ c ∧ c ≤ 1000000
      · obtain ⟨hc0, hc1⟩ := hc
        have p1 := prod_in ha0 ha1 hc0 hc1
        have p2 := prod_in hb0 hb1 hb0 hb1
        have e : 4 * a * c = 4 * (a * c) := by rw [Int.mul_assoc]
        have hd := disc_in ha0 ha1 hb0 hb1 hc0 hc1
        have hm : mag (disc a b c) ≤ 5000000000000 := by unfold mag; split <;> omega
        obtain ⟨s, hs, h1, h2⟩ := Nums.sqrt_ex (mag (disc a b c)) (mag_pos _)
        have cr := cRoot (mag (disc a b c)) s (mag_pos _) (by omega) hs h1 h2
        refine law_walk a b c (disc a b c) (told s (mag (disc a b c))) w T one_three_two (fun w' T' => impl_walk a b c _ _ w' T' fun w'' T'' => qpd a b c s ha0 ha1 hb0 hb1 hc0 hc1 hs h1 h2 w'' T'')
          (cCoef a ha0 ha1) (cCoef b hb0 hb1) (cCoef c hc0 hc1) (b * b) (4 * a * c) (w64in _ (by omega)) (w64in _ (by omega)) (w64in _ (by omega)) (w64in _ (by unfold disc at hd; omega)) (w64in _ (by omega)) ?_ ?_
        · intro h
          have : mag (disc a b c) = disc a b c := by unfold mag; rw [if_neg (by omega)]
          rw [this] at cr ⊢
          exact cr
        · intro h
          have : mag (disc a b c) = -disc a b c := by unfold mag; split <;> omega
          rw [this] at cr ⊢
          exact cr
      · exact law_c a b c w T one_three_two (cCoef a ha0 ha1) (cCoef b hb0 hb1) (cNot c hc)
    · exact law_b a b c w T one_three_two (cCoef a ha0 ha1) (cNot b hb)
  · exact law_a a b c w T one_three_two (cNot a ha)
end Go.Proofs.YtpelipdecjooeaaDoor.DiscW
