/- Numbers in memory that are read, set and made: Uint64, BitLen, Bit, SetUint64, NewInt. -/
import Derived.Test.YtmmnopmccamjcaaGreatDoorMemJ
import Derived.Test.YtmmnopmccamjcaaGreatDoorCom
namespace Go.Proofs.YtmmnopmccamjcaaGreatDoor.MemL
open Go Go.Proofs Go.RowKit Go.Proofs.YtmmnopmccamjcaaGreatDoor.PBig Go.Proofs.YtmmnopmccamjcaaGreatDoorW.PrintWords Go.Proofs.YtmmnopmccamjcaaGreatDoorW.PrintMore Go.Proofs.YtmmnopmccamjcaaGreatDoor.BigW Go.Proofs.YtmmnopmccamjcaaGreatDoor.MemA Go.Proofs.YtmmnopmccamjcaaGreatDoor.MemB Go.Proofs.YtmmnopmccamjcaaGreatDoor.MemC Go.Proofs.YtmmnopmccamjcaaGreatDoor.MemD Go.Proofs.YtmmnopmccamjcaaGreatDoor.MemE Go.Proofs.YtmmnopmccamjcaaGreatDoor.MemJ
set_option linter.unusedVariables false
set_option linter.unusedSimpArgs false
theorem nt_C {w : World} {A : Option Addr} {cap : Nat} {ws : List Int} (h : Nt w A cap ws) : Kd.C (Kd.int .u64) w A ws.length ws := by
  rcases h with ⟨rfl, _, rfl⟩ | ⟨g, rfl, hr, hc⟩
  · exact Kd.C_nil _ _
  · have hl : ws.length ≤ cap := by obtain ⟨_, _, _, h, _⟩ := hr; exact h
    refine ⟨rfl, by omega, fun _ => ⟨⟨g, 0, none⟩, rfl, fun j p hj => ⟨[.int .u64 p], rfl, rfl, fun i u hu => ?_⟩⟩⟩
    have hi : i = 0 := by
      rcases i with _ | i
      · rfl
      · simp at hu
    subst hi
    have hu : Value.int .u64 p = u := by simpa using hu
    subst hu
    have hjl : j < ws.length := by
      rcases Nat.lt_or_ge j ws.length with h | h
      · exact h
      · rw [List.getElem?_eq_none h] at hj; cases hj
    have hc := hr.cell j hjl
    have e : rd ws (j : Int) = p := by
      unfold rd
      rw [List.getD_eq_getElem?_getD, Int.toNat_natCast, hj]; rfl
    rw [e] at hc
    have ea : (if j = 0 then (⟨g, 0, none⟩ : Addr) else ⟨g, j, none⟩) = ⟨g, j, none⟩ := by
      split
      · rename_i h; rw [h]
      · rfl
    simp [Addr.add, Kd.int, Kd.scalar]
    rw [ea]
    exact hc
theorem low64_is {n : Int} (h0 : 0 ≤ n) (h1 : n < 18446744073709551616) : bigall_low64.f (Wds n) = some n := by
  unfold bigall_low64.f
  by_cases h : n = 0
  · subst h; rfl
  · rw [wds_one h h1]
    rw [if_neg (by simp), if_pos (by simp)]
    rfl
set_option maxHeartbeats 4000000 in
theorem uint64 (p : Nat) (A : Option Addr) (cap : Nat) {n : Int} (h0 : 0 ≤ n) (h1 : n < 18446744073709551616) (w : World) (hN : Num w p A cap n) :
    Calls Tryz.prog 17 #[.pointer (some ⟨p, 0, none⟩)] w fun e w' => e = .returned (.int .u64 n) ∧ ∃ m, w' = w.drewN m := by
  obtain ⟨_, hc1, _, _⟩ := num_cells hN
  have h30 := bigall_low64.calls A cap (Wds n) n w (nt_C hN.2) hN.2.len.1 (low64_is h0 h1)
  clear hN
  go_enter Tryz.func17, Tryz.ntmps17
  go_wp2_with (go_at_call 24; refine h30.mono ?_; rintro e w1 ⟨rfl, d⟩; obtain ⟨m, rfl⟩ := d.out)
  go_ret
  exact ⟨rfl, m, rfl⟩
theorem or_up {n x y : Int} (h0 : 0 ≤ n) (hx : n ≤ x ∧ x < 18446744073709551616) (hy : 0 ≤ y ∧ y < 18446744073709551616) : n ≤ Go.bits .or .u64 x y ∧ Go.bits .or .u64 x y < 18446744073709551616 := by
  obtain ⟨a, rfl⟩ := Int.eq_ofNat_of_zero_le (show 0 ≤ x by omega)
  obtain ⟨b, rfl⟩ := Int.eq_ofNat_of_zero_le hy.1
  have h := (bits_nat .u64 64 (by decide) Go.Com.wraps_u64 a b (by omega) (by omega)).2
  rw [h]
  have h2 := Nat.or_lt_two_pow (x := a) (y := b) (n := 64) (by omega) (by omega)
  have h3 := Nat.left_le_or (n := a) (m := b)
  omega
theorem len_is {n : Int} (h0 : 0 ≤ n) (h1 : n < 18446744073709551616) : ∃ L : Nat, bigall_nat_bitLen.f 1 (Wds n) = some (L : Int) ∧ L ≤ 64 ∧ n < (2 : Int) ^ L := by
  by_cases h : n = 0
  · subst h
    refine ⟨0, ?_, by omega, by decide⟩
    rw [wds_zero]
    unfold bigall_nat_bitLen.f
    rw [if_neg (by rw [Go.Com.w64]; simp)]
    rfl
  · rw [wds_one h h1]
    have e0 : wrap64 (([n].length : Int) - 1) = 0 := by rw [Go.Com.w64]; simp
    have e1 : rd [n] (0 : Int) = n := rfl
    unfold bigall_nat_bitLen.f
    rw [e0, e1, if_pos (by omega), if_pos (by omega), if_pos (by simp)]
    have hd : ∀ x k : Int, 0 ≤ x ∧ x < 18446744073709551616 → 0 < k → 0 ≤ x / k ∧ x / k < 18446744073709551616 := fun x k hx hk =>
      ⟨Int.ediv_nonneg hx.1 (by omega), Int.lt_of_le_of_lt (Int.ediv_le_self _ hx.1) hx.2⟩
    have up : ∀ x y : Int, n ≤ x ∧ x < 18446744073709551616 → 0 ≤ y ∧ y < 18446744073709551616 → n ≤ Go.bits .or .u64 x y ∧ Go.bits .or .u64 x y < 18446744073709551616 := fun x y => or_up h0
    have z1 := up n (n / 2) ⟨by omega, h1⟩ (hd _ _ ⟨h0, h1⟩ (by omega))
    generalize Go.bits .or .u64 n (n / 2) = x1 at *
    have z2 := up x1 (x1 / 4) z1 (hd _ _ ⟨by omega, z1.2⟩ (by omega))
    generalize Go.bits .or .u64 x1 (x1 / 4) = x2 at *
    have z3 := up x2 (x2 / 16) z2 (hd _ _ ⟨by omega, z2.2⟩ (by omega))
    generalize Go.bits .or .u64 x2 (x2 / 16) = x3 at *
    have z4 := up x3 (x3 / 256) z3 (hd _ _ ⟨by omega, z3.2⟩ (by omega))
    generalize Go.bits .or .u64 x3 (x3 / 256) = x4 at *
    have z5 := up x4 (x4 / 65536) z4 (hd _ _ ⟨by omega, z4.2⟩ (by omega))
    generalize Go.bits .or .u64 x4 (x4 / 65536) = x5 at *
    have z6 := up x5 (x5 / 65536 / 65536) z5 (hd _ _ (hd _ _ ⟨by omega, z5.2⟩ (by omega)) (by omega))
    generalize Go.bits .or .u64 x5 (x5 / 65536 / 65536) = x6 at *
    unfold bits_Len.f
    rw [if_pos (by omega), Option.bind_some]
    have hle := Lib.bitLen_le x6.toNat 64 (by omega) (by omega)
    have hsp : x6.toNat < 2 ^ Lib.bitLen x6.toNat := (Go.Lib.bitLenAux_bounds 64 x6.toNat (by omega) (by omega)).2.2
    have hw : wrap64 (wrap64 (0 * 64) + (Lib.bitLen x6.toNat : Int)) = (Lib.bitLen x6.toNat : Int) := by
      rw [Go.Com.w64, Go.Com.w64]; omega
    rw [hw]
    refine ⟨Lib.bitLen x6.toNat, rfl, hle, ?_⟩
    have : (x6.toNat : Int) < (2 : Int) ^ Lib.bitLen x6.toNat := by exact_mod_cast hsp
    omega
set_option maxHeartbeats 4000000 in
theorem bitLen (p : Nat) (A : Option Addr) (cap : Nat) {n : Int} (h0 : 0 ≤ n) (h1 : n < 18446744073709551616) : ∃ L : Nat, L ≤ 64 ∧ n < (2 : Int) ^ L ∧ ∀ (w : World), Num w p A cap n →
    Calls Tryz.prog 19 #[.pointer (some ⟨p, 0, none⟩)] w fun e w' => e = .returned (.int .i64 (L : Int)) ∧ ∃ m, w' = w.drewN m := by
  obtain ⟨L, hf, hL, hn⟩ := len_is h0 h1
  refine ⟨L, hL, hn, fun w hN => ?_⟩
  obtain ⟨_, hc1, _, _⟩ := num_cells hN
  have h42 := bigall_nat_bitLen.calls 1 A cap (Wds n) L w (nt_C hN.2) hN.2.len.1 hf
  clear hN hn hf
  go_enter Tryz.func19, Tryz.ntmps19
  go_wp2_with (go_at_call 25; refine h42.mono ?_; rintro e w1 ⟨rfl, d⟩; obtain ⟨m, rfl⟩ := d.out)
  go_ret
  exact ⟨rfl, m, rfl⟩
theorem bit_is {n : Int} (h0 : 0 ≤ n) (h1 : n < 18446744073709551616) (i : Nat) (hi : i < 64) : bigall_nat_bit.f (Wds n) (i : Int) = some (n / (2 : Int) ^ i % 2) := by
  have et : Int.tdiv (i : Int) 64 = 0 := Int.tdiv_eq_zero_of_lt (by omega) (by omega)
  have em : Int.tmod (i : Int) 64 = i := Int.tmod_eq_of_lt (by omega) (by omega)
  unfold bigall_nat_bit.f
  rw [et, em, show IntKind.u64.wrap 0 = 0 from rfl]
  by_cases h : n = 0
  · subst h
    rw [wds_zero, if_pos (by simp [IntKind.wrap_u64]), Int.zero_ediv]; rfl
  · rw [wds_one h h1, if_neg (by simp [IntKind.wrap_u64]), if_pos (by omega), if_pos (by simp), if_pos (by omega)]
    have es : shr .u64 (rd [n] 0) (i : Int) = n / (2 : Int) ^ i := by
      unfold shr
      rw [Int.toNat_natCast, show min i IntKind.u64.bits = i by simp [IntKind.bits]; omega]; rfl
    rw [es]
    have a0 : 0 ≤ n / (2 : Int) ^ i := Int.ediv_nonneg h0 (Int.le_of_lt (Int.pow_pos (by omega)))
    have a1 : n / (2 : Int) ^ i ≤ n := Int.ediv_le_self _ h0
    rw [Go.Com.and_one a0 (by omega)]
set_option maxHeartbeats 4000000 in
theorem bit (p : Nat) (A : Option Addr) (cap : Nat) {n : Int} (h0 : 0 ≤ n) (h1 : n < 18446744073709551616) (i : Nat) (hi : i < 64) (w : World) (hN : Num w p A cap n) :
    Calls Tryz.prog 20 #[.pointer (some ⟨p, 0, none⟩), .int .i64 i] w fun e w' => e = .returned (.int .u64 (n / (2 : Int) ^ i % 2)) ∧ ∃ m, w' = w.drewN m := by
  obtain ⟨hc0, hc1, _, _⟩ := num_cells hN
  by_cases hz : i = 0
  · subst hz
    rw [Int.pow_zero, Int.ediv_one]
    by_cases h : n = 0
    · subst h
      rw [wds_zero] at hc1
      clear hN
      go_enter Tryz.func20, Tryz.ntmps20
      go_wp2
      go_ret
      exact ⟨rfl, 0, rfl⟩
    · rw [wds_one h h1] at hc1
      obtain ⟨g, rfl, hr, _⟩ : ∃ g, A = some ⟨g, 0, none⟩ ∧ Row w g cap [n] ∧ cap ≤ 1000 := by
        rcases hN.2 with ⟨_, _, hh⟩ | hh
        · rw [wds_one h h1] at hh; cases hh
        · rw [wds_one h h1] at hh; exact hh
      have hcell : w.cell? ⟨g, 0, none⟩ = some (.int .u64 n) := hr.cell 0 (by simp)
      have hcap : 1 ≤ cap := by obtain ⟨_, _, _, h, _⟩ := hr; simpa using h
      have ha : Go.bits .and .u64 n 1 = n % 2 := Go.Com.and_one h0 h1
      clear hN hr
      go_enter Tryz.func20, Tryz.ntmps20
      go_wp2
      go_ret
      exact ⟨by first | rfl | rw [ha], 0, rfl⟩
  · have h44 := bigall_nat_bit.calls A cap (Wds n) i _ w (nt_C hN.2) hN.2.len.1 (bit_is h0 h1 i hi)
    have hw : IntKind.u64.wrap (i : Int) = i := Go.Com.wraps_u64 _ (by omega) (by omega)
    have hi0 : ((i : Int) == 0) = false := beq_eq_false_iff_ne.mpr (by omega)
    have hi1 : ¬ (i : Int) < 0 := by omega
    clear hN
    generalize n / (2 : Int) ^ i % 2 = r at *
    go_enter Tryz.func20, Tryz.ntmps20
    go_wp2_with (go_at_call 28; refine h44.mono ?_; rintro e w1 ⟨rfl, d⟩; obtain ⟨m, rfl⟩ := d.out)
    go_ret
    exact ⟨rfl, m, rfl⟩
end Go.Proofs.YtmmnopmccamjcaaGreatDoor.MemL
