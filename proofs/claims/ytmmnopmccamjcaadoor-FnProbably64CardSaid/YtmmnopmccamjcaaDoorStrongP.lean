/- ProbablyPrimeUint64_32. -/
import Derived.Test.YtmmnopmccamjcaaDoorWalkP
import Derived.Test.YtmmnopmccamjcaaDoorProbN
namespace Go.Proofs.YtmmnopmccamjcaaDoor.StrongP
open Go Go.Proofs Go.RowKit Go.Proofs.YtmmnopmccamjcaaDoor.PMp Go.Proofs.YtmmnopmccamjcaaDoorW.PrintWords Go.Proofs.YtmmnopmccamjcaaDoorW.PrintMore Go.Proofs.YtmmnopmccamjcaaDoor.MemA Go.Proofs.YtmmnopmccamjcaaDoor.MemB Go.Proofs.YtmmnopmccamjcaaDoor.MemE Go.Proofs.YtmmnopmccamjcaaDoor.MemJ Go.Proofs.YtmmnopmccamjcaaDoor.MemK Go.Proofs.YtmmnopmccamjcaaDoor.MemL Go.Proofs.YtmmnopmccamjcaaDoor.MemM Go.Proofs.YtmmnopmccamjcaaDoor.MemP Go.Proofs.YtmmnopmccamjcaaDoor.MemQ Go.Proofs.YtmmnopmccamjcaaDoor.WalkP Go.Proofs.YtmmnopmccamjcaaDoor.ProbN
set_option linter.unusedVariables false
set_option linter.unusedSimpArgs false
/-- two numbers, of which one is written, above the base -/
structure St2 (base : Nat) (w : World) (b m : Nat) (B M : Option Addr) (cb cm : Nat) (vb vm : Nat) : Prop where
  nb : Num w b B cb vb
  nm : Num w m M cm vm
  dbm : b ≠ m
  abm : Ap B M
  hs : base ≤ w.heap.size
  hb : base ≤ b
  hB : ∀ g, B = some ⟨g, 0, none⟩ → base ≤ g
theorem St2.drewN {base : Nat} {w : World} {b m : Nat} {B M : Option Addr} {cb cm : Nat} {vb vm : Nat} (s : St2 base w b m B M cb cm vb vm) (k : Nat) : St2 base (w.drewN k) b m B M cb cm vb vm :=
  ⟨s.nb, s.nm, s.dbm, s.abm, s.hs, s.hb, s.hB⟩
theorem St2.step {base : Nat} {w w' : World} {b m : Nat} {B M : Option Addr} {cb cm : Nat} {vb vm x : Nat} (s : St2 base w b m B M cb cm vb vm) (t : Turned w b B (x : Int) w') :
    ∃ B' cb', St2 base w' b m B' M cb' cm x vm ∧ Fr (fun k => base ≤ k) w w' := by
  obtain ⟨B', cb', hN, hF, hR⟩ := t
  obtain ⟨nm, am⟩ := other s.nb s.nm s.dbm s.abm hF hR
  obtain ⟨h1, h2, h3⟩ := above s.hs s.hb s.hB hF hR
  exact ⟨B', cb', ⟨hN, nm, s.dbm, am, h1, s.hb, h2⟩, h3⟩
theorem two_new {w w2 w4 : World} {p1 p2 : Nat} {A1 A2 : Option Addr} {c1 c2 : Nat} {x1 x2 : Nat} (k1 : New w w2 p1 A1 c1 (x1 : Int)) (k2 : New w2 w4 p2 A2 c2 (x2 : Int)) :
    St2 w.heap.size w4 p1 p2 A1 A2 c1 c2 x1 x2 ∧ Fr (fun k => w.heap.size ≤ k) w w4 := by
  have f := k1.fr.trans k2.fr
  have s2 := k1.fr.size
  have l1 := num_lt k1.num
  have h2 := k2.hp
  refine ⟨⟨Num.keep k1.num k2.fr (fun h => h) (fun _ _ h => h), k2.num, by omega, fun g a b => ?_, f.size, k1.hp, k1.hA⟩, f.mono (fun _ _ h => h.elim)⟩
  have := k1.num.2.lt g a; have := k2.hA g b; omega
theorem below_of2 {w w1 w2 : World} (f : Below w.heap.size w w1) (h : Fr (fun k => w1.heap.size ≤ k) w1 w2) : Below w.heap.size w w2 :=
  below_trans f ⟨h.os, h.tape, h.output, h.size, fun k hk => h.block k hk (by omega)⟩
set_option maxHeartbeats 8000000 in
set_option maxRecDepth 100000 in
theorem strong {n a d s : Nat} (hn : 5 ≤ n ∧ n < 18446744073709551616) (ha : 0 < a ∧ a < 4294967296) (hd : n - 1 = d * 2 ^ s) (ho : d % 2 = 1) (hs : s ≤ 64) (w : World) :
    Calls Tryd.prog 10 #[.int .u64 n, .int .u32 a] w fun e w' => e = .returned (.bool (res n (a ^ d % n) s)) ∧ Below w.heap.size w w' := by
  have hpow : ∀ i, i < s → Dv d s i % 2 = 0 := fun i hi => by
    unfold Dv
    rw [show s - i = (s - i - 1) + 1 by omega, Nat.pow_succ, ← Nat.mul_assoc, Nat.mul_mod_left]
  have hhalf : ∀ i, i < s → Dv d s i / 2 = Dv d s (i + 1) := fun i hi => by
    unfold Dv
    rw [show s - i = (s - (i + 1)) + 1 by omega, Nat.pow_succ, ← Nat.mul_assoc, Nat.mul_div_cancel _ (by decide)]
  have hle : ∀ i, Dv d s i ≤ n - 1 := fun i => by
    unfold Dv
    rw [hd]; exact Nat.mul_le_mul_left _ (Nat.pow_le_pow_right (by decide) (by omega))
  have hdn : d < 18446744073709551616 := by have := hle s; unfold Dv at this; rw [Nat.sub_self, Nat.pow_zero, Nat.mul_one] at this; omega
  have hd0 : 0 < d := by omega
  have h15 := fun w => modPow64 (vb := a) (ve := d) (vm := n) (by omega) hdn (by omega) (by omega) w
  have hx : a ^ d % n < n := Nat.mod_lt _ (by omega)
  generalize a ^ d % n = x at *
  have ew1 : IntKind.u64.wrap ((n : Int) - 1) = ((n - 1 : Nat) : Int) := by rw [IntKind.wrap_u64]; omega
  have ewa : IntKind.u64.wrap (a : Int) = (a : Int) := by rw [IntKind.wrap_u64]; omega
  have H15 := Aside0.mk h15
  have HX := Aside0.mk hx
  have HN := Aside0.mk hn
  have HA := Aside0.mk ha
  have HD := Aside0.mk hd
  have HO := Aside0.mk ho
  have HS := Aside0.mk hs
  have HP := Aside0.mk hpow
  have HH := Aside0.mk hhalf
  have HL := Aside0.mk hle
  clear h15 hx hn ha hd ho hs hpow hhalf hle hdn hd0
  go_enter Tryd.func10, Tryd.ntmps10
  go_wp2
  go_loopw [5, 6] (fun v5 v6 wr => ∃ i : Nat, v5 = .int .u64 ((Dv d s i : Nat) : Int) ∧ v6 = .int .i64 (i : Int) ∧ i ≤ s ∧ Aside0 (wr = w)) (fun _ v6 _ => (64 - intOf v6).toNat)
  case atStart => exact ⟨0, by unfold Dv; rw [Nat.sub_zero, ← HD.out], rfl, Nat.zero_le _, Aside0.mk rfl⟩
  case round =>
    obtain ⟨i, rfl, rfl, hi, hw⟩ := hrel
    obtain rfl := hw.out
    by_cases hlast : i = s
    · subst hlast
      have e1 : Dv d i i = d := by unfold Dv; rw [Nat.sub_self, Nat.pow_zero, Nat.mul_one]
      rw [e1]
      have hdl : d < 18446744073709551616 := by have h := HL.out i; rw [e1] at h; have := HN.out; omega
      have hb : Go.bits .and .u64 (d : Int) 1 = 1 := by rw [MpN.and1_u64 d hdl, HO.out]; rfl
      have hxn : x < n := HX.out
      have h5 : 5 ≤ n := HN.out.1
      have h64 : n < 18446744073709551616 := HN.out.2
      clear e1 hdl
      by_cases h1 : x = 1
      · have c1 : ((x : Int) == 1) = true := beq_iff_eq.mpr (by omega)
        have er : res n x i = true := by unfold res; rw [if_pos h1]
        have ER := Aside0.mk er
        clear h1 er hxn h5 h64
        go_wp2_with (go_at_call 15; refine (H15.out _).mono ?_; rintro e' w1 ⟨rfl, hB⟩; have BL := Aside0.mk hB; clear hB)
        go_ret
        exact ⟨by rw [ER.out]; rfl, BL.out⟩
      · have c1 : ((x : Int) == 1) = false := beq_eq_false_iff_ne.mpr (by omega)
        by_cases h2 : x = n - 1
        · have c2 : ((x : Int) == ((n - 1 : Nat) : Int)) = true := beq_iff_eq.mpr (by omega)
          have er : res n x i = true := by unfold res; rw [if_neg h1, if_pos h2]
          have ER := Aside0.mk er
          clear h1 h2 er hxn h5 h64
          go_wp2_with (go_at_call 15; refine (H15.out _).mono ?_; rintro e' w1 ⟨rfl, hB⟩; have BL := Aside0.mk hB; clear hB)
          go_ret
          exact ⟨by rw [ER.out]; rfl, BL.out⟩
        · have c2 : ((x : Int) == ((n - 1 : Nat) : Int)) = false := beq_eq_false_iff_ne.mpr (by omega)
          have er : res n x i = sqs n (i - 1) x := by unfold res; rw [if_neg h1, if_neg h2]
          have ER := Aside0.mk er
          have G1 : True := trivial
          have T1 : True := trivial
          have G2 : True := trivial
          have T2 : True := trivial
          clear h1 h2 er hxn h5 h64
          go_wp2_with (first
            | (go_at_call 15; refine (H15.out _).mono ?_; rintro e' w1 ⟨rfl, hB⟩; have BL := Aside0.mk hB; clear hB)
            | (go_at_call 17; clear G1; refine (newInt0 _).mono ?_; rintro e' w2 ⟨p1, A1, c1', rfl, h1a, h1b, h1c, h1d⟩; have N1 := Aside0.mk (New.mk h1b h1a h1c h1d); clear h1a h1b h1c h1d)
            | (go_at_call 18; clear T1; refine (setUint64 p1 A1 c1' _ (by omega) (by have := HX.out; have := HN.out; omega) _ N1.out.num).mono ?_; rintro e' w3 ⟨rfl, hT⟩; obtain ⟨A1', c1'', N1'⟩ := N1.out.set hT; have K1 := Aside0.mk N1'; clear hT N1')
            | (go_at_call 17; clear G2; refine (newInt0 _).mono ?_; rintro e' w4 ⟨p2, A2, c2', rfl, h1a, h1b, h1c, h1d⟩; have N2 := Aside0.mk (New.mk h1b h1a h1c h1d); clear h1a h1b h1c h1d)
            | (go_at_call 18; clear T2; refine (setUint64 p2 A2 c2' _ (by omega) (by have := HN.out; omega) _ N2.out.num).mono ?_; rintro e' w5 ⟨rfl, hT⟩; obtain ⟨A2', c2'', N2'⟩ := N2.out.set hT; have K2 := Aside0.mk N2'; clear hT N2'))
          have TT := two_new K1.out K2.out
          have S0 := Aside0.mk TT.1
          have F0 := Aside0.mk TT.2
          clear TT N1 N2 K1 K2
          go_loopw [6, 7] (fun v6 v7 wq => ∃ (c xi : Nat) (B : Option Addr) (cb : Nat), v6 = .int .i64 (c : Int) ∧ v7 = .int .u64 (xi : Int) ∧ c ≤ 64 ∧ St2 w1.heap.size wq p1 p2 B A2' cb c2'' xi n ∧ Fr (fun k => w1.heap.size ≤ k) w1 wq ∧ xi < n ∧ sqs n (c - 1) xi = sqs n (i - 1) x) (fun v6 _ _ => (intOf v6).toNat)
          case atStart => exact ⟨i, x, A1', c1'', rfl, rfl, HS.out, S0.out, F0.out, HX.out, rfl⟩
          case round =>
            obtain ⟨c, xi, B, cb, rfl, rfl, hc, hS, hF, hxi, hinv⟩ := hrel
            have S := Aside0.mk hS
            have F := Aside0.mk hF
            have XI := Aside0.mk hxi
            have INV := Aside0.mk hinv
            have HC := Aside0.mk hc
            clear hS hF hxi hinv hc S0 F0 hw
            by_cases hc1 : c ≤ 1
            · have hlt : ¬ ((1 : Int) < (c : Int)) := by omega
              have hlt2 : ¬ (1 < c) := by omega
              have er : res n x i = false := by
                rw [ER.out, ← INV.out, show c - 1 = 0 by omega]; rfl
              have ER2 := Aside0.mk er
              clear hc1 er
              go_wp2
              go_ret
              exact ⟨by rw [ER2.out]; rfl, below_of2 BL.out F.out⟩
            · obtain ⟨c, rfl⟩ : ∃ k, c = k + 2 := ⟨c - 2, by omega⟩
              obtain ⟨y, hy⟩ : ∃ y, xi * xi % n = y := ⟨_, rfl⟩
              have hlt : (1 : Int) < ((c + 2 : Nat) : Int) := by omega
              have hyn : y < n := by rw [← hy]; exact Nat.mod_lt _ (by have := HN.out; omega)
              have ei : sqs n (i - 1) x = if y = n - 1 then true else sqs n c y := by
                rw [← INV.out, show c + 2 - 1 = c + 1 by omega, sqs, hy]
              have EI := Aside0.mk ei
              have EY := Aside0.mk hy
              have YN := Aside0.mk hyn
              have P2 := Aside0.mk (prod_lt (a := xi) (b := xi) (by have := XI.out; have := HN.out; omega) (by have := XI.out; have := HN.out; omega))
              have XI2 := Aside0.mk (show (xi : Int) < 18446744073709551616 by have := XI.out; have := HN.out; omega)
              have MM := Aside0.mk (show (2 : Int) ≤ n ∧ (n : Int) < 18446744073709551616 by have := HN.out; omega)
              have hcase : (y = 1) ∨ (y ≠ 1 ∧ y = n - 1) ∨ (y ≠ 1 ∧ y ≠ n - 1) := by omega
              clear hc1 hy hyn ei
              rcases hcase with h1 | ⟨h1, h2⟩ | ⟨h1, h2⟩
              · have c3 : ((y : Int) == 1) = true := beq_iff_eq.mpr (by omega)
                have er : res n x i = false := by
                  rw [ER.out, EI.out, h1, if_neg (by have := HN.out; omega), sqs_one n HN.out.1]
                have ER2 := Aside0.mk er
                clear h1 er
                go_wp2_with (first
                  | (go_at_call 20; refine (mul_sq p1 B cb (n := (xi : Int)) (by omega) XI2.out _ S.out.nb).mono ?_; rintro e' w6 ⟨rfl, hT⟩; rw [← Int.natCast_mul] at hT; obtain ⟨B4, cb4, S4', F4'⟩ := S.out.step hT; have S4 := Aside0.mk S4'; have F4 := Aside0.mk F4'; clear hT S4' F4')
                  | (go_at_call 19; refine (imod p1 p2 B4 A2' cb4 c2'' (n := ((xi * xi : Nat) : Int)) (y := (n : Int)) S4.out.dbm P2.out MM.out _ S4.out.nb S4.out.nm S4.out.abm).mono ?_; rintro e' w7 ⟨rfl, hT⟩; rw [← Int.natCast_emod, EY.out] at hT; obtain ⟨B5, cb5, S5', F5'⟩ := S4.out.step hT; have S5 := Aside0.mk S5'; have F5 := Aside0.mk F5'; clear hT S5' F5')
                  | (go_at_call 21; refine (uint64 p1 B5 cb5 (by omega) (by have := YN.out; have := HN.out; omega) _ S5.out.nb).mono ?_; rintro e' w8 ⟨rfl, m8, rfl⟩))
                go_ret
                exact ⟨by rw [ER2.out]; rfl, below_of2 BL.out (((F.out.trans F4.out).trans F5.out).drewN m8)⟩
              · have c3 : ((y : Int) == 1) = false := beq_eq_false_iff_ne.mpr (by omega)
                have c4 : ((y : Int) == ((n - 1 : Nat) : Int)) = true := beq_iff_eq.mpr (by omega)
                have er : res n x i = true := by rw [ER.out, EI.out, if_pos h2]
                have ER2 := Aside0.mk er
                clear h1 h2 er
                go_wp2_with (first
                  | (go_at_call 20; refine (mul_sq p1 B cb (n := (xi : Int)) (by omega) XI2.out _ S.out.nb).mono ?_; rintro e' w6 ⟨rfl, hT⟩; rw [← Int.natCast_mul] at hT; obtain ⟨B4, cb4, S4', F4'⟩ := S.out.step hT; have S4 := Aside0.mk S4'; have F4 := Aside0.mk F4'; clear hT S4' F4')
                  | (go_at_call 19; refine (imod p1 p2 B4 A2' cb4 c2'' (n := ((xi * xi : Nat) : Int)) (y := (n : Int)) S4.out.dbm P2.out MM.out _ S4.out.nb S4.out.nm S4.out.abm).mono ?_; rintro e' w7 ⟨rfl, hT⟩; rw [← Int.natCast_emod, EY.out] at hT; obtain ⟨B5, cb5, S5', F5'⟩ := S4.out.step hT; have S5 := Aside0.mk S5'; have F5 := Aside0.mk F5'; clear hT S5' F5')
                  | (go_at_call 21; refine (uint64 p1 B5 cb5 (by omega) (by have := YN.out; have := HN.out; omega) _ S5.out.nb).mono ?_; rintro e' w8 ⟨rfl, m8, rfl⟩))
                go_ret
                exact ⟨by rw [ER2.out]; rfl, below_of2 BL.out (((F.out.trans F4.out).trans F5.out).drewN m8)⟩
              · have c3 : ((y : Int) == 1) = false := beq_eq_false_iff_ne.mpr (by omega)
                have c4 : ((y : Int) == ((n - 1 : Nat) : Int)) = false := beq_eq_false_iff_ne.mpr (by omega)
                have er : sqs n (i - 1) x = sqs n c y := by rw [EI.out, if_neg h2]
                have ER2 := Aside0.mk er
                clear h1 h2 er
                go_wp2_with (first
                  | (go_at_call 20; refine (mul_sq p1 B cb (n := (xi : Int)) (by omega) XI2.out _ S.out.nb).mono ?_; rintro e' w6 ⟨rfl, hT⟩; rw [← Int.natCast_mul] at hT; obtain ⟨B4, cb4, S4', F4'⟩ := S.out.step hT; have S4 := Aside0.mk S4'; have F4 := Aside0.mk F4'; clear hT S4' F4')
                  | (go_at_call 19; refine (imod p1 p2 B4 A2' cb4 c2'' (n := ((xi * xi : Nat) : Int)) (y := (n : Int)) S4.out.dbm P2.out MM.out _ S4.out.nb S4.out.nm S4.out.abm).mono ?_; rintro e' w7 ⟨rfl, hT⟩; rw [← Int.natCast_emod, EY.out] at hT; obtain ⟨B5, cb5, S5', F5'⟩ := S4.out.step hT; have S5 := Aside0.mk S5'; have F5 := Aside0.mk F5'; clear hT S5' F5')
                  | (go_at_call 21; refine (uint64 p1 B5 cb5 (by omega) (by have := YN.out; have := HN.out; omega) _ S5.out.nb).mono ?_; rintro e' w8 ⟨rfl, m8, rfl⟩))
                go_roundw
                case rel =>
                  have hc2 := HC.out
                  have ew : wrap64 ((c : Int) + 2 - 1) = ((c + 1 : Nat) : Int) := by rw [Go.Com.w64]; omega
                  refine ⟨c + 1, y, B5, cb5, (by rw [ew]), rfl, by omega, S5.out.drewN m8, ((F.out.trans F4.out).trans F5.out).drewN m8, YN.out, ?_⟩
                  rw [ER2.out, show c + 1 - 1 = c by omega]
                case measure =>
                  have hc2 := HC.out
                  have ew : wrap64 ((c : Int) + 2 - 1) = ((c + 1 : Nat) : Int) := by rw [Go.Com.w64]; omega
                  simp [intOf, ew]
    · have hlt : i < s := by omega
      have hb : Go.bits .and .u64 ((Dv d s i : Nat) : Int) 1 = 0 := by rw [MpN.and1_u64 _ (by have := HL.out i; have := HN.out; omega), HP.out i hlt]; rfl
      have hh : ((Dv d s i : Nat) : Int) / 2 = ((Dv d s (i + 1) : Nat) : Int) := by rw [MpN.half, HH.out i hlt]
      have hi64 : i < 64 := by have := HS.out; omega
      go_wp2
      go_roundw
      case rel => exact ⟨i + 1, by first | rfl | rw [hh], (by first | rfl | (congr 1; omega)), by omega, (by first | exact Aside0.mk rfl | exact Aside0.mk trivial)⟩
      case measure => simp [intOf]; omega
end Go.Proofs.YtmmnopmccamjcaaDoor.StrongP
