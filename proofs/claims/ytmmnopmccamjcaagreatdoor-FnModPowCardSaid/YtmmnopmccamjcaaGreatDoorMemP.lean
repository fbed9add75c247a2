/- The package's power by a modulus over numbers in memory: modPowBigInt. -/
import Derived.Test.YtmmnopmccamjcaaGreatDoorMemK
import Derived.Test.YtmmnopmccamjcaaGreatDoorMemM
import Derived.Test.YtmmnopmccamjcaaGreatDoorPowN
namespace Go.Proofs.YtmmnopmccamjcaaGreatDoor.MemP
open Go Go.Proofs Go.RowKit Go.Proofs.YtmmnopmccamjcaaGreatDoor.PBig Go.Proofs.YtmmnopmccamjcaaGreatDoorW.PrintWords Go.Proofs.YtmmnopmccamjcaaGreatDoorW.PrintMore Go.Proofs.YtmmnopmccamjcaaGreatDoor.BigW Go.Proofs.YtmmnopmccamjcaaGreatDoor.MemA Go.Proofs.YtmmnopmccamjcaaGreatDoor.MemB Go.Proofs.YtmmnopmccamjcaaGreatDoor.MemC Go.Proofs.YtmmnopmccamjcaaGreatDoor.MemD Go.Proofs.YtmmnopmccamjcaaGreatDoor.MemE Go.Proofs.YtmmnopmccamjcaaGreatDoor.MemG Go.Proofs.YtmmnopmccamjcaaGreatDoor.MemI Go.Proofs.YtmmnopmccamjcaaGreatDoor.MemJ Go.Proofs.YtmmnopmccamjcaaGreatDoor.MemK Go.Proofs.YtmmnopmccamjcaaGreatDoor.MemL Go.Proofs.YtmmnopmccamjcaaGreatDoor.MemM
set_option linter.unusedVariables false
set_option linter.unusedSimpArgs false
/-- rows that are not one -/
def Ap (A B : Option Addr) : Prop := ∀ g, A = some ⟨g, 0, none⟩ → ¬ B = some ⟨g, 0, none⟩
theorem Ap.symm {A B : Option Addr} (h : Ap A B) : Ap B A := fun g hb ha => h g ha hb
/-- another number behind a step that turned one -/
theorem other {w w' : World} {p q : Nat} {A A' B : Option Addr} {ca cb : Nat} {n k : Int} (hP : Num w p A ca n) (hQ : Num w q B cb k) (hpq : p ≠ q) (hAB : Ap A B) (hF : From w A A') (hR : Fr (fun k => k = p ∨ A = some ⟨k, 0, none⟩) w w') : Num w' q B cb k ∧ Ap A' B := by
  refine ⟨Num.keep hQ hR (fun h => ?_) (fun g hg h => ?_), fun g ha hb => ?_⟩
  · rcases h with h | h
    · exact hpq h.symm
    · exact Nt.not_var (show Var w q _ from hQ.1) hP.2 h
  · rcases h with h | h
    · exact Nt.not_var (show Var w p _ from hP.1) hQ.2 (by rw [hg, h])
    · exact hAB g h hg
  · rcases hF with rfl | ⟨g', e, hg'⟩
    · exact hAB g ha hb
    · rw [e] at ha
      cases ha
      exact absurd (hQ.2.lt g hb) (by omega)
/-- what the loop keeps: four numbers, apart from each other; those that are written lie above the base -/
structure St (base : Nat) (w : World) (r b e m : Nat) (R B E M : Option Addr) (cr cb ce cm : Nat) (vr vb ve vm : Nat) : Prop where
  nr : Num w r R cr vr
  nb : Num w b B cb vb
  ne : Num w e E ce ve
  nm : Num w m M cm vm
  drb : r ≠ b
  dre : r ≠ e
  drm : r ≠ m
  dbe : b ≠ e
  dbm : b ≠ m
  arb : Ap R B
  are : Ap R E
  arm : Ap R M
  abe : Ap B E
  abm : Ap B M
  hs : base ≤ w.heap.size
  hr : base ≤ r
  hb : base ≤ b
  hR : ∀ g, R = some ⟨g, 0, none⟩ → base ≤ g
  hB : ∀ g, B = some ⟨g, 0, none⟩ → base ≤ g
theorem St.drewN {base : Nat} {w : World} {r b e m : Nat} {R B E M : Option Addr} {cr cb ce cm : Nat} {vr vb ve vm : Nat} (s : St base w r b e m R B E M cr cb ce cm vr vb ve vm) (k : Nat) : St base (w.drewN k) r b e m R B E M cr cb ce cm vr vb ve vm :=
  ⟨s.nr, s.nb, s.ne, s.nm, s.drb, s.dre, s.drm, s.dbe, s.dbm, s.arb, s.are, s.arm, s.abe, s.abm, s.hs, s.hr, s.hb, s.hR, s.hB⟩
theorem above {base p : Nat} {w w' : World} {A A' : Option Addr} (hs : base ≤ w.heap.size) (hp : base ≤ p) (hA : ∀ g, A = some ⟨g, 0, none⟩ → base ≤ g) (hF : From w A A') (hR : Fr (fun k => k = p ∨ A = some ⟨k, 0, none⟩) w w') :
    base ≤ w'.heap.size ∧ (∀ g, A' = some ⟨g, 0, none⟩ → base ≤ g) ∧ Fr (fun k => base ≤ k) w w' := by
  refine ⟨Nat.le_trans hs hR.size, fun g hg => ?_, hR.mono (fun k _ h => ?_)⟩
  · rcases hF with rfl | ⟨g', e, hg'⟩
    · exact hA g hg
    · rw [e] at hg; cases hg; omega
  · rcases h with rfl | h
    · exact hp
    · exact hA k h
theorem St.stepR {base : Nat} {w w' : World} {r b e m : Nat} {R B E M : Option Addr} {cr cb ce cm : Nat} {vr vb ve vm x : Nat} (s : St base w r b e m R B E M cr cb ce cm vr vb ve vm) (t : Turned w r R (x : Int) w') :
    ∃ R' cr', St base w' r b e m R' B E M cr' cb ce cm x vb ve vm ∧ Fr (fun k => base ≤ k) w w' := by
  obtain ⟨R', cr', hN, hF, hR⟩ := t
  obtain ⟨nb, ab⟩ := other s.nr s.nb s.drb s.arb hF hR
  obtain ⟨ne, ae⟩ := other s.nr s.ne s.dre s.are hF hR
  obtain ⟨nm, am⟩ := other s.nr s.nm s.drm s.arm hF hR
  obtain ⟨h1, h2, h3⟩ := above s.hs s.hr s.hR hF hR
  exact ⟨R', cr', ⟨hN, nb, ne, nm, s.drb, s.dre, s.drm, s.dbe, s.dbm, ab, ae, am, s.abe, s.abm, h1, s.hr, s.hb, h2, s.hB⟩, h3⟩
theorem St.stepB {base : Nat} {w w' : World} {r b e m : Nat} {R B E M : Option Addr} {cr cb ce cm : Nat} {vr vb ve vm x : Nat} (s : St base w r b e m R B E M cr cb ce cm vr vb ve vm) (t : Turned w b B (x : Int) w') :
    ∃ B' cb', St base w' r b e m R B' E M cr cb' ce cm vr x ve vm ∧ Fr (fun k => base ≤ k) w w' := by
  obtain ⟨B', cb', hN, hF, hR⟩ := t
  obtain ⟨nr, ar⟩ := other s.nb s.nr s.drb.symm s.arb.symm hF hR
  obtain ⟨ne, ae⟩ := other s.nb s.ne s.dbe s.abe hF hR
  obtain ⟨nm, am⟩ := other s.nb s.nm s.dbm s.abm hF hR
  obtain ⟨h1, h2, h3⟩ := above s.hs s.hb s.hB hF hR
  exact ⟨B', cb', ⟨nr, hN, ne, nm, s.drb, s.dre, s.drm, s.dbe, s.dbm, ar.symm, s.are, s.arm, ae, am, h1, s.hr, s.hb, s.hR, h2⟩, h3⟩
theorem prod_lt {a b : Nat} (ha : a < 18446744073709551616) (hb : b < 18446744073709551616) : 0 ≤ ((a * b : Nat) : Int) ∧ ((a * b : Nat) : Int) < 340282366920938463463374607431768211456 := by
  have := KnN.prod_le (show (0 : Int) ≤ a by omega) (show (a : Int) ≤ 18446744073709551615 by omega) (show (0 : Int) ≤ b by omega) (show (b : Int) ≤ 18446744073709551615 by omega)
  rw [Int.natCast_mul]
  omega
/-- a number that comes out, above the base -/
def Powed (base : Nat) (w : World) (v : Nat) (e : Ending) (w' : World) : Prop := ∃ r R cr, e = .returned (.pointer (some ⟨r, 0, none⟩)) ∧ Num w' r R cr (v : Int) ∧ Fr (fun k => base ≤ k) w w'
set_option maxHeartbeats 8000000 in
set_option maxRecDepth 100000 in
theorem modPow (base b e m : Nat) (B E M : Option Addr) (cb ce cm : Nat) {vb ve vm : Nat} (hvb : vb < 18446744073709551616) (hve : ve < 18446744073709551616) (hvm : 2 ≤ vm ∧ vm < 18446744073709551616) (w : World) (hs : base ≤ w.heap.size) (nb : Num w b B cb vb) (ne : Num w e E ce ve) (nm : Num w m M cm vm) (dbe : b ≠ e) (dbm : b ≠ m) (abe : Ap B E) (abm : Ap B M) (hb : base ≤ b) (hB : ∀ g, B = some ⟨g, 0, none⟩ → base ≤ g) :
    Calls Tryz.prog 14 #[.pointer (some ⟨b, 0, none⟩), .pointer (some ⟨e, 0, none⟩), .pointer (some ⟨m, 0, none⟩)] w fun ee w' => Powed base w (vb ^ ve % vm) ee w' := by
  obtain ⟨L, hL, hlt, hlen⟩ := MemL.bitLen e E ce (n := (ve : Int)) (by omega) (by omega)
  have hlt : ve < 2 ^ L := by exact_mod_cast hlt
  have h17 := newInt1 w
  have hst : ∀ (w1 : World) (r : Nat) (R : Option Addr) (cr : Nat), w.heap.size ≤ r → Num w1 r R cr 1 → (∀ g, R = some ⟨g, 0, none⟩ → w.heap.size ≤ g) → Fr (fun _ => False) w w1 → St base w1 r b e m R B E M cr cb ce cm 1 vb ve vm := by
    intro w1 r R cr h1 h2 h3 h4
    have lb := num_lt nb
    have le := num_lt ne
    have lm := num_lt nm
    refine ⟨h2, Num.keep nb h4 (fun h => h) (fun _ _ h => h), Num.keep ne h4 (fun h => h) (fun _ _ h => h), Num.keep nm h4 (fun h => h) (fun _ _ h => h), by omega, by omega, by omega, dbe, dbm, fun g a c => ?_, fun g a c => ?_, fun g a c => ?_, abe, abm, Nat.le_trans hs h4.size, by omega, hb, fun g hg => Nat.le_trans hs (h3 g hg), hB⟩
    · exact absurd (nb.2.lt g c) (by have := h3 g a; omega)
    · exact absurd (ne.2.lt g c) (by have := h3 g a; omega)
    · exact absurd (nm.2.lt g c) (by have := h3 g a; omega)
  have HST := Aside0.mk hst
  have HLEN := Aside0.mk hlen
  have HLT := Aside0.mk hlt
  have HVB := Aside0.mk hvb
  have HVE := Aside0.mk hve
  have HVM := Aside0.mk hvm
  have HLL := Aside0.mk hL
  clear hst hlen hlt hvb hve hvm nb ne nm dbe dbm abe abm hb hB hs
  go_enter Tryz.func14, Tryz.ntmps14
  go_wp2_with (first
    | (go_at_call 15; refine h17.mono ?_; rintro e' w1 ⟨r, R, cr, rfl, hr, hN, hR, hF⟩; have S0 := Aside0.mk (HST.out w1 r R cr hr hN hR hF); have F0 := Aside0.mk (hF.mono (S' := fun k => base ≤ k) (fun _ _ h => h.elim)); clear hN hR hF hr)
    | (go_at_call 19; refine (HLEN.out _ S0.out.ne).mono ?_; rintro e' w2 ⟨rfl, m2, rfl⟩))
  go_loopw [7] (fun v7 wr => ∃ (i : Nat) (R B : Option Addr) (cr cb vr vbb : Nat), v7 = .int .i64 (i : Int) ∧ i ≤ L ∧ St base wr r b e m R B E M cr cb ce cm vr vbb ve vm ∧ Fr (fun k => base ≤ k) w wr ∧ vr < vm ∧ vbb < 18446744073709551616 ∧ vr * vbb ^ (ve / 2 ^ i) % vm = vb ^ ve % vm) (fun v7 _ => (64 - intOf v7).toNat)
  case atStart =>
    refine ⟨0, R, B, cr, cb, 1, vb, rfl, Nat.zero_le _, S0.out.drewN _, F0.out.drewN _, ?_, HVB.out, ?_⟩
    · have := HVM.out; omega
    · rw [Nat.pow_zero, Nat.div_one, Nat.one_mul]
  case round =>
    obtain ⟨i, R2, B2, cr2, cb2, vr, vbb, rfl, hi, hS, hF, hvr, hvbb, hinv⟩ := hrel
    have S := Aside0.mk hS
    have F := Aside0.mk hF
    have VR := Aside0.mk hvr
    have VBB := Aside0.mk hvbb
    have INV := Aside0.mk hinv
    have HI := Aside0.mk hi
    clear hS hF hvr hvbb hinv
    by_cases hlast : i = L
    · subst hlast
      have hc : ¬ ((i : Int) < (i : Int)) := by omega
      have hz : ve / 2 ^ i = 0 := Nat.div_eq_of_lt HLT.out
      have hfin : vr = vb ^ ve % vm := by
        have h := INV.out
        rw [hz, Nat.pow_zero, Nat.mul_one, Nat.mod_eq_of_lt VR.out] at h
        exact h
      have HFIN := Aside0.mk hfin
      clear hfin hz
      go_wp2
      go_ret
      refine ⟨r, R2, cr2, rfl, ?_, F.out⟩
      rw [← HFIN.out]
      exact S.out.nr
    · have hlt : (i : Int) < (L : Int) := by omega
      have hi64 : i < 64 := by omega
      have hbit := fun w1 (hN : Num w1 e E ce ve) => bit e E ce (n := (ve : Int)) (by omega) (by have := HVE.out; omega) i hi64 w1 hN
      have ebit : ((ve : Int) / (2 : Int) ^ i % 2) = ((ve / 2 ^ i % 2 : Nat) : Int) := by push_cast; rfl
      rw [ebit] at hbit
      have ehalf : ve / 2 ^ (i + 1) = ve / 2 ^ i / 2 := by rw [Nat.pow_succ, Nat.div_div_eq_div_mul]
      have hvr2 : (vr : Int) < 18446744073709551616 := by have := VR.out; have := HVM.out; omega
      have hvb2 : (vbb : Int) < 18446744073709551616 := by have := VBB.out; omega
      have hmm : (2 : Int) ≤ vm ∧ (vm : Int) < 18446744073709551616 := by have := HVM.out; omega
      have P1 := Aside0.mk (prod_lt (a := vr) (b := vbb) (by omega) VBB.out)
      have P2 := Aside0.mk (prod_lt (a := vbb) (b := vbb) VBB.out VBB.out)
      have VR2 := Aside0.mk hvr2
      have VB2 := Aside0.mk hvb2
      have MM := Aside0.mk hmm
      have EH := Aside0.mk ehalf
      clear hvr2 hvb2 hmm ebit ehalf
      have h01 : ve / 2 ^ i % 2 = 0 ∨ ve / 2 ^ i % 2 = 1 := by omega
      rcases h01 with h0 | h0
      · rw [h0] at hbit
        have H0 := Aside0.mk h0
        have HB := Aside0.mk hbit
        clear h0 hbit
        go_wp2_with (first
          | (go_at_call 20; refine (HB.out _ S.out.ne).mono ?_; rintro e' w1 ⟨rfl, m1, rfl⟩; have S1 := Aside0.mk (S.out.drewN m1))
          | (go_at_call 22; refine (mul_sq b B2 cb2 (n := (vbb : Int)) (by omega) VB2.out _ S1.out.nb).mono ?_; rintro e' w2 ⟨rfl, hT⟩; rw [← Int.natCast_mul] at hT; obtain ⟨B4, cb4, S4', F4'⟩ := S1.out.stepB hT; have S4 := Aside0.mk S4'; have F4 := Aside0.mk F4'; clear hT S4' F4')
          | (go_at_call 21; refine (imod b m B4 M cb4 cm (n := ((vbb * vbb : Nat) : Int)) (y := (vm : Int)) S4.out.dbm P2.out MM.out _ S4.out.nb S4.out.nm S4.out.abm).mono ?_; rintro e' w3 ⟨rfl, hT⟩; rw [← Int.natCast_emod] at hT; obtain ⟨B5, cb5, S5', F5'⟩ := S4.out.stepB hT; have S5 := Aside0.mk S5'; have F5 := Aside0.mk F5'; clear hT S5' F5'))
        go_roundw
        case rel =>
          refine ⟨i + 1, R2, B5, cr2, cb5, vr, vbb * vbb % vm, (by first | rfl | (congr 1; omega)), by omega, S5.out, ((F.out.drewN m1).trans F4.out).trans F5.out, VR.out, ?_, ?_⟩
          · have := Nat.mod_lt (vbb * vbb) (show 0 < vm by have := HVM.out; omega)
            have := HVM.out
            omega
          · rw [EH.out, PowN.step_even _ _ _ _ H0.out]
            exact INV.out
        case measure => simp [intOf]; omega
      · rw [h0] at hbit
        have H0 := Aside0.mk h0
        have HB := Aside0.mk hbit
        clear h0 hbit
        go_wp2_with (first
          | (go_at_call 20; refine (HB.out _ S.out.ne).mono ?_; rintro e' w1 ⟨rfl, m1, rfl⟩; have S1 := Aside0.mk (S.out.drewN m1))
          | (go_at_call_of 22 (some (⟨r, 0, none⟩ : Addr)); refine (mul r b R2 B2 cr2 cb2 (a := (vr : Int)) (b := (vbb : Int)) S1.out.drb ⟨by omega, VR2.out⟩ ⟨by omega, VB2.out⟩ _ S1.out.nr S1.out.nb).mono ?_; rintro e' w2 ⟨rfl, hT⟩; rw [← Int.natCast_mul] at hT; obtain ⟨R3, cr3, S2', F2'⟩ := S1.out.stepR hT; have S2 := Aside0.mk S2'; have F2 := Aside0.mk F2'; clear hT S2' F2')
          | (go_at_call_of 21 (some (⟨r, 0, none⟩ : Addr)); refine (imod r m R3 M cr3 cm (n := ((vr * vbb : Nat) : Int)) (y := (vm : Int)) S2.out.drm P1.out MM.out _ S2.out.nr S2.out.nm S2.out.arm).mono ?_; rintro e' w3 ⟨rfl, hT⟩; rw [← Int.natCast_emod] at hT; obtain ⟨R4, cr4, S3', F3'⟩ := S2.out.stepR hT; have S3 := Aside0.mk S3'; have F3 := Aside0.mk F3'; clear hT S3' F3')
          | (go_at_call 22; refine (mul_sq b B2 cb2 (n := (vbb : Int)) (by omega) VB2.out _ S3.out.nb).mono ?_; rintro e' w4 ⟨rfl, hT⟩; rw [← Int.natCast_mul] at hT; obtain ⟨B4, cb4, S4', F4'⟩ := S3.out.stepB hT; have S4 := Aside0.mk S4'; have F4 := Aside0.mk F4'; clear hT S4' F4')
          | (go_at_call 21; refine (imod b m B4 M cb4 cm (n := ((vbb * vbb : Nat) : Int)) (y := (vm : Int)) S4.out.dbm P2.out MM.out _ S4.out.nb S4.out.nm S4.out.abm).mono ?_; rintro e' w5 ⟨rfl, hT⟩; rw [← Int.natCast_emod] at hT; obtain ⟨B5, cb5, S5', F5'⟩ := S4.out.stepB hT; have S5 := Aside0.mk S5'; have F5 := Aside0.mk F5'; clear hT S5' F5'))
        go_roundw
        case rel =>
          have hm0 : 0 < vm := by have := HVM.out; omega
          refine ⟨i + 1, R4, B5, cr4, cb5, vr * vbb % vm, vbb * vbb % vm, (by first | rfl | (congr 1; omega)), by omega, S5.out, ((((F.out.drewN m1).trans F2.out).trans F3.out).trans F4.out).trans F5.out, Nat.mod_lt _ hm0, ?_, ?_⟩
          · have := Nat.mod_lt (vbb * vbb) hm0
            have := HVM.out
            omega
          · rw [EH.out, PowN.step_odd _ _ _ _ H0.out]
            exact INV.out
        case measure => simp [intOf]; omega
end Go.Proofs.YtmmnopmccamjcaaGreatDoor.MemP
