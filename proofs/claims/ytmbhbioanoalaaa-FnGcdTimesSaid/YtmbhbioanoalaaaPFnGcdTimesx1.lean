-- PRINTED BY print.sh 35421559b90ae4d0a3588c463048766b98c2df88dd9212a6774a882060cdf62d: not written by this session
import Derived.Test.YtmbhbioanoalaaaPFnGcdTimesx0
namespace Go.Proofs.Ytmbhbioanoalaaa.PFnGcdTimes
open Go.RowKit Go.Proofs.YtmbhbioanoalaaaW.PrintWords Go.Proofs.YtmbhbioanoalaaaW.PrintLast Go.Proofs.YtmbhbioanoalaaaW.PrintMore
attribute [local go_sem] max2_int min2_int max_two min_two max_three min_three max_four min_four   -- for this text's walks alone
set_option linter.unusedVariables false
set_option linter.unusedSimpArgs false

/-! ### mathutil_GCDByte: function 34 -/
def mathutil_GCDByte.l0 : Nat → Int → Int → Option (Int)
  | 0, _, _ => none
  | k + 1, x0, x1 => if x1 = 0 then (some x0) else (mathutil_GCDByte.l0 k x1 (Int.tmod x0 x1))
def mathutil_GCDByte.f (k : Nat) (a0 : Int) (a1 : Int) : Option (Int) := mathutil_GCDByte.l0 k a0 a1
theorem mathutil_GCDByte.mono_l : ∀ k, (∀ y0 y1, LeO (mathutil_GCDByte.l0 k y0 y1) (mathutil_GCDByte.l0 (k + 1) y0 y1))
  | 0 => fun _ _ r h => by simp [mathutil_GCDByte.l0] at h
  | k + 1 => by
    have ih0 := mathutil_GCDByte.mono_l k
    · intro y0 y1
      unfold mathutil_GCDByte.l0
      repeat' first
      | (with_reducible exact ih0 _ _)
      | (with_reducible exact LeO.refl _)
      | (with_reducible exact LeO.none _)
      | (with_reducible refine LeO.ite ?_ ?_)
      | (with_reducible refine LeO.bind ?_ (fun _ => ?_))
      | exact ih0 _ _
      | exact LeO.none _
      | refine LeO.ite ?_ ?_
      | refine LeO.bind ?_ (fun _ => ?_)
theorem mathutil_GCDByte.mono : ∀ a0 a1 k, LeO (mathutil_GCDByte.f k a0 a1) (mathutil_GCDByte.f (k + 1) a0 a1) := by
  intro a0 a1 k
  have ih0 := mathutil_GCDByte.mono_l k
  unfold mathutil_GCDByte.f
  repeat' first
      | (with_reducible exact ih0 _ _)
      | (with_reducible exact LeO.refl _)
      | (with_reducible exact LeO.none _)
      | (with_reducible refine LeO.ite ?_ ?_)
      | (with_reducible refine LeO.bind ?_ (fun _ => ?_))
      | exact ih0 _ _
      | exact LeO.none _
      | refine LeO.ite ?_ ?_
      | refine LeO.bind ?_ (fun _ => ?_)
set_option maxHeartbeats 8000000 in
set_option maxRecDepth 100000 in
theorem mathutil_GCDByte.calls (k : Nat) (a0 : Int) (a1 : Int) (r : Int) (w : World) (h : mathutil_GCDByte.f k a0 a1 = some r) :
    Calls Try.prog 34 #[.int .u8 a0, .int .u8 a1] w fun e w' => e = .returned (.int .u8 r) ∧ Drawn0 w w' := by
  have H : (mathutil_GCDByte.l0 k a0 a1) = some r := h
  clear h
  have H' := Aside0.mk H
  clear H
  go_enter Try.func34, Try.ntmps34
  go_wp2
  repeat (go_quiet (fail); try go_wp2)
  go_loopg [0, 1] k (fun kq v0 v1 w' => ∃ (x0_1 : Int) (x1_1 : Int), v0 = .int .u8 x0_1 ∧ v1 = .int .u8 x1_1 ∧ Aside0 (mathutil_GCDByte.l0 kq x0_1 x1_1 = some r) ∧ Aside0 (kq ≤ k) ∧ Drawn0 w w')
  case atStart => exact ⟨(a0), (a1), (by first | rfl | (simp; done) | (simp [*]; done)), (by first | rfl | (simp; done) | (simp [*]; done)), H', ⟨Nat.le_refl _⟩, by repeat (first | exact Drawn0.refl _ | apply Drawn0.step)⟩
  case round =>
    clear H'
    try clear p2
    obtain ⟨x0_1, x1_1, rfl, rfl, HA, HK1, ⟨m1, rfl⟩⟩ := hrel
    cases gk with
    | zero => exact absurd HA.out (by simp [mathutil_GCDByte.l0])
    | succ k1 =>
      have H := HA.out
      clear HA
      simp only [mathutil_GCDByte.l0] at H
      by_cases c3 : x1_1 = 0
      · rw [if_pos c3] at H
        have c3b0 : (x1_1 == 0) = true := beq_iff_eq.mpr c3
        have c3b1 : (x1_1 != 0) = false := bne_eq_false_iff_eq.mpr c3
        clear c3
        obtain rfl := Option.some.inj H
        go_wp2
        repeat (go_quiet (fail); try go_wp2)
        go_ret
        exact ⟨by first | rfl | (simp; done) | (simp [*]; done), by repeat (first | exact Drawn0.refl _ | apply Drawn0.step)⟩
      · rw [if_neg c3] at H
        have c3b0 : (x1_1 == 0) = false := beq_eq_false_iff_ne.mpr c3
        have c3b1 : (x1_1 != 0) = true := bne_iff_ne.mpr c3
        have H' := Aside0.mk H
        clear H
        go_wp2
        repeat (go_quiet (fail); try go_wp2)
        go_roundg k1
        case measure => have := HK1.out; omega
        case rel => exact ⟨(x1_1), (Int.tmod x0_1 x1_1), (by first | rfl | (simp; done) | (simp [*]; done)), (by first | rfl | (simp; done) | (simp [*]; done)), H', ⟨by have := HK1.out; omega⟩, by repeat (first | exact Drawn0.refl _ | apply Drawn0.step)⟩

/-! ### mathutil_GCDUint16: function 35 -/
def mathutil_GCDUint16.l0 : Nat → Int → Int → Option (Int)
  | 0, _, _ => none
  | k + 1, x0, x1 => if x1 = 0 then (some x0) else (mathutil_GCDUint16.l0 k x1 (Int.tmod x0 x1))
def mathutil_GCDUint16.f (k : Nat) (a0 : Int) (a1 : Int) : Option (Int) := mathutil_GCDUint16.l0 k a0 a1
theorem mathutil_GCDUint16.mono_l : ∀ k, (∀ y0 y1, LeO (mathutil_GCDUint16.l0 k y0 y1) (mathutil_GCDUint16.l0 (k + 1) y0 y1))
  | 0 => fun _ _ r h => by simp [mathutil_GCDUint16.l0] at h
  | k + 1 => by
    have ih0 := mathutil_GCDUint16.mono_l k
    · intro y0 y1
      unfold mathutil_GCDUint16.l0
      repeat' first
      | (with_reducible exact ih0 _ _)
      | (with_reducible exact LeO.refl _)
      | (with_reducible exact LeO.none _)
      | (with_reducible refine LeO.ite ?_ ?_)
      | (with_reducible refine LeO.bind ?_ (fun _ => ?_))
      | exact ih0 _ _
      | exact LeO.none _
      | refine LeO.ite ?_ ?_
      | refine LeO.bind ?_ (fun _ => ?_)
theorem mathutil_GCDUint16.mono : ∀ a0 a1 k, LeO (mathutil_GCDUint16.f k a0 a1) (mathutil_GCDUint16.f (k + 1) a0 a1) := by
  intro a0 a1 k
  have ih0 := mathutil_GCDUint16.mono_l k
  unfold mathutil_GCDUint16.f
  repeat' first
      | (with_reducible exact ih0 _ _)
      | (with_reducible exact LeO.refl _)
      | (with_reducible exact LeO.none _)
      | (with_reducible refine LeO.ite ?_ ?_)
      | (with_reducible refine LeO.bind ?_ (fun _ => ?_))
      | exact ih0 _ _
      | exact LeO.none _
      | refine LeO.ite ?_ ?_
      | refine LeO.bind ?_ (fun _ => ?_)
set_option maxHeartbeats 8000000 in
set_option maxRecDepth 100000 in
theorem mathutil_GCDUint16.calls (k : Nat) (a0 : Int) (a1 : Int) (r : Int) (w : World) (h : mathutil_GCDUint16.f k a0 a1 = some r) :
    Calls Try.prog 35 #[.int .u16 a0, .int .u16 a1] w fun e w' => e = .returned (.int .u16 r) ∧ Drawn0 w w' := by
  have H : (mathutil_GCDUint16.l0 k a0 a1) = some r := h
  clear h
  have H' := Aside0.mk H
  clear H
  go_enter Try.func35, Try.ntmps35
  go_wp2
  repeat (go_quiet (fail); try go_wp2)
  go_loopg [0, 1] k (fun kq v0 v1 w' => ∃ (x0_1 : Int) (x1_1 : Int), v0 = .int .u16 x0_1 ∧ v1 = .int .u16 x1_1 ∧ Aside0 (mathutil_GCDUint16.l0 kq x0_1 x1_1 = some r) ∧ Aside0 (kq ≤ k) ∧ Drawn0 w w')
  case atStart => exact ⟨(a0), (a1), (by first | rfl | (simp; done) | (simp [*]; done)), (by first | rfl | (simp; done) | (simp [*]; done)), H', ⟨Nat.le_refl _⟩, by repeat (first | exact Drawn0.refl _ | apply Drawn0.step)⟩
  case round =>
    clear H'
    try clear p2
    obtain ⟨x0_1, x1_1, rfl, rfl, HA, HK1, ⟨m1, rfl⟩⟩ := hrel
    cases gk with
    | zero => exact absurd HA.out (by simp [mathutil_GCDUint16.l0])
    | succ k1 =>
      have H := HA.out
      clear HA
      simp only [mathutil_GCDUint16.l0] at H
      by_cases c3 : x1_1 = 0
      · rw [if_pos c3] at H
        have c3b0 : (x1_1 == 0) = true := beq_iff_eq.mpr c3
        have c3b1 : (x1_1 != 0) = false := bne_eq_false_iff_eq.mpr c3
        clear c3
        obtain rfl := Option.some.inj H
        go_wp2
        repeat (go_quiet (fail); try go_wp2)
        go_ret
        exact ⟨by first | rfl | (simp; done) | (simp [*]; done), by repeat (first | exact Drawn0.refl _ | apply Drawn0.step)⟩
      · rw [if_neg c3] at H
        have c3b0 : (x1_1 == 0) = false := beq_eq_false_iff_ne.mpr c3
        have c3b1 : (x1_1 != 0) = true := bne_iff_ne.mpr c3
        have H' := Aside0.mk H
        clear H
        go_wp2
        repeat (go_quiet (fail); try go_wp2)
        go_roundg k1
        case measure => have := HK1.out; omega
        case rel => exact ⟨(x1_1), (Int.tmod x0_1 x1_1), (by first | rfl | (simp; done) | (simp [*]; done)), (by first | rfl | (simp; done) | (simp [*]; done)), H', ⟨by have := HK1.out; omega⟩, by repeat (first | exact Drawn0.refl _ | apply Drawn0.step)⟩

/-! ### mathutil_GCDUint32: function 36 -/
def mathutil_GCDUint32.l0 : Nat → Int → Int → Option (Int)
  | 0, _, _ => none
  | k + 1, x0, x1 => if x1 = 0 then (some x0) else (mathutil_GCDUint32.l0 k x1 (Int.tmod x0 x1))
def mathutil_GCDUint32.f (k : Nat) (a0 : Int) (a1 : Int) : Option (Int) := mathutil_GCDUint32.l0 k a0 a1
theorem mathutil_GCDUint32.mono_l : ∀ k, (∀ y0 y1, LeO (mathutil_GCDUint32.l0 k y0 y1) (mathutil_GCDUint32.l0 (k + 1) y0 y1))
  | 0 => fun _ _ r h => by simp [mathutil_GCDUint32.l0] at h
  | k + 1 => by
    have ih0 := mathutil_GCDUint32.mono_l k
    · intro y0 y1
      unfold mathutil_GCDUint32.l0
      repeat' first
      | (with_reducible exact ih0 _ _)
      | (with_reducible exact LeO.refl _)
      | (with_reducible exact LeO.none _)
      | (with_reducible refine LeO.ite ?_ ?_)
      | (with_reducible refine LeO.bind ?_ (fun _ => ?_))
      | exact ih0 _ _
      | exact LeO.none _
      | refine LeO.ite ?_ ?_
      | refine LeO.bind ?_ (fun _ => ?_)
theorem mathutil_GCDUint32.mono : ∀ a0 a1 k, LeO (mathutil_GCDUint32.f k a0 a1) (mathutil_GCDUint32.f (k + 1) a0 a1) := by
  intro a0 a1 k
  have ih0 := mathutil_GCDUint32.mono_l k
  unfold mathutil_GCDUint32.f
  repeat' first
      | (with_reducible exact ih0 _ _)
      | (with_reducible exact LeO.refl _)
      | (with_reducible exact LeO.none _)
      | (with_reducible refine LeO.ite ?_ ?_)
      | (with_reducible refine LeO.bind ?_ (fun _ => ?_))
      | exact ih0 _ _
      | exact LeO.none _
      | refine LeO.ite ?_ ?_
      | refine LeO.bind ?_ (fun _ => ?_)
set_option maxHeartbeats 8000000 in
set_option maxRecDepth 100000 in
theorem mathutil_GCDUint32.calls (k : Nat) (a0 : Int) (a1 : Int) (r : Int) (w : World) (h : mathutil_GCDUint32.f k a0 a1 = some r) :
    Calls Try.prog 36 #[.int .u32 a0, .int .u32 a1] w fun e w' => e = .returned (.int .u32 r) ∧ Drawn0 w w' := by
  have H : (mathutil_GCDUint32.l0 k a0 a1) = some r := h
  clear h
  have H' := Aside0.mk H
  clear H
  go_enter Try.func36, Try.ntmps36
  go_wp2
  repeat (go_quiet (fail); try go_wp2)
  go_loopg [0, 1] k (fun kq v0 v1 w' => ∃ (x0_1 : Int) (x1_1 : Int), v0 = .int .u32 x0_1 ∧ v1 = .int .u32 x1_1 ∧ Aside0 (mathutil_GCDUint32.l0 kq x0_1 x1_1 = some r) ∧ Aside0 (kq ≤ k) ∧ Drawn0 w w')
  case atStart => exact ⟨(a0), (a1), (by first | rfl | (simp; done) | (simp [*]; done)), (by first | rfl | (simp; done) | (simp [*]; done)), H', ⟨Nat.le_refl _⟩, by repeat (first | exact Drawn0.refl _ | apply Drawn0.step)⟩
  case round =>
    clear H'
    try clear p2
    obtain ⟨x0_1, x1_1, rfl, rfl, HA, HK1, ⟨m1, rfl⟩⟩ := hrel
    cases gk with
    | zero => exact absurd HA.out (by simp [mathutil_GCDUint32.l0])
    | succ k1 =>
      have H := HA.out
      clear HA
      simp only [mathutil_GCDUint32.l0] at H
      by_cases c3 : x1_1 = 0
      · rw [if_pos c3] at H
        have c3b0 : (x1_1 == 0) = true := beq_iff_eq.mpr c3
        have c3b1 : (x1_1 != 0) = false := bne_eq_false_iff_eq.mpr c3
        clear c3
        obtain rfl := Option.some.inj H
        go_wp2
        repeat (go_quiet (fail); try go_wp2)
        go_ret
        exact ⟨by first | rfl | (simp; done) | (simp [*]; done), by repeat (first | exact Drawn0.refl _ | apply Drawn0.step)⟩
      · rw [if_neg c3] at H
        have c3b0 : (x1_1 == 0) = false := beq_eq_false_iff_ne.mpr c3
        have c3b1 : (x1_1 != 0) = true := bne_iff_ne.mpr c3
        have H' := Aside0.mk H
        clear H
        go_wp2
        repeat (go_quiet (fail); try go_wp2)
        go_roundg k1
        case measure => have := HK1.out; omega
        case rel => exact ⟨(x1_1), (Int.tmod x0_1 x1_1), (by first | rfl | (simp; done) | (simp [*]; done)), (by first | rfl | (simp; done) | (simp [*]; done)), H', ⟨by have := HK1.out; omega⟩, by repeat (first | exact Drawn0.refl _ | apply Drawn0.step)⟩

/-! ### mathutil_GCDUint64: function 37 -/
def mathutil_GCDUint64.l0 : Nat → Int → Int → Option (Int)
  | 0, _, _ => none
  | k + 1, x0, x1 => if x1 = 0 then (some x0) else (mathutil_GCDUint64.l0 k x1 (Int.tmod x0 x1))
def mathutil_GCDUint64.f (k : Nat) (a0 : Int) (a1 : Int) : Option (Int) := mathutil_GCDUint64.l0 k a0 a1
theorem mathutil_GCDUint64.mono_l : ∀ k, (∀ y0 y1, LeO (mathutil_GCDUint64.l0 k y0 y1) (mathutil_GCDUint64.l0 (k + 1) y0 y1))
  | 0 => fun _ _ r h => by simp [mathutil_GCDUint64.l0] at h
  | k + 1 => by
    have ih0 := mathutil_GCDUint64.mono_l k
    · intro y0 y1
      unfold mathutil_GCDUint64.l0
      repeat' first
      | (with_reducible exact ih0 _ _)
      | (with_reducible exact LeO.refl _)
      | (with_reducible exact LeO.none _)
      | (with_reducible refine LeO.ite ?_ ?_)
      | (with_reducible refine LeO.bind ?_ (fun _ => ?_))
      | exact ih0 _ _
      | exact LeO.none _
      | refine LeO.ite ?_ ?_
      | refine LeO.bind ?_ (fun _ => ?_)
theorem mathutil_GCDUint64.mono : ∀ a0 a1 k, LeO (mathutil_GCDUint64.f k a0 a1) (mathutil_GCDUint64.f (k + 1) a0 a1) := by
  intro a0 a1 k
  have ih0 := mathutil_GCDUint64.mono_l k
  unfold mathutil_GCDUint64.f
  repeat' first
      | (with_reducible exact ih0 _ _)
      | (with_reducible exact LeO.refl _)
      | (with_reducible exact LeO.none _)
      | (with_reducible refine LeO.ite ?_ ?_)
      | (with_reducible refine LeO.bind ?_ (fun _ => ?_))
      | exact ih0 _ _
      | exact LeO.none _
      | refine LeO.ite ?_ ?_
      | refine LeO.bind ?_ (fun _ => ?_)
set_option maxHeartbeats 8000000 in
set_option maxRecDepth 100000 in
theorem mathutil_GCDUint64.calls (k : Nat) (a0 : Int) (a1 : Int) (r : Int) (w : World) (h : mathutil_GCDUint64.f k a0 a1 = some r) :
    Calls Try.prog 37 #[.int .u64 a0, .int .u64 a1] w fun e w' => e = .returned (.int .u64 r) ∧ Drawn0 w w' := by
  have H : (mathutil_GCDUint64.l0 k a0 a1) = some r := h
  clear h
  have H' := Aside0.mk H
  clear H
  go_enter Try.func37, Try.ntmps37
  go_wp2
  repeat (go_quiet (fail); try go_wp2)
  go_loopg [0, 1] k (fun kq v0 v1 w' => ∃ (x0_1 : Int) (x1_1 : Int), v0 = .int .u64 x0_1 ∧ v1 = .int .u64 x1_1 ∧ Aside0 (mathutil_GCDUint64.l0 kq x0_1 x1_1 = some r) ∧ Aside0 (kq ≤ k) ∧ Drawn0 w w')
  case atStart => exact ⟨(a0), (a1), (by first | rfl | (simp; done) | (simp [*]; done)), (by first | rfl | (simp; done) | (simp [*]; done)), H', ⟨Nat.le_refl _⟩, by repeat (first | exact Drawn0.refl _ | apply Drawn0.step)⟩
  case round =>
    clear H'
    try clear p2
    obtain ⟨x0_1, x1_1, rfl, rfl, HA, HK1, ⟨m1, rfl⟩⟩ := hrel
    cases gk with
    | zero => exact absurd HA.out (by simp [mathutil_GCDUint64.l0])
    | succ k1 =>
      have H := HA.out
      clear HA
      simp only [mathutil_GCDUint64.l0] at H
      by_cases c3 : x1_1 = 0
      · rw [if_pos c3] at H
        have c3b0 : (x1_1 == 0) = true := beq_iff_eq.mpr c3
        have c3b1 : (x1_1 != 0) = false := bne_eq_false_iff_eq.mpr c3
        clear c3
        obtain rfl := Option.some.inj H
        go_wp2
        repeat (go_quiet (fail); try go_wp2)
        go_ret
        exact ⟨by first | rfl | (simp; done) | (simp [*]; done), by repeat (first | exact Drawn0.refl _ | apply Drawn0.step)⟩
      · rw [if_neg c3] at H
        have c3b0 : (x1_1 == 0) = false := beq_eq_false_iff_ne.mpr c3
        have c3b1 : (x1_1 != 0) = true := bne_iff_ne.mpr c3
        have H' := Aside0.mk H
        clear H
        go_wp2
        repeat (go_quiet (fail); try go_wp2)
        go_roundg k1
        case measure => have := HK1.out; omega
        case rel => exact ⟨(x1_1), (Int.tmod x0_1 x1_1), (by first | rfl | (simp; done) | (simp [*]; done)), (by first | rfl | (simp; done) | (simp [*]; done)), H', ⟨by have := HK1.out; omega⟩, by repeat (first | exact Drawn0.refl _ | apply Drawn0.step)⟩

/-! ### impl_Gcd: function 20 -/
def impl_Gcd.f (k : Nat) (a0 : Int) (a1 : Int) (a2 : Int) : Option (Int) := if a0 = 8 then ((mathutil_GCDByte.f k ((a1) % 256) ((a2) % 256)).bind fun t101 => (some (IntKind.u64.wrap (t101)))) else (if a0 = 16 then ((mathutil_GCDUint16.f k (IntKind.u16.wrap (a1)) (IntKind.u16.wrap (a2))).bind fun t102 => (some (IntKind.u64.wrap (t102)))) else (if a0 = 32 then ((mathutil_GCDUint32.f k ((a1) % 4294967296) ((a2) % 4294967296)).bind fun t103 => (some (IntKind.u64.wrap (t103)))) else (if a0 = 64 then ((mathutil_GCDUint64.f k a1 a2).bind fun t104 => (some t104)) else (some 0))))
theorem impl_Gcd.mono : ∀ a0 a1 a2 k, LeO (impl_Gcd.f k a0 a1 a2) (impl_Gcd.f (k + 1) a0 a1 a2) := by
  intro a0 a1 a2 k
  unfold impl_Gcd.f
  repeat' first
      | (with_reducible exact mathutil_GCDByte.mono _ _ _)
      | (with_reducible exact mathutil_GCDUint16.mono _ _ _)
      | (with_reducible exact mathutil_GCDUint32.mono _ _ _)
      | (with_reducible exact mathutil_GCDUint64.mono _ _ _)
      | (with_reducible exact LeO.refl _)
      | (with_reducible exact LeO.none _)
      | (with_reducible refine LeO.ite ?_ ?_)
      | (with_reducible refine LeO.bind ?_ (fun _ => ?_))
      | exact mathutil_GCDByte.mono _ _ _
      | exact mathutil_GCDUint16.mono _ _ _
      | exact mathutil_GCDUint32.mono _ _ _
      | exact mathutil_GCDUint64.mono _ _ _
      | exact LeO.none _
      | refine LeO.ite ?_ ?_
      | refine LeO.bind ?_ (fun _ => ?_)
set_option maxHeartbeats 8000000 in
set_option maxRecDepth 100000 in
theorem impl_Gcd.calls (k : Nat) (a0 : Int) (a1 : Int) (a2 : Int) (r : Int) (w : World) (h : impl_Gcd.f k a0 a1 a2 = some r) :
    Calls Try.prog 20 #[.int .i64 a0, .int .u64 a1, .int .u64 a2] w fun e w' => e = .returned (.int .u64 r) ∧ Drawn0 w w' := by
  have H : (if a0 = 8 then ((mathutil_GCDByte.f k ((a1) % 256) ((a2) % 256)).bind fun t101 => (some (IntKind.u64.wrap (t101)))) else (if a0 = 16 then ((mathutil_GCDUint16.f k (IntKind.u16.wrap (a1)) (IntKind.u16.wrap (a2))).bind fun t102 => (some (IntKind.u64.wrap (t102)))) else (if a0 = 32 then ((mathutil_GCDUint32.f k ((a1) % 4294967296) ((a2) % 4294967296)).bind fun t103 => (some (IntKind.u64.wrap (t103)))) else (if a0 = 64 then ((mathutil_GCDUint64.f k a1 a2).bind fun t104 => (some t104)) else (some 0))))) = some r := h
  clear h
  by_cases c4 : a0 = 8
  · rw [if_pos c4] at H
    have c4b0 : (a0 == 8) = true := beq_iff_eq.mpr c4
    have c4b1 : (a0 != 8) = false := bne_eq_false_iff_eq.mpr c4
    clear c4
    replace H := Option.bind_eq_some_iff.mp H
    obtain ⟨t101, A50, H⟩ := H
    replace H : (some (IntKind.u64.wrap (t101))) = some r := H
    have A5 := Aside0.mk A50
    clear A50
    obtain rfl := Option.some.inj H
    go_enter Try.func20, Try.ntmps20
    go_wp2_with (first | ((with_reducible refine gate_callee (f := 34) rfl ?_); refine goesL_ (some 14) rfl rfl Try.func34 (by kernel_rfl) rfl #[.int .u8 ((a1) % 256), .int .u8 ((a2) % 256)] rfl (by (try simp only [List.map_toArray, List.map_cons, List.map_nil]); first | done | rfl | (simp only [List.length_drop, List.length_take]; rfl)) ?_; (with_reducible refine (mathutil_GCDByte.calls k ((a1) % 256) ((a2) % 256) t101 _ A5.out).mono ?_); rintro e w' ⟨rfl, ⟨nd, rfl⟩⟩; refine ⟨_, rfl, ?_⟩))
    go_ret
    exact ⟨by first | rfl | (simp; done) | (simp [*]; done), by repeat (first | exact Drawn0.refl _ | apply Drawn0.step)⟩
  · rw [if_neg c4] at H
    have c4b0 : (a0 == 8) = false := beq_eq_false_iff_ne.mpr c4
    have c4b1 : (a0 != 8) = true := bne_iff_ne.mpr c4
    by_cases c6 : a0 = 16
    · rw [if_pos c6] at H
      have c6b0 : (a0 == 16) = true := beq_iff_eq.mpr c6
      have c6b1 : (a0 != 16) = false := bne_eq_false_iff_eq.mpr c6
      clear c6
      replace H := Option.bind_eq_some_iff.mp H
      obtain ⟨t102, A70, H⟩ := H
      replace H : (some (IntKind.u64.wrap (t102))) = some r := H
      have A7 := Aside0.mk A70
      clear A70
      obtain rfl := Option.some.inj H
      go_enter Try.func20, Try.ntmps20
      go_wp2_with (first | ((with_reducible refine gate_callee (f := 35) rfl ?_); refine goesL_ (some 22) rfl rfl Try.func35 (by kernel_rfl) rfl #[.int .u16 (IntKind.u16.wrap (a1)), .int .u16 (IntKind.u16.wrap (a2))] rfl (by (try simp only [List.map_toArray, List.map_cons, List.map_nil]); first | done | rfl | (simp only [List.length_drop, List.length_take]; rfl)) ?_; (with_reducible refine (mathutil_GCDUint16.calls k (IntKind.u16.wrap (a1)) (IntKind.u16.wrap (a2)) t102 _ A7.out).mono ?_); rintro e w' ⟨rfl, ⟨nd, rfl⟩⟩; refine ⟨_, rfl, ?_⟩))
      go_ret
      exact ⟨by first | rfl | (simp; done) | (simp [*]; done), by repeat (first | exact Drawn0.refl _ | apply Drawn0.step)⟩
    · rw [if_neg c6] at H
      have c6b0 : (a0 == 16) = false := beq_eq_false_iff_ne.mpr c6
      have c6b1 : (a0 != 16) = true := bne_iff_ne.mpr c6
      by_cases c8 : a0 = 32
      · rw [if_pos c8] at H
        have c8b0 : (a0 == 32) = true := beq_iff_eq.mpr c8
        have c8b1 : (a0 != 32) = false := bne_eq_false_iff_eq.mpr c8
        clear c8
        replace H := Option.bind_eq_some_iff.mp H
        obtain ⟨t103, A90, H⟩ := H
        replace H : (some (IntKind.u64.wrap (t103))) = some r := H
        have A9 := Aside0.mk A90
        clear A90
        obtain rfl := Option.some.inj H
        go_enter Try.func20, Try.ntmps20
        go_wp2_with (first | ((with_reducible refine gate_callee (f := 36) rfl ?_); refine goesL_ (some 30) rfl rfl Try.func36 (by kernel_rfl) rfl #[.int .u32 ((a1) % 4294967296), .int .u32 ((a2) % 4294967296)] rfl (by (try simp only [List.map_toArray, List.map_cons, List.map_nil]); first | done | rfl | (simp only [List.length_drop, List.length_take]; rfl)) ?_; (with_reducible refine (mathutil_GCDUint32.calls k ((a1) % 4294967296) ((a2) % 4294967296) t103 _ A9.out).mono ?_); rintro e w' ⟨rfl, ⟨nd, rfl⟩⟩; refine ⟨_, rfl, ?_⟩))
        go_ret
        exact ⟨by first | rfl | (simp; done) | (simp [*]; done), by repeat (first | exact Drawn0.refl _ | apply Drawn0.step)⟩
      · rw [if_neg c8] at H
        have c8b0 : (a0 == 32) = false := beq_eq_false_iff_ne.mpr c8
        have c8b1 : (a0 != 32) = true := bne_iff_ne.mpr c8
        by_cases c10 : a0 = 64
        · rw [if_pos c10] at H
          have c10b0 : (a0 == 64) = true := beq_iff_eq.mpr c10
          have c10b1 : (a0 != 64) = false := bne_eq_false_iff_eq.mpr c10
          clear c10
          replace H := Option.bind_eq_some_iff.mp H
          obtain ⟨t104, A110, H⟩ := H
          replace H : (some t104) = some r := H
          have A11 := Aside0.mk A110
          clear A110
          obtain rfl := Option.some.inj H
          go_enter Try.func20, Try.ntmps20
          go_wp2_with (first | ((with_reducible refine gate_callee (f := 37) rfl ?_); refine goesL_ (some 36) rfl rfl Try.func37 (by kernel_rfl) rfl #[.int .u64 a1, .int .u64 a2] rfl (by (try simp only [List.map_toArray, List.map_cons, List.map_nil]); first | done | rfl | (simp only [List.length_drop, List.length_take]; rfl)) ?_; (with_reducible refine (mathutil_GCDUint64.calls k a1 a2 t104 _ A11.out).mono ?_); rintro e w' ⟨rfl, ⟨nd, rfl⟩⟩; refine ⟨_, rfl, ?_⟩))
          go_ret
          exact ⟨by first | rfl | (simp; done) | (simp [*]; done), by repeat (first | exact Drawn0.refl _ | apply Drawn0.step)⟩
        · rw [if_neg c10] at H
          have c10b0 : (a0 == 64) = false := beq_eq_false_iff_ne.mpr c10
          have c10b1 : (a0 != 64) = true := bne_iff_ne.mpr c10
          obtain rfl := Option.some.inj H
          go_enter Try.func20, Try.ntmps20
          go_wp2
          go_ret
          exact ⟨by first | rfl | (simp; done) | (simp [*]; done), by repeat (first | exact Drawn0.refl _ | apply Drawn0.step)⟩

/-! ### laws_FnGcdTimes: function 9 -/
def laws_FnGcdTimes.f (k : Nat) (a0 : Int) (a1 : Int) (a2 : Int) : Option (Bool) := (impl_Gcd.f k 8 6 4).bind fun t105 => (if t105 = 2 then ((impl_Gcd.f k 64 (IntKind.u64.wrap ((IntKind.u64.wrap (a0)) * (IntKind.u64.wrap (a2)))) (IntKind.u64.wrap ((IntKind.u64.wrap (a1)) * (IntKind.u64.wrap (a2))))).bind fun t106 => ((impl_Gcd.f k 32 (IntKind.u64.wrap (a0)) (IntKind.u64.wrap (a1))).bind fun t107 => (some (t106 == (IntKind.u64.wrap (t107 * (IntKind.u64.wrap (a2)))))))) else (some false))
theorem laws_FnGcdTimes.mono : ∀ a0 a1 a2 k, LeO (laws_FnGcdTimes.f k a0 a1 a2) (laws_FnGcdTimes.f (k + 1) a0 a1 a2) := by
  intro a0 a1 a2 k
  unfold laws_FnGcdTimes.f
  repeat' first
      | (with_reducible exact impl_Gcd.mono _ _ _ _)
      | (with_reducible exact LeO.refl _)
      | (with_reducible exact LeO.none _)
      | (with_reducible refine LeO.ite ?_ ?_)
      | (with_reducible refine LeO.bind ?_ (fun _ => ?_))
      | exact impl_Gcd.mono _ _ _ _
      | exact LeO.none _
      | refine LeO.ite ?_ ?_
      | refine LeO.bind ?_ (fun _ => ?_)
set_option maxHeartbeats 8000000 in
set_option maxRecDepth 100000 in
theorem laws_FnGcdTimes.calls (k : Nat) (a0 : Int) (a1 : Int) (a2 : Int) (r : Bool) (w : World) (h : laws_FnGcdTimes.f k a0 a1 a2 = some r) :
    Calls Try.prog 9 #[.int .u32 a0, .int .u32 a1, .int .u32 a2] w fun e w' => e = .returned (.bool r) ∧ Drawn0 w w' := by
  have H : ((impl_Gcd.f k 8 6 4).bind fun t105 => (if t105 = 2 then ((impl_Gcd.f k 64 (IntKind.u64.wrap ((IntKind.u64.wrap (a0)) * (IntKind.u64.wrap (a2)))) (IntKind.u64.wrap ((IntKind.u64.wrap (a1)) * (IntKind.u64.wrap (a2))))).bind fun t106 => ((impl_Gcd.f k 32 (IntKind.u64.wrap (a0)) (IntKind.u64.wrap (a1))).bind fun t107 => (some (t106 == (IntKind.u64.wrap (t107 * (IntKind.u64.wrap (a2)))))))) else (some false))) = some r := h
  clear h
  replace H := Option.bind_eq_some_iff.mp H
  obtain ⟨t105, A40, H⟩ := H
  replace H : (if t105 = 2 then ((impl_Gcd.f k 64 (IntKind.u64.wrap ((IntKind.u64.wrap (a0)) * (IntKind.u64.wrap (a2)))) (IntKind.u64.wrap ((IntKind.u64.wrap (a1)) * (IntKind.u64.wrap (a2))))).bind fun t106 => ((impl_Gcd.f k 32 (IntKind.u64.wrap (a0)) (IntKind.u64.wrap (a1))).bind fun t107 => (some (t106 == (IntKind.u64.wrap (t107 * (IntKind.u64.wrap (a2)))))))) else (some false)) = some r := H
  have A4 := Aside0.mk A40
  clear A40
  by_cases c5 : t105 = 2
  · rw [if_pos c5] at H
    have c5b0 : (t105 == 2) = true := beq_iff_eq.mpr c5
    have c5b1 : (t105 != 2) = false := bne_eq_false_iff_eq.mpr c5
    clear c5
    replace H := Option.bind_eq_some_iff.mp H
    obtain ⟨t106, A60, H⟩ := H
    replace H : ((impl_Gcd.f k 32 (IntKind.u64.wrap (a0)) (IntKind.u64.wrap (a1))).bind fun t107 => (some (t106 == (IntKind.u64.wrap (t107 * (IntKind.u64.wrap (a2))))))) = some r := H
    have A6 := Aside0.mk A60
    clear A60
    replace H := Option.bind_eq_some_iff.mp H
    obtain ⟨t107, A70, H⟩ := H
    replace H : (some (t106 == (IntKind.u64.wrap (t107 * (IntKind.u64.wrap (a2)))))) = some r := H
    have A7 := Aside0.mk A70
    clear A70
    obtain rfl := Option.some.inj H
    go_enter Try.func9, Try.ntmps9
    go_wp2_with (first | ((with_reducible refine gate_callee (f := 20) rfl ?_); refine goesL_ (some 7) rfl rfl Try.func20 (by kernel_rfl) rfl #[.int .i64 8, .int .u64 6, .int .u64 4] rfl (by (try simp only [List.map_toArray, List.map_cons, List.map_nil]); first | done | rfl | (simp only [List.length_drop, List.length_take]; rfl)) ?_; (with_reducible refine (impl_Gcd.calls k 8 6 4 t105 _ A4.out).mono ?_); rintro e w' ⟨rfl, ⟨nd, rfl⟩⟩; refine ⟨_, rfl, ?_⟩) | (go_at_call 20; (with_reducible refine (impl_Gcd.calls k 64 (IntKind.u64.wrap ((IntKind.u64.wrap (a0)) * (IntKind.u64.wrap (a2)))) (IntKind.u64.wrap ((IntKind.u64.wrap (a1)) * (IntKind.u64.wrap (a2)))) t106 _ A6.out).mono ?_); rintro e w' ⟨rfl, ⟨nd, rfl⟩⟩) | (go_at_call 20; (with_reducible refine (impl_Gcd.calls k 32 (IntKind.u64.wrap (a0)) (IntKind.u64.wrap (a1)) t107 _ A7.out).mono ?_); rintro e w' ⟨rfl, ⟨nd, rfl⟩⟩))
    go_ret
    exact ⟨by first | rfl | (simp; done) | (simp [*]; done), by repeat (first | exact Drawn0.refl _ | apply Drawn0.step)⟩
  · rw [if_neg c5] at H
    have c5b0 : (t105 == 2) = false := beq_eq_false_iff_ne.mpr c5
    have c5b1 : (t105 != 2) = true := bne_iff_ne.mpr c5
    obtain rfl := Option.some.inj H
    go_enter Try.func9, Try.ntmps9
    go_wp2_with (first | ((with_reducible refine gate_callee (f := 20) rfl ?_); refine goesL_ (some 7) rfl rfl Try.func20 (by kernel_rfl) rfl #[.int .i64 8, .int .u64 6, .int .u64 4] rfl (by (try simp only [List.map_toArray, List.map_cons, List.map_nil]); first | done | rfl | (simp only [List.length_drop, List.length_take]; rfl)) ?_; (with_reducible refine (impl_Gcd.calls k 8 6 4 t105 _ A4.out).mono ?_); rintro e w' ⟨rfl, ⟨nd, rfl⟩⟩; refine ⟨_, rfl, ?_⟩))
    go_ret
    exact ⟨by first | rfl | (simp; done) | (simp [*]; done), by repeat (first | exact Drawn0.refl _ | apply Drawn0.step)⟩

/-- THE ONE PURE STATEMENT of laws_FnGcdTimes: yours. -/
def laws_FnGcdTimes.Pure : Prop := ∀ (a0 : Int) (a1 : Int) (a2 : Int), (Lit.int .u32 a0).wf = true → (Lit.int .u32 a1).wf = true → (Lit.int .u32 a2).wf = true → ∃ k, laws_FnGcdTimes.f k a0 a1 a2 = some true
theorem laws_FnGcdTimes.walk (P : laws_FnGcdTimes.Pure) (a0 : Int) (a1 : Int) (a2 : Int) (w : World) (w0 : (Lit.int .u32 a0).wf = true) (w1 : (Lit.int .u32 a1).wf = true) (w2 : (Lit.int .u32 a2).wf = true) :
    Calls Try.prog 9 #[.int .u32 a0, .int .u32 a1, .int .u32 a2] w fun e w' => e = .returned (.bool true) ∧ Below w.heap.size w w' := by
  obtain ⟨k, h⟩ := P a0 a1 a2 w0 w1 w2
  refine (laws_FnGcdTimes.calls k a0 a1 a2 true w h).mono ?_
  rintro e w' ⟨rfl, hd⟩
  exact ⟨rfl, hd.below⟩

end Go.Proofs.Ytmbhbioanoalaaa.PFnGcdTimes
