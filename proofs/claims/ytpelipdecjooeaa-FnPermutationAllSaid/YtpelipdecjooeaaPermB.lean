/- What PermutationFirst and PermutationNext leave in the list that they are handed. -/
import Derived.Test.YtpelipdecjooeaaPermA
namespace Go.Proofs.Ytpelipdecjooeaa.PermB
open Go Go.Proofs Go.Shelf Go.RowKit Go.Lib Go.Sort Go.Proofs.Ytpelipdecjooeaa.PermA
set_option linter.unusedVariables false
abbrev enc : Int → Value := Value.int .i64

/-- from place m on downward: the first place whose number is less than the next one -/
def fk (d : Array Int) : Nat → Option Nat
  | 0 => none
  | m + 1 => if d[m]! < d[m + 1]! then some m else fk d m
/-- from place l on downward: the first place whose number is greater than that at place k -/
def fl (d : Array Int) (k : Nat) : Nat → Nat
  | 0 => 0
  | l + 1 => if d[k]! < d[l + 1]! then l + 1 else fl d k l
/-- the places from i to j in the opposite order -/
def rv : Nat → Nat → Nat → Array Int → Array Int
  | 0, _, _, d => d
  | f + 1, i, j, d => if i < j then rv f (i + 1) (j - 1) (swp d i j) else d
def nextA (d : Array Int) : Bool × Array Int :=
  match fk d (d.size - 1) with
  | none => (false, d)
  | some k => (true, rv d.size (k + 1) (d.size - 1) (swp d k (fl d k (d.size - 1))))

theorem less_at {g c n : Nat} {W : World} {d : Array Int} (hH : Holds enc W g 0 d) (hs : d.size = n) (hsz : n < 4611686018427387904) (i j : Nat) (hi : i < n) (hj : j < n) :
    Calls Try.prog 57 #[.slice (some ⟨g, 0, none⟩) n c, .int .i64 i, .int .i64 j] W fun e w' => e = .returned (.bool (decide (d[i]! < d[j]!))) ∧ ∃ q, w' = W.drewN q :=
  m_Less g 0 c n W (fun t => d[t]!) (fun t ht => (hH t (by omega)).1) i j hi hj hsz
theorem swap_at {g c n : Nat} {W : World} {d : Array Int} (m : Nat) (hH : Holds enc (putRow enc (Sort.ahead W m) g 0 d) g 0 d) (hs : d.size = n) (hsz : n < 4611686018427387904) (i j : Nat) (hi : i < n) (hj : j < n) (q : Nat) :
    Calls Try.prog 58 #[.slice (some ⟨g, 0, none⟩) n c, .int .i64 i, .int .i64 j] ((putRow enc (Sort.ahead W m) g 0 d).drewN q) fun e w' => e = .returned (.tuple #[]) ∧ ∃ q, w' = putRow enc (Sort.ahead W q) g 0 (swp d i j) := by
  refine (m_SwapM g 0 c n hsz ((putRow enc (Sort.ahead W m) g 0 d).drewN q) d hH hs i j hi hj).mono ?_
  rintro e w' ⟨rfl, q2, rfl⟩
  refine ⟨rfl, m + q + q2, ?_⟩
  rw [show ((putRow enc (Sort.ahead W m) g 0 d).drewN q) = putRow enc (Sort.ahead W (m + q)) g 0 d from putRow_drewN _ _ _ _ _ _ _]
  exact swapM_world enc W (m + q) q2 g 0 d i j (by omega) (by omega)

theorem nextA_none {d : Array Int} (h : fk d (d.size - 1) = none) : nextA d = (false, d) := by unfold nextA; rw [h]
theorem nextA_some {d : Array Int} {k : Nat} (h : fk d (d.size - 1) = some k) : nextA d = (true, rv d.size (k + 1) (d.size - 1) (swp d k (fl d k (d.size - 1)))) := by unfold nextA; rw [h]
theorem fk_succ (d : Array Int) (m : Nat) : fk d (m + 1) = if d[m]! < d[m + 1]! then some m else fk d m := rfl
theorem fl_succ (d : Array Int) (k l : Nat) : fl d k (l + 1) = if d[k]! < d[l + 1]! then l + 1 else fl d k l := rfl
theorem rv_go {f i j : Nat} {d : Array Int} (h : i < j) : rv (f + 1) i j d = rv f (i + 1) (j - 1) (swp d i j) := by rw [rv, if_pos h]
theorem rv_stop {f i j : Nat} {d : Array Int} (h : ¬ i < j) : rv f i j d = d := by
  cases f with
  | zero => rfl
  | succ f => rw [rv, if_neg h]

set_option maxHeartbeats 4000000 in
set_option maxRecDepth 100000 in
theorem pnext (g c : Nat) (d : Array Int) (h2 : 2 ≤ d.size) (hsz : d.size < 4611686018427387904) (W : World) (hH : Holds enc W g 0 d) (hblk : g < W.heap.size) :
    Calls Try.prog 20 #[.iface 32 (.slice (some ⟨g, 0, none⟩) d.size c)] W fun e w' => e = .returned (.bool (nextA d).1) ∧ ∃ m, w' = putRow enc (Sort.ahead W m) g 0 (nextA d).2 := by
  have mN : ∀ w, Sem.run Try.prog (method 179 32 (.slice (some ⟨g, 0, none⟩) d.size c) "Len") w = .ok (56, .slice (some ⟨g, 0, none⟩) d.size c) w := fun _ => by kernel_rfl
  have mL : ∀ w, Sem.run Try.prog (method 179 32 (.slice (some ⟨g, 0, none⟩) d.size c) "Less") w = .ok (57, .slice (some ⟨g, 0, none⟩) d.size c) w := fun _ => by kernel_rfl
  have mS : ∀ w, Sem.run Try.prog (method 179 32 (.slice (some ⟨g, 0, none⟩) d.size c) "Swap") w = .ok (58, .slice (some ⟨g, 0, none⟩) d.size c) w := fun _ => by kernel_rfl
  have eN := (len_reached (some ⟨g, 0, none⟩) d.size c).enters
  have eL := (less_reached (some ⟨g, 0, none⟩) d.size c).enters
  have eS := (swap_reached (some ⟨g, 0, none⟩) d.size c).enters
  have hlen := fun W' => m_Len (some ⟨g, 0, none⟩) d.size c W'
  unfold LenM at hlen
  have HH : Hid (Holds enc W g 0 d) := hH
  clear hH
  go_enter Try.func20, Try.ntmps20
  go_wp2_with (go_at_call 56; refine (hlen _).mono ?_; rintro e w' ⟨rfl, q, rfl⟩)
  go_loopw [3] (fun vk wr => ∃ (z : Int) (q : Nat), vk = .int .i64 z ∧ ((z = -1 ∧ fk d (d.size - 1) = none) ∨ ∃ k : Nat, z = k ∧ k + 1 < d.size ∧ fk d (k + 1) = fk d (d.size - 1)) ∧ wr = Sort.ahead W q) (fun vk _ => (intOf vk + 1).toNat)
  case atStart => exact ⟨(d.size : Int) - 2, q, rfl, .inr ⟨d.size - 2, by omega, by omega, by congr 1; omega⟩, rfl⟩
  case round =>
    obtain ⟨z, q, rfl, hz, hw⟩ := hrel
    rcases hz with ⟨rfl, hf⟩ | ⟨k, rfl, hk, hf⟩
    · go_wp2
      go_ret
      rw [nextA_none hf]
      exact ⟨rfl, q, by (try rw [hw]); exact (putRow_self enc _ g 0 d (holds_ahead _ _ _ _ _ _ HH.out)).symm⟩
    · have hl := less_at (c := c) (n := d.size) (W := wr) (d := d) (by rw [hw]; exact holds_ahead _ _ _ _ _ _ HH.out) rfl hsz k (k + 1) (by omega) hk
      rw [show ((k + 1 : Nat) : Int) = (k : Int) + 1 from rfl] at hl
      have HW : Hid (wr = Sort.ahead W q) := hw
      have HF : Hid (fk d (k + 1) = fk d (d.size - 1)) := hf
      clear hw hf
      by_cases hlt : d[k]! < d[k + 1]!
      · rw [decide_eq_true hlt] at hl
        go_wp2_with (first | (go_at_call 57; refine hl.mono ?_; rintro e w' ⟨rfl, q1, rfl⟩) | (go_at_call 56; refine (hlen _).mono ?_; rintro e w' ⟨rfl, q2, rfl⟩))
        have hfk : Hid (fk d (d.size - 1) = some k) := by
          have hf := HF.out
          rw [fk_succ, if_pos hlt] at hf
          exact hf.symm
        have HLT : Hid (d[k]! < d[k + 1]!) := hlt
        clear hl hlt
        go_loopw [4] (fun vl wr => ∃ (l : Nat) (q : Nat), vl = .int .i64 l ∧ k + 1 ≤ l ∧ l < d.size ∧ fl d k l = fl d k (d.size - 1) ∧ wr = Sort.ahead W q) (fun vl _ => (intOf vl).toNat)
        case atStart => exact ⟨d.size - 1, q + (q1 + q2), by congr 1; omega, by omega, by omega, rfl, by rw [HW.out]; exact ahead_ahead _ _ _⟩
        case round =>
          obtain ⟨l, q3, rfl, hkl, hln, hfl, hw⟩ := hrel
          have hl := less_at (c := c) (n := d.size) (W := wr) (d := d) (by rw [hw]; exact holds_ahead _ _ _ _ _ _ HH.out) rfl hsz k l (by omega) hln
          have HW : Hid (wr = Sort.ahead W q3) := hw
          have HFL : Hid (fl d k l = fl d k (d.size - 1)) := hfl
          clear hw hfl
          by_cases hlt : d[k]! < d[l]!
          · rw [decide_eq_true hlt] at hl
            have hfl : Hid (fl d k (d.size - 1) = l) := by
              have h := HFL.out
              obtain ⟨j, rfl⟩ : ∃ j, l = j + 1 := ⟨l - 1, by omega⟩
              rw [fl_succ, if_pos hlt] at h
              exact h.symm
            have hs := fun q => swap_at (c := c) (n := d.size) (W := W) (d := d) q3 (holds_putRow enc _ g 0 d d (holds_ahead _ _ _ _ _ _ HH.out) rfl) rfl hsz k l (by omega) hln q
            rw [putRow_self enc _ g 0 d (holds_ahead _ _ _ _ _ _ HH.out), ← HW.out] at hs
            clear hlt
            go_wp2_with (first | (go_at_call 57; refine hl.mono ?_; rintro e w' ⟨rfl, q4, rfl⟩) | (go_at_call 58; refine (hs _).mono ?_; rintro e w' ⟨rfl, q5, rfl⟩) | (go_at_call 56; refine (hlen _).mono ?_; rintro e w' ⟨rfl, q6, rfl⟩))
            have hD : Hid (nextA d = (true, rv d.size (k + 1) (d.size - 1) (swp d k l))) := by
              have h := nextA_some hfk.out
              rw [hfl.out] at h
              exact h
            clear hl hs
            go_loopw [5, 6] (fun vi vj wr => ∃ (i j f q : Nat) (dk : Array Int), vi = .int .i64 i ∧ vj = .int .i64 j ∧ i ≤ d.size ∧ j < d.size ∧ j < i + f ∧ dk.size = d.size ∧ wr = putRow enc (Sort.ahead W q) g 0 dk ∧ rv f i j dk = rv d.size (k + 1) (d.size - 1) (swp d k l)) (fun vi vj _ => (intOf vj - intOf vi + 1).toNat)
            case atStart => exact ⟨k + 1, d.size - 1, d.size, q5 + q6, swp d k l, rfl, by congr 1; omega, by omega, by omega, by omega, size_swp _ _ _, putRow_drewN _ _ _ _ _ _ _, rfl⟩
            case round =>
              obtain ⟨i, j, f, q7, dk, rfl, rfl, hi, hj, hf, hsk, hw, hr⟩ := hrel
              have HW : Hid (wr = putRow enc (Sort.ahead W q7) g 0 dk) := hw
              have HR : Hid (rv f i j dk = rv d.size (k + 1) (d.size - 1) (swp d k l)) := hr
              clear hr
              by_cases hij : i < j
              · have hs := swap_at (c := c) (n := d.size) (W := W) (d := dk) q7 (holds_putRow enc _ g 0 d dk (holds_ahead _ _ _ _ _ _ HH.out) hsk) hsk hsz i j (by omega) hj 0
                rw [show (putRow enc (Sort.ahead W q7) g 0 dk).drewN 0 = putRow enc (Sort.ahead W q7) g 0 dk from rfl, ← hw] at hs
                clear hw
                go_wp2_with (go_at_call 58; refine hs.mono ?_; rintro e w' ⟨rfl, q8, rfl⟩)
                go_roundw
                case rel =>
                  obtain ⟨f, rfl⟩ : ∃ h, f = h + 1 := ⟨f - 1, by omega⟩
                  exact ⟨i + 1, j - 1, f, q8, swp dk i j, rfl, by congr 1; omega, by omega, by omega, by omega, by rw [size_swp]; exact hsk, rfl, by rw [← HR.out, rv_go hij]⟩
                case measure => simp [intOf]; omega
              · clear hw
                go_wp2
                go_ret
                rw [hD.out]
                exact ⟨rfl, q7, by rw [HW.out, ← HR.out, rv_stop hij]⟩
          · rw [decide_eq_false hlt] at hl
            have HNL : Hid (d[l]! ≤ d[k]!) := Int.not_lt.mp hlt
            clear hlt
            go_wp2_with (go_at_call 57; refine hl.mono ?_; rintro e w' ⟨rfl, q4, rfl⟩)
            go_roundw
            case rel =>
              have hne : l ≠ k + 1 := fun h => Int.not_lt.mpr HNL.out (by rw [h]; exact HLT.out)
              refine ⟨l - 1, q3 + q4, by congr 1; omega, by omega, by omega, ?_, by rw [HW.out]; exact ahead_ahead _ _ _⟩
              have h := HFL.out
              obtain ⟨j, rfl⟩ : ∃ j, l = j + 1 := ⟨l - 1, by omega⟩
              rw [fl_succ, if_neg (Int.not_lt.mpr HNL.out)] at h
              exact h
            case measure => simp [intOf]; omega
      · rw [decide_eq_false hlt] at hl
        have HNL : Hid (d[k + 1]! ≤ d[k]!) := Int.not_lt.mp hlt
        clear hlt
        go_wp2_with (first | (go_at_call 57; refine hl.mono ?_; rintro e w' ⟨rfl, q1, rfl⟩) | (go_at_call 56; refine (hlen _).mono ?_; rintro e w' ⟨rfl, q2, rfl⟩))
        go_roundw
        case rel =>
          refine ⟨(k : Int) - 1, q + q1, rfl, ?_, by rw [HW.out]; exact ahead_ahead _ _ _⟩
          have hf := HF.out
          rw [fk_succ, if_neg (Int.not_lt.mpr HNL.out)] at hf
          rcases k with _ | k
          · exact .inl ⟨by omega, by rw [← hf]; rfl⟩
          · exact .inr ⟨k, by omega, by omega, hf⟩
        case measure => simp [intOf]
end Go.Proofs.Ytpelipdecjooeaa.PermB
