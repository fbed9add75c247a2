/- PermutationFirst; both functions where there are fewer than two numbers. -/
import Derived.Test.YtpelipdecjooeaaPermB
namespace Go.Proofs.Ytpelipdecjooeaa.PermC
open Go Go.Proofs Go.Shelf Go.RowKit Go.Lib Go.Sort Go.Proofs.Ytpelipdecjooeaa.PermA Go.Proofs.Ytpelipdecjooeaa.PermB
set_option linter.unusedVariables false
set_option maxHeartbeats 2000000 in
theorem pfirst_tiny (A : Option Addr) (n c : Nat) (hn : n ≤ 1) (W : World) :
    Calls Try.prog 19 #[.iface 32 (.slice A n c)] W fun e w' => e = .returned (.tuple #[]) ∧ ∃ q, w' = W.drewN q := by
  have hS := Try.sort_Sort_tiny (α := Int) 32 (.slice A n c) 56 (len_reached _ _ _) n hn W (m_Len _ _ _ _)
  go_enter Try.func19, Try.ntmps19
  go_wp2_with (go_at_call 21; refine hS.mono ?_; rintro e w' ⟨rfl, q, rfl⟩)
  go_end0
  exact ⟨rfl, q, rfl⟩
set_option maxHeartbeats 2000000 in
theorem pfirst (g c : Nat) (d : Array Int) (h2 : 2 ≤ d.size) (hsz : d.size < 4611686018427387904) (W : World) (hH : Holds enc W g 0 d) (hblk : g < W.heap.size) :
    Calls Try.prog 19 #[.iface 32 (.slice (some ⟨g, 0, none⟩) d.size c)] W fun e w' => e = .returned (.tuple #[]) ∧ ∃ m os, w' = grow (putRow enc (Sort.ahead W m) g 0 (sorted d)) os := by
  have hS := Try.sort_Sort_eq 32 (.slice (some ⟨g, 0, none⟩) d.size c) 56 57 58 (len_reached _ _ _) (less_reached _ _ _) (swap_reached _ _ _) enc ltInt swo_ltInt g 0 d h2 hsz W (m_Len _ _ _ _) (m_LessM g 0 c d W hH hblk hsz) (m_SwapM g 0 c d.size hsz) hH hblk
  rw [show pdq ltInt d 0 d.size (Lib.bitLen d.size) true true = sorted d by unfold sorted; rw [if_neg (by omega)]] at hS
  clear hH
  go_enter Try.func19, Try.ntmps19
  go_wp2_with (go_at_call 21; refine hS.mono ?_; rintro e w' ⟨rfl, m, os, rfl⟩)
  go_end0
  exact ⟨rfl, m, os, rfl⟩
set_option maxHeartbeats 2000000 in
set_option maxRecDepth 100000 in
theorem pnext_tiny (A : Option Addr) (n c : Nat) (hn : n ≤ 1) (W : World) :
    Calls Try.prog 20 #[.iface 32 (.slice A n c)] W fun e w' => e = .returned (.bool false) ∧ ∃ q, w' = W.drewN q := by
  have mN : ∀ w, Sem.run Try.prog (method 179 32 (.slice A n c) "Len") w = .ok (56, .slice A n c) w := fun _ => by kernel_rfl
  have eN := (len_reached A n c).enters
  have hlen := fun W' => m_Len A n c W'
  unfold LenM at hlen
  go_enter Try.func20, Try.ntmps20
  go_wp2_with (go_at_call 56; refine (hlen _).mono ?_; rintro e w' ⟨rfl, q, rfl⟩)
  go_loopw [3] (fun vk wr => vk = .int .i64 ((n : Int) - 2) ∧ ∃ q, wr = W.drewN q) (fun _ _ => 0)
  case atStart => exact ⟨rfl, q, rfl⟩
  case round =>
    obtain ⟨rfl, q2, hw⟩ := hrel
    have h0 : (n : Int) - 2 < 0 := by omega
    go_wp2
    go_ret
    exact ⟨rfl, q2, rfl⟩
end Go.Proofs.Ytpelipdecjooeaa.PermC
