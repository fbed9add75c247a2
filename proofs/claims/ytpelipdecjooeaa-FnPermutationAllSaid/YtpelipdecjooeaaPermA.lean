/- The package's sort.Interface over a list of numbers: its three methods, and what the sort leaves. -/
import Derived.Test.YtpelipdecjooeaaShelf
import Derived.Deep.QuietTactic
import Derived.RegionTactic
namespace Go.Proofs.Ytpelipdecjooeaa.PermA
open Go Go.Proofs Go.Shelf Go.RowKit Go.Lib Go.Sort
set_option linter.unusedVariables false

theorem len_reached (p : Option Addr) (n c : Nat) : Reaches Try.prog 32 (.slice p n c) "Len" 56 := ⟨fun _ => by kernel_rfl, enters_of Try.func56 (by kernel_rfl) rfl⟩
theorem less_reached (p : Option Addr) (n c : Nat) : Reaches Try.prog 32 (.slice p n c) "Less" 57 := ⟨fun _ => by kernel_rfl, enters_of Try.func57 (by kernel_rfl) rfl⟩
theorem swap_reached (p : Option Addr) (n c : Nat) : Reaches Try.prog 32 (.slice p n c) "Swap" 58 := ⟨fun _ => by kernel_rfl, enters_of Try.func58 (by kernel_rfl) rfl⟩
theorem m_Len (p : Option Addr) (n c : Nat) (W : World) : LenM Try.prog 56 (.slice p n c) n W := by
  unfold LenM
  go_enter Try.func56, Try.ntmps56
  go_wp2
  go_ret
  exact ⟨rfl, 0, rfl⟩
set_option maxHeartbeats 2000000 in
theorem m_Less (blk off c size : Nat) (W : World) (G : Nat → Int) (hc : ∀ t, t < size → W.cell? ⟨blk, off + t, none⟩ = some (.int .i64 (G t))) (i j : Nat) (hi : i < size) (hj : j < size) (_hsz : size < 4611686018427387904) :
    Calls Try.prog 57 #[.slice (some ⟨blk, off, none⟩) size c, .int .i64 i, .int .i64 j] W fun e w' => e = .returned (.bool (decide (G i < G j))) ∧ ∃ q, w' = W.drewN q := by
  have ci := hc i hi
  have cj := hc j hj
  go_enter Try.func57, Try.ntmps57
  go_wp2
  go_quiet (fail)
  go_wp2
  go_ret
  exact ⟨rfl, nq, rfl⟩
set_option maxHeartbeats 2000000 in
theorem m_Swap (blk off c size : Nat) (W : World) (x y : Int) (i j : Nat) (hi : i < size) (hj : j < size) (_hsz : size < 4611686018427387904)
    (ci : W.cell? ⟨blk, off + i, none⟩ = some (.int .i64 x)) (cj : W.cell? ⟨blk, off + j, none⟩ = some (.int .i64 y)) (fi : W.frozen? ⟨blk, off + i, none⟩ = false) (fj : W.frozen? ⟨blk, off + j, none⟩ = false) :
    Calls Try.prog 58 #[.slice (some ⟨blk, off, none⟩) size c, .int .i64 i, .int .i64 j] W fun e w' => e = .returned (.tuple #[]) ∧ ∃ q, w' = ((W.setCell ⟨blk, off + i, none⟩ (.int .i64 y)).setCell ⟨blk, off + j, none⟩ (.int .i64 x)).drewN q := by
  obtain ⟨v', hy'⟩ := cell?_setCell_some (w := W) (p := ⟨blk, off + i, none⟩) (x := .int .i64 y) (q := ⟨blk, off + j, none⟩) cj
  go_enter Try.func58, Try.ntmps58
  go_wp2
  go_region
  all_goals (try go_wp2)
  all_goals go_end0
  all_goals exact ⟨rfl, 1, rfl⟩
theorem m_LessM (blk off c : Nat) (d : Array Int) (w : World) (hH : Holds (Value.int .i64) w blk off d) (hblk : blk < w.heap.size) (hsz : d.size < 4611686018427387904) :
    LessM Try.prog 57 (.slice (some ⟨blk, off, none⟩) d.size c) (Value.int .i64) ltInt blk off d.size w := fun m os dk hs i j hi hj =>
  m_Less blk off c d.size _ (fun t => dk[t]!) (fun t ht => ((holds_sortWorld (Value.int .i64) w blk off m d dk os hblk hH hs) t (by omega)).1) i j hi hj hsz
theorem m_SwapM (blk off c size : Nat) (hsz : size < 4611686018427387904) : SwapM Try.prog 58 (.slice (some ⟨blk, off, none⟩) size c) (Value.int .i64) blk off size := fun W dk hH hs i j hi hj =>
  m_Swap blk off c size W dk[i]! dk[j]! i j hi hj hsz (hH i (by omega)).1 (hH j (by omega)).1 (hH i (by omega)).2 (hH j (by omega)).2

/-- what the sort leaves -/
def sorted (d : Array Int) : Array Int := if d.size < 2 then d else pdq ltInt d 0 d.size (Lib.bitLen d.size) true true
theorem sorted_perm (d : Array Int) : PermIn 0 d.size d (sorted d) ∧ SortedIn ltInt 0 d.size (sorted d) := by
  unfold sorted
  by_cases h : d.size < 2
  · rw [if_pos h]
    refine ⟨?_, fun i j _ hij hj => by omega⟩
    exact ⟨rfl, fun _ _ => rfl, List.Perm.refl _⟩
  · rw [if_neg h]
    exact pdq_sorts ltInt swo_ltInt d 0 d.size (Lib.bitLen d.size) true true (Nat.zero_le _) (Nat.le_refl _) (Or.inl rfl)
end Go.Proofs.Ytpelipdecjooeaa.PermA
