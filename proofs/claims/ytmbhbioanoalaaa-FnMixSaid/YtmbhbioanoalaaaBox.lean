/- A variable of one number in memory, and stores into it: what the other blocks keep. -/
import Derived.Below
namespace Go.Proofs.Ytmbhbioanoalaaa.Box
open Go Go.RowKit
variable {w W : World} {g n t : Nat} {z : Nat × Nat} {u v x y : Value}
theorem size_set (w : World) (p : Addr) (u : Value) : (w.setCell p u).heap.size = w.heap.size := by simp [World.setCell]
theorem box_set (h : w.heap[g]? = some (.cells #[v] t z)) (u : Value) : (w.setCell ⟨g, 0, none⟩ u).heap[g]? = some (.cells #[u] t z) := by
  simp [World.setCell, Array.getElem?_modify, h]
theorem box_cell (h : w.heap[g]? = some (.cells #[v] t z)) : w.cell? ⟨g, 0, none⟩ = some v := by simp [World.cell?, h]
theorem box_free (h : w.heap[g]? = some (.cells #[v] t (0, 0))) : w.frozen? ⟨g, 0, none⟩ = false := by simp [World.frozen?, h]
theorem box_lt (h : w.heap[g]? = some (.cells #[v] t z)) : g < w.heap.size := by
  rcases Nat.lt_or_ge g w.heap.size with hh | hh
  · exact hh
  · rw [Array.getElem?_eq_none hh] at h; cases h
theorem box_back (h : w.heap[g]? = some (.cells #[v] t z)) (n : Nat) : Below n (w.setCell ⟨g, 0, none⟩ v) w := by
  refine ⟨rfl, rfl, rfl, by rw [size_set]; exact Nat.le_refl _, fun k hk => ?_⟩
  by_cases e : k = g
  · subst e; rw [box_set h, h]
  · rw [Below.heap_setCell w _ _ k e]
theorem box_in (h : w.heap[g]? = some (.cells #[v] t z)) (hg : g < n) (hb : Below n (w.setCell ⟨g, 0, none⟩ x) W) : W.heap[g]? = some (.cells #[x] t z) := by
  rw [hb.block g hg, box_set h]
theorem box_store (h : w.heap[g]? = some (.cells #[v] t z)) (hg : g < n) (hb : Below n (w.setCell ⟨g, 0, none⟩ x) W) (y : Value) : Below n (w.setCell ⟨g, 0, none⟩ y) (W.setCell ⟨g, 0, none⟩ y) := by
  refine ⟨hb.os, hb.tape, hb.output, ?_, fun k hk => ?_⟩
  · have := hb.size
    rw [size_set] at this ⊢
    rw [size_set]; exact this
  · by_cases e : k = g
    · subst e; rw [box_set h, box_set (box_in h hg hb)]
    · rw [Below.heap_setCell W _ _ k e, hb.block k hk, Below.heap_setCell w _ _ k e, Below.heap_setCell w _ _ k e]
theorem alloc_size (w : World) (o : Obj) : (w.alloc o).heap.size = w.heap.size + 1 := Array.size_push ..
theorem alloc_lt (w : World) (o : Obj) : w.heap.size < (w.alloc o).heap.size := by rw [alloc_size]; omega
theorem alloc_at (w : World) (o : Obj) : (w.alloc o).heap[w.heap.size]? = some o := Array.getElem?_push_size ..
theorem past {o : Obj} {k : Nat} (h : (w.alloc o).heap.size ≤ k) : k ≠ w.heap.size := by rw [alloc_size] at h; omega
theorem sz {p : Addr} (h : Below n (w.setCell p u) W) : w.heap.size ≤ W.heap.size := by have := h.size; rw [size_set] at this; exact this
theorem st {p : Addr} {W2 : World} (h : Below w.heap.size (w.setCell p u) W) (k : Below W.heap.size W W2) : Below w.heap.size (w.setCell p u) W2 := h.trans (k.mono (sz h))
theorem al {p : Addr} (h : Below w.heap.size (w.setCell p u) W) (o : Obj) : Below w.heap.size (w.setCell p u) (W.alloc o) := h.alloc (sz h) o
end Go.Proofs.Ytmbhbioanoalaaa.Box
