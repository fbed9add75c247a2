/- A list of the call's own, as the sort and PermutationNext see it, and as they leave it. -/
import Derived.Test.YtpelipdecjooeaaPermC
import Derived.Test.YtpelipdecjooeaaWMore
import Derived.Test.YtpelipdecjooeaaWRepsOne
namespace Go.Proofs.Ytpelipdecjooeaa.PermD
open Go Go.Proofs Go.Shelf Go.RowKit Go.Lib Go.Sort Go.Proofs.Ytpelipdecjooeaa.PermA Go.Proofs.Ytpelipdecjooeaa.PermB Go.Proofs.YtpelipdecjooeaaW.PrintWords Go.Proofs.YtpelipdecjooeaaW.PrintLast Go.Proofs.YtpelipdecjooeaaW.PrintMore
set_option linter.unusedVariables false
def firstL (l : List Int) : List Int := (sorted l.toArray).toList
def nextL (l : List Int) : List Int × Bool := ((nextA l.toArray).2.toList, (nextA l.toArray).1)

theorem get_at (xs : List Int) (j : Nat) (h : j < xs.length) : xs.toArray[j]! = xs[j] := by simp [h]
theorem holds_of {W : World} {base c g : Nat} {ok : Nat → Prop} {xs : List Int} (h : Kd.R (Kd.int .i64) 3 W base ok (.slice (some ⟨g, 0, none⟩) xs.length c) xs) : Holds enc W g 0 xs.toArray := by
  intro j hj
  have hj' : j < xs.length := by simpa using hj
  have hC := (Kd.R_reads' h).2.2
  obtain ⟨_, inner, ho, _⟩ := h
  obtain ⟨cells, hc⟩ := own_typed ho g rfl
  obtain ⟨ad, e, hcell⟩ := hC.2.2 (by omega)
  cases e
  obtain ⟨cs, _, hk, hu⟩ := hcell j xs[j] (List.getElem?_eq_getElem hj')
  have hk' : cs = [Value.int .i64 xs[j]] := hk
  have h1 := hu 0 (Value.int .i64 xs[j]) (by rw [hk']; rfl)
  rw [get_at xs j hj']
  refine ⟨?_, by simp [World.frozen?, hc]⟩
  have e : (⟨g, 0, none⟩ : Addr).add (j * (Kd.int .i64).sz + 0) = ⟨g, 0 + j, none⟩ := by
    simp [Addr.add, Kd.int, Kd.scalar]
    omega
  rw [← e]
  exact h1
theorem take_put (ys : List Int) (cur : Array Value) (hs : ys.length ≤ cur.size) : (putCells enc 0 ys.toArray cur).toList.take ys.length = ys.map enc := by
  apply List.ext_getElem?
  intro i
  rw [List.getElem?_take, List.getElem?_map]
  by_cases hi : i < ys.length
  · rw [if_pos hi, Array.getElem?_toList]
    unfold putCells
    rw [Array.getElem?_mapIdx]
    have hc : i < cur.size := by omega
    rw [Array.getElem?_eq_getElem hc, List.getElem?_eq_getElem hi]
    simp [hi]
  · rw [if_neg hi, List.getElem?_eq_none (by omega)]; rfl
theorem reps_map (R : Int → List Value → Prop) (hR : ∀ x, R x [enc x]) : ∀ ys : List Int, Reps R 1 ys (ys.map enc)
  | [] => Reps.none _ _
  | y :: ys => Reps.one (hR y) (reps_map R hR ys)
theorem heap_put (W : World) (m g : Nat) (d : Array Int) (os : Array Obj) (k : Nat) (hk : k < W.heap.size) : (grow (putRow enc (Sort.ahead W m) g 0 d) os).heap[k]? = (W.heap.modify g (onCells (putCells enc 0 d)))[k]? := by
  rw [heap_grow_old _ _ (by unfold putRow mapBlock Sort.ahead; simpa using hk)]
  rfl
theorem turned {W : World} {base c g : Nat} {ok : Nat → Prop} {xs ys : List Int} (h : Kd.R (Kd.int .i64) 3 W base ok (.slice (some ⟨g, 0, none⟩) xs.length c) xs) (hs : ys.length = xs.length) (m : Nat) (os : Array Obj) :
    Kd.R (Kd.int .i64) 3 (grow (putRow enc (Sort.ahead W m) g 0 ys.toArray) os) base ok (.slice (some ⟨g, 0, none⟩) xs.length c) ys := by
  obtain ⟨h0, inner, ⟨hl, hx⟩, hr⟩ := h
  refine ⟨h0, ys.map enc, ⟨by rw [List.length_map]; exact (Nat.mul_one _).symm, ?_⟩, reps_map ((Kd.int .i64).M _ base _) (fun x => rfl) ys⟩
  rcases hx with ⟨he, _⟩ | ⟨g', cap, cur, he, hb, hh, hn, hc, hsz, ht⟩
  · cases he
  · simp only [Value.slice.injEq, Option.some.injEq, Addr.mk.injEq, and_true, true_and] at he
    obtain ⟨rfl, rfl⟩ := he
    have hsz' : cur.size = c := by rw [hsz]; exact Nat.mul_one _
    have hg : g < W.heap.size := by
      rcases Nat.lt_or_ge g W.heap.size with hh2 | hh2
      · exact hh2
      · rw [Array.getElem?_eq_none hh2] at hh; cases hh
    refine .inr ⟨g, c, putCells enc 0 ys.toArray cur, by rw [hs], hb, ?_, by rw [hs]; exact hn, hc, ?_, ?_⟩
    · rw [heap_put W m g _ os g hg, Array.getElem?_modify, if_pos rfl, hh]; rfl
    · unfold putCells; rw [Array.size_mapIdx]; exact hsz
    · rw [show ys.length * (Kd.int .i64).sz = ys.length from Nat.mul_one _]
      exact take_put ys cur (by omega)
theorem below_turned {n g m : Nat} {w W : World} (h : Below n w W) (hg : n ≤ g) (hn : n ≤ W.heap.size) (d : Array Int) (os : Array Obj) : Below n w (grow (putRow enc (Sort.ahead W m) g 0 d) os) := by
  refine ⟨h.os, h.tape, h.output, ?_, fun k hk => ?_⟩
  · have := h.size
    rw [size_grow]
    have e : (putRow enc (Sort.ahead W m) g 0 d).heap.size = W.heap.size := by unfold putRow mapBlock Sort.ahead; simp
    omega
  · rw [heap_put W m g d os k (by omega), Array.getElem?_modify, if_neg (by omega), h.block k hk]
theorem len_first (l : List Int) : (firstL l).length = l.length := by
  have := (sorted_perm l.toArray).1.1
  unfold firstL
  simpa using this
theorem rv_size (f : Nat) : ∀ (i j : Nat) (d : Array Int), (rv f i j d).size = d.size := by
  induction f with
  | zero => intro i j d; rfl
  | succ f ih =>
    intro i j d
    unfold rv
    split
    · rw [ih, size_swp]
    · rfl
theorem next_size (d : Array Int) : (nextA d).2.size = d.size := by
  unfold nextA
  split
  · rfl
  · rw [rv_size, size_swp]
theorem len_next (l : List Int) : (nextL l).1.length = l.length := by
  have := next_size l.toArray
  unfold nextL
  simpa using this
theorem first_tiny {l : List Int} (h : ¬ 2 ≤ l.length) : firstL l = l := by
  unfold firstL sorted
  rw [if_pos (by simp; omega)]
theorem next_tiny {l : List Int} (h : ¬ 2 ≤ l.length) : nextL l = (l, false) := by
  have e : fk l.toArray (l.toArray.size - 1) = none := by
    rw [show l.toArray.size - 1 = 0 by simp; omega]
    rfl
  unfold nextL
  rw [nextA_none e]
theorem turned0 {W : World} {base c g : Nat} {ok : Nat → Prop} {xs ys : List Int} (h : Kd.R (Kd.int .i64) 3 W base ok (.slice (some ⟨g, 0, none⟩) xs.length c) xs) (hs : ys.length = xs.length) (m : Nat) :
    Kd.R (Kd.int .i64) 3 (putRow enc (Sort.ahead W m) g 0 ys.toArray) base ok (.slice (some ⟨g, 0, none⟩) xs.length c) ys := by
  have := turned h hs m #[]
  rw [grow_empty] at this
  exact this
theorem below_turned0 {n g m : Nat} {w W : World} (h : Below n w W) (hg : n ≤ g) (hn : n ≤ W.heap.size) (d : Array Int) : Below n w (putRow enc (Sort.ahead W m) g 0 d) := by
  have := below_turned (m := m) h hg hn d #[]
  rw [grow_empty] at this
  exact this
end Go.Proofs.Ytpelipdecjooeaa.PermD
