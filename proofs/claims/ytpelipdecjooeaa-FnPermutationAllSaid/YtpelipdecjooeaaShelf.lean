/-
  DERIVED: THE SHELF's CONTRACTS AT THIS DUMP, IN PLAIN WORDS (tools/lay-plain.mjs out of 'YtpelipdecjooeaaShelf.lean', which tools/lay-shelf.mjs wrote): THE SAME DECLARATIONS UNDER THE SAME NAMES: 'import', 'namespace', 'open', 'def', 'theorem' AND NOTHING ELSE: no command of the shelf's: FOR A HAND-IN. Each laying: the table of numbers ('.._ren') and one theorem, a field a fact of the dump's own or the kernel's comparison; each contract: ONE APPLICATION.
-/
import Derived.Ground.GgtProg
import Derived.Shelf.GgSortMore.SortSort
import Derived.Test.YtpelipdecjooeaaProg
namespace Go.Proofs
open Go.Shelf
def Try.laysGt11_ren : Go.Shelf.Ren := ⟨fun | 11 => 21 | 17 => 22 | 18 => 23 | 31 => 24 | 32 => 25 | 33 => 26 | 34 => 27 | 35 => 28 | 36 => 29 | 37 => 30 | 38 => 31 | 39 => 32 | 40 => 33 | 43 => 34 | 44 => 35 | 45 => 36 | 46 => 37 | 47 => 38 | 50 => 39 | n => n, fun | 45 => 36 | 3 => 3 | 4 => 4 | 47 => 41 | 0 => 0 | 56 => 44 | 58 => 46 | 61 => 49 | 60 => 48 | 65 => 53 | 5 => 5 | 9 => 9 | 67 => 55 | 71 => 59 | 73 => 61 | 74 => 62 | 43 => 37 | 26 => 38 | 38 => 39 | n => n, fun | n => n⟩
theorem Try.laysGt11 : Go.Proofs.LaysGt.n11 Try.prog Try.laysGt11_ren := {
  mixed := by kernel_rfl
  f11 := Try.func21.trans (congrArg some (by kernel_rfl))
  f17 := Try.func22.trans (congrArg some (by kernel_rfl))
  f18 := Try.func23.trans (congrArg some (by kernel_rfl))
  f31 := Try.func24.trans (congrArg some (by kernel_rfl))
  f32 := Try.func25.trans (congrArg some (by kernel_rfl))
  f33 := Try.func26.trans (congrArg some (by kernel_rfl))
  f34 := Try.func27.trans (congrArg some (by kernel_rfl))
  f35 := Try.func28.trans (congrArg some (by kernel_rfl))
  f36 := Try.func29.trans (congrArg some (by kernel_rfl))
  f37 := Try.func30.trans (congrArg some (by kernel_rfl))
  f38 := Try.func31.trans (congrArg some (by kernel_rfl))
  f39 := Try.func32.trans (congrArg some (by kernel_rfl))
  f40 := Try.func33.trans (congrArg some (by kernel_rfl))
  f43 := Try.func34.trans (congrArg some (by kernel_rfl))
  f44 := Try.func35.trans (congrArg some (by kernel_rfl))
  f45 := Try.func36.trans (congrArg some (by kernel_rfl))
  f46 := Try.func37.trans (congrArg some (by kernel_rfl))
  f47 := Try.func38.trans (congrArg some (by kernel_rfl))
  f50 := Try.func39.trans (congrArg some (by kernel_rfl))
  t0 := Try.underlying0
  a0 := Try.isAgg0
  z0 := Try.sizeOf0
  v0 := Try.zeroValue0
  i0 := by kernel_rfl
  t3 := Try.underlying3
  a3 := Try.isAgg3
  z3 := Try.sizeOf3
  v3 := Try.zeroValue3
  i3 := by kernel_rfl
  t4 := Try.underlying4
  a4 := Try.isAgg4
  z4 := Try.sizeOf4
  v4 := Try.zeroValue4
  i4 := by kernel_rfl
  t5 := Try.underlying5
  a5 := Try.isAgg5
  z5 := Try.sizeOf5
  v5 := Try.zeroValue5
  i5 := by kernel_rfl
  t9 := Try.underlying9
  a9 := Try.isAgg9
  z9 := Try.sizeOf9
  v9 := Try.zeroValue9
  i9 := by kernel_rfl
  t26 := Try.underlying38
  a26 := Try.isAgg38
  z26 := Try.sizeOf38
  v26 := Try.zeroValue38
  i26 := by kernel_rfl
  t38 := Try.underlying39
  a38 := Try.isAgg39
  z38 := Try.sizeOf39
  v38 := Try.zeroValue39
  i38 := by kernel_rfl
  t43 := Try.underlying37
  a43 := Try.isAgg37
  z43 := Try.sizeOf37
  v43 := Try.zeroValue37
  i43 := by kernel_rfl
  t45 := Try.underlying36
  a45 := Try.isAgg36
  z45 := Try.sizeOf36
  v45 := Try.zeroValue36
  i45 := by kernel_rfl
  t47 := Try.underlying41
  a47 := Try.isAgg41
  z47 := Try.sizeOf41
  v47 := Try.zeroValue41
  i47 := by kernel_rfl
  t56 := Try.underlying44
  a56 := Try.isAgg44
  z56 := Try.sizeOf44
  v56 := Try.zeroValue44
  i56 := by kernel_rfl
  t58 := Try.underlying46
  a58 := Try.isAgg46
  z58 := Try.sizeOf46
  v58 := Try.zeroValue46
  i58 := by kernel_rfl
  t60 := Try.underlying48
  a60 := Try.isAgg48
  z60 := Try.sizeOf48
  v60 := Try.zeroValue48
  i60 := by kernel_rfl
  t61 := Try.underlying49
  a61 := Try.isAgg49
  z61 := Try.sizeOf49
  v61 := Try.zeroValue49
  i61 := by kernel_rfl
  t65 := Try.underlying53
  a65 := Try.isAgg53
  z65 := Try.sizeOf53
  v65 := Try.zeroValue53
  i65 := by kernel_rfl
  t67 := Try.underlying55
  a67 := Try.isAgg55
  z67 := Try.sizeOf55
  v67 := Try.zeroValue55
  i67 := by kernel_rfl
  t71 := Try.underlying59
  a71 := Try.isAgg59
  z71 := Try.sizeOf59
  v71 := Try.zeroValue59
  i71 := by kernel_rfl
  t73 := Try.underlying61
  a73 := Try.isAgg61
  z73 := Try.sizeOf61
  v73 := Try.zeroValue61
  i73 := by kernel_rfl
  t74 := Try.underlying62
  a74 := Try.isAgg62
  z74 := Try.sizeOf62
  v74 := Try.zeroValue62
  i74 := by kernel_rfl }
open Go.RowKit Go.Lib Go.Sort in
theorem Try.sort_Sort_tiny {α : Type} [Inhabited α] (T : TypeId) (rv : Value) (gn : Nat) (rN : Reaches Try.prog T rv "Len" gn) (n : Nat) (hn : n ≤ 1) (w : World) (hlen : LenM Try.prog gn rv n w) :
    Calls Try.prog 21 #[.iface T rv] w fun e w' => e = .returned (.tuple #[]) ∧ ∃ q, w' = w.drewN q := Any.sort_Sort_tiny Try.laysGt11 T rv gn rN n hn w hlen
open Go.RowKit Go.Lib Go.Sort in
/-- **sort.Sort: WHAT THE ROW HOLDS, TO THE ELEMENT.** (LAID: no walk: one application.) -/
theorem Try.sort_Sort_eq {α : Type} [Inhabited α] (T : TypeId) (rv : Value) (gn gl gs : Nat) (rN : Reaches Try.prog T rv "Len" gn) (rL : Reaches Try.prog T rv "Less" gl) (rS : Reaches Try.prog T rv "Swap" gs) (enc : α → Value) (lt : α → α → Bool) (hO : SWO lt) (blk off : Nat) (d : Array α) (h2 : 2 ≤ d.size) (hsz : d.size < 4611686018427387904) (w : World) (hlen : LenM Try.prog gn rv d.size w) (hless : LessM Try.prog gl rv enc lt blk off d.size w) (hswap : SwapM Try.prog gs rv enc blk off d.size) (hH : Holds enc w blk off d) (hblk : blk < w.heap.size) :
    Calls Try.prog 21 #[.iface T rv] w fun e w' => e = .returned (.tuple #[]) ∧ ∃ n os, w' = grow (putRow enc (Sort.ahead w n) blk off (pdq lt d 0 d.size (Lib.bitLen d.size) true true)) os := Any.sort_Sort_eq Try.laysGt11 T rv gn gl gs rN rL rS enc lt hO blk off d h2 hsz w hlen hless hswap hH hblk
open Go.RowKit Go.Lib Go.Sort in
/-- **sort.Sort, IN THE DOCUMENTATION's OWN TERMS ("Sort sorts data in ascending order as determined by the Less method. .. The sort is not guaranteed to be stable"): A PERMUTATION OF WHAT THE ROW HELD, SORTED BY 'lt'.** (LAID: no walk: one application.) -/
theorem Try.sort_Sort_sorted {α : Type} [Inhabited α] (T : TypeId) (rv : Value) (gn gl gs : Nat) (rN : Reaches Try.prog T rv "Len" gn) (rL : Reaches Try.prog T rv "Less" gl) (rS : Reaches Try.prog T rv "Swap" gs) (enc : α → Value) (lt : α → α → Bool) (hO : SWO lt) (blk off : Nat) (d : Array α) (h2 : 2 ≤ d.size) (hsz : d.size < 4611686018427387904) (w : World) (hlen : LenM Try.prog gn rv d.size w) (hless : LessM Try.prog gl rv enc lt blk off d.size w) (hswap : SwapM Try.prog gs rv enc blk off d.size) (hH : Holds enc w blk off d) (hblk : blk < w.heap.size) :
    Calls Try.prog 21 #[.iface T rv] w fun e w' => e = .returned (.tuple #[]) ∧ ∃ d' n os, PermIn 0 d.size d d' ∧ SortedIn lt 0 d.size d' ∧ w' = grow (putRow enc (Sort.ahead w n) blk off d') os := Any.sort_Sort_sorted Try.laysGt11 T rv gn gl gs rN rL rS enc lt hO blk off d h2 hsz w hlen hless hswap hH hblk
end Go.Proofs
