/-
  DERIVED: THE SHELF's CONTRACTS AT THIS DUMP, IN PLAIN WORDS (tools/lay-plain.mjs out of 'Qxb6614303aShelfX.lean', which tools/lay-shelf.mjs wrote): THE SAME DECLARATIONS UNDER THE SAME NAMES: 'import', 'namespace', 'open', 'def', 'theorem' AND NOTHING ELSE: no command of the shelf's: FOR A HAND-IN. Each laying: the table of numbers ('.._ren') and one theorem, a field a fact of the dump's own or the kernel's comparison; each contract: ONE APPLICATION.
-/
import Derived.Ground.SlgnProg
import Derived.Shelf.SlicesG.Turned
import Derived.Shelf.SlicesG.Clone
import Derived.Shelf.SlicesG.CompactI
import Derived.Shelf.SlicesG.SearchI
import Derived.Ground.SlgmProg
import Derived.Shelf.SortM.Plain
import Derived.Shelf.SortM.SortNone
import Derived.Test.Qxb6614303aProg
namespace Go.Proofs.Qxb6614303a
open Go.Shelf
def Try.laysSlN37_f29_ren : Go.Shelf.Ren := ⟨fun | 37 => 29 | n => n, fun | 22 => 22 | 23 => 2 | 3 => 3 | 4 => 4 | 9 => 9 | 20 => 20 | 0 => 0 | n => n, fun | n => n⟩
theorem Try.laysSlN37_f29 : Go.Proofs.SlLaysN.n37 Try.prog Try.laysSlN37_f29_ren := {
  mixed := by kernel_rfl
  f37 := ⟨Try.f29.name, by decide, Try.func29.trans (congrArg some (by kernel_rfl))⟩
  t0 := Try.underlying0
  a0 := Try.isAgg0
  z0 := Try.sizeOf0
  v0 := Try.zeroValue0
  t3 := Try.underlying3
  a3 := Try.isAgg3
  z3 := Try.sizeOf3
  v3 := Try.zeroValue3
  t4 := Try.underlying4
  a4 := Try.isAgg4
  z4 := Try.sizeOf4
  v4 := Try.zeroValue4
  t9 := Try.underlying9
  a9 := Try.isAgg9
  z9 := Try.sizeOf9
  v9 := Try.zeroValue9
  t20 := Try.underlying20
  a20 := Try.isAgg20
  z20 := Try.sizeOf20
  v20 := Try.zeroValue20
  t22 := Try.underlying22
  a22 := Try.isAgg22
  z22 := Try.sizeOf22
  v22 := Try.zeroValue22
  t23 := Try.underlying2
  a23 := Try.isAgg2
  z23 := Try.sizeOf2
  v23 := Try.zeroValue2 }
open Go.Lib in
/-- slices.Max at []int: "Max returns the maximal value in x. It panics if x is empty.": OF A SLICE THAT IS NOT EMPTY IT RETURNS 'Lib.maxOf (the elements)'; the world is as it was. (Of an empty one it panics: no contract here.) (LAID AT THE INSTANCE 'slices.Max[[]int64,int64]': no walk: one application.) -/
theorem Try.slices_Max_int (b off n c : Nat) (zs : List Int) (w : World) (hn : 0 < n) (hz : n ≤ zs.length) (hbig : n ≤ 9223372036854775807) (hc : ∀ j, j < zs.length → w.cell? ⟨b, off + j, none⟩ = some (.int .i64 (zs.getD j 0))) :
    Calls Try.prog 29 #[.slice (some ⟨b, off, none⟩) n c] w fun e w' => e = .returned (.int .i64 (Lib.maxOf (zs.take n))) ∧ w' = w := AnyG.slices_Max_int Try.laysSlN37_f29 b off n c zs w hn hz hbig hc
def Try.laysSlN41_f24_ren : Go.Shelf.Ren := ⟨fun | 41 => 24 | n => n, fun | 22 => 22 | 23 => 2 | 4 => 4 | n => n, fun | n => n⟩
theorem Try.laysSlN41_f24 : Go.Proofs.SlLaysN.n41 Try.prog Try.laysSlN41_f24_ren := {
  mixed := by kernel_rfl
  f41 := ⟨Try.f24.name, by decide, Try.func24.trans (congrArg some (by kernel_rfl))⟩
  t4 := Try.underlying4
  a4 := Try.isAgg4
  z4 := Try.sizeOf4
  v4 := Try.zeroValue4
  t22 := Try.underlying22
  a22 := Try.isAgg22
  z22 := Try.sizeOf22
  v22 := Try.zeroValue22
  t23 := Try.underlying2
  a23 := Try.isAgg2
  z23 := Try.sizeOf2
  v23 := Try.zeroValue2
  i23 := by kernel_rfl }
open Go.RowKit Go.Lib in
/-- slices.Clone at []int: "Clone returns a copy of the slice. The elements are copied using assignment, so this is a shallow clone. The result may have additional unused capacity. The result preserves the nilness of s.": OF A SLICE THAT IS NOT nil IT RETURNS A SLICE THAT IS NOT nil, OF THE SAME ELEMENTS, IN MEMORY OF THE CALL's OWN: in the how-to's words (6f): 'w'.ownsRow B e 1 v' n cells': v' begins at the head of a row among the blocks from B on (B: the heap's size at the call), not frozen, whose first cells are the elements · 'Below B w w'': below B all is as it was. The capacity is whatever the run-time gives. 'zs': what the cells behind the slice's address hold; 'zs.take n': its elements. (LAID AT THE INSTANCE 'slices.Clone[[]int64,int64]': no walk: one application.) -/
theorem Try.slices_Clone_int (b off n c : Nat) (zs : List Int) (w : World) (hz : n ≤ zs.length) (hbig : n * 8 ≤ 140737488355328) (hc : ∀ j, j < zs.length → w.cell? ⟨b, off + j, none⟩ = some (.int .i64 (zs.getD j 0))) :
    Calls Try.prog 24 #[.slice (some ⟨b, off, none⟩) n c] w fun e w' => ∃ v', e = .returned v' ∧ w'.ownsRow w.heap.size 2 1 v' n ((zs.take n).map (Value.int .i64)) ∧ v' ≠ .slice none 0 0 ∧ Below w.heap.size w w' := AnyG.slices_Clone_int Try.laysSlN41_f24 b off n c zs w hz hbig hc
open Go.RowKit Go.Lib in
/-- The same at nil: nil comes back; the world is as it was. (LAID AT THE INSTANCE 'slices.Clone[[]int64,int64]': no walk: one application.) -/
theorem Try.slices_Clone_int_nil (n c : Nat) (w : World) :
    Calls Try.prog 24 #[.slice none n c] w fun e w' => e = .returned (.slice none 0 0) ∧ w' = w := AnyG.slices_Clone_int_nil Try.laysSlN41_f24 n c w
open Go.RowKit Go.Lib in
/-- The same at a slice of length 0 that is not nil, WHATEVER ITS ADDRESS (no cell is asked for): a slice that is not nil and owns nothing comes back. (LAID AT THE INSTANCE 'slices.Clone[[]int64,int64]': no walk: one application.) -/
theorem Try.slices_Clone_int_zero (a : Addr) (c : Nat) (w : World) :
    Calls Try.prog 24 #[.slice (some a) 0 c] w fun e w' => ∃ v', e = .returned v' ∧ w'.ownsRow w.heap.size 2 1 v' 0 [] ∧ v' ≠ .slice none 0 0 ∧ Below w.heap.size w w' := AnyG.slices_Clone_int_zero Try.laysSlN41_f24 a c w
def Try.laysSlN43_f39_ren : Go.Shelf.Ren := ⟨fun | 43 => 39 | n => n, fun | 22 => 22 | 23 => 2 | 3 => 3 | 4 => 4 | 0 => 0 | n => n, fun | n => n⟩
theorem Try.laysSlN43_f39 : Go.Proofs.SlLaysN.n43 Try.prog Try.laysSlN43_f39_ren := {
  mixed := by kernel_rfl
  f43 := ⟨Try.f39.name, by decide, Try.func39.trans (congrArg some (by kernel_rfl))⟩
  t0 := Try.underlying0
  a0 := Try.isAgg0
  z0 := Try.sizeOf0
  v0 := Try.zeroValue0
  t3 := Try.underlying3
  a3 := Try.isAgg3
  z3 := Try.sizeOf3
  v3 := Try.zeroValue3
  t4 := Try.underlying4
  a4 := Try.isAgg4
  z4 := Try.sizeOf4
  v4 := Try.zeroValue4
  t22 := Try.underlying22
  a22 := Try.isAgg22
  z22 := Try.sizeOf22
  v22 := Try.zeroValue22
  t23 := Try.underlying2
  a23 := Try.isAgg2
  z23 := Try.sizeOf2
  v23 := Try.zeroValue2
  i23 := by kernel_rfl }
open Go.RowKit Go.Lib Go.Sort in
/-- slices.Compact at []int, over an array: the library's two loops are walked. (LAID AT THE INSTANCE 'slices.Compact[[]int64,int64]': no walk: one application.) -/
theorem Try.slices_Compact_int_arr (blk off cap : Nat) (d : Array Int) (w : World) (hH : Holds encI w blk off d) (hsz : d.size ≤ 9223372036854775807) (hcap : d.size ≤ cap) :
    Calls Try.prog 39 #[.slice (some ⟨blk, off, none⟩) d.size cap] w fun e w' => e = .returned (.slice (some ⟨blk, off, none⟩) (compactUpTo d d.size).length cap) ∧ ∃ q, w' = putRow encI (Sort.ahead w q) blk off (compactUpTo d d.size ++ List.replicate (d.size - (compactUpTo d d.size).length) 0).toArray := AnyG.slices_Compact_int_arr Try.laysSlN43_f39 blk off cap d w hH hsz hcap
open Go.RowKit Go.Lib Go.Sort in
/-- slices.Compact at []int: "Compact replaces consecutive runs of equal elements with a single copy. This is like the uniq command found on Unix. Compact modifies the contents of the slice s and returns the modified slice, which may have a smaller length. Compact zeroes the elements between the new length and the original length. The result preserves the nilness of s.": IT RETURNS THE SLICE CUT TO 'Lib.compact zs'; ITS CELLS HOLD 'Lib.compact zs', THEN ZERO VALUES up to the old length; all else is as it was, but for the count of draws. IN THE WORDS OF slices.Sort's CONTRACT ('Holds', 'putRow'): so the everyday 'slices.Sort(xs); xs = slices.Compact(xs)' goes from the one contract to the other. It asks 'zs.length ≤ cap' (every slice's: the reslicing 's[:k]' looks at it). Length 0, nil: '.._empty'. (LAID AT THE INSTANCE 'slices.Compact[[]int64,int64]': no walk: one application.) -/
theorem Try.slices_Compact_int (blk off cap : Nat) (zs : List Int) (w : World) (hH : Holds (Value.int .i64) w blk off zs.toArray) (hsz : zs.length ≤ 9223372036854775807) (hcap : zs.length ≤ cap) :
    Calls Try.prog 39 #[.slice (some ⟨blk, off, none⟩) zs.length cap] w fun e w' => e = .returned (.slice (some ⟨blk, off, none⟩) (Lib.compact zs).length cap) ∧ ∃ q, w' = putRow (Value.int .i64) (Sort.ahead w q) blk off (Lib.compact zs ++ List.replicate (zs.length - (Lib.compact zs).length) 0).toArray := AnyG.slices_Compact_int Try.laysSlN43_f39 blk off cap zs w hH hsz hcap
open Go.RowKit Go.Lib Go.Sort in
/-- The same at a slice of length 0, a nil one too: it comes back as it is. (LAID AT THE INSTANCE 'slices.Compact[[]int64,int64]': no walk: one application.) -/
theorem Try.slices_Compact_int_empty (a : Option Addr) (cap : Nat) (w : World) :
    Calls Try.prog 39 #[.slice a 0 cap] w fun e w' => e = .returned (.slice a 0 cap) ∧ w' = w := AnyG.slices_Compact_int_empty Try.laysSlN43_f39 a cap w
def Try.laysSlN68_f59_ren : Go.Shelf.Ren := ⟨fun | 68 => 59 | n => n, fun | 23 => 3 | 4 => 4 | n => n, fun | n => n⟩
theorem Try.laysSlN68_f59 : Go.Proofs.SlLaysN.n68 Try.prog Try.laysSlN68_f59_ren := {
  mixed := by kernel_rfl
  f68 := ⟨Try.f59.name, by decide, Try.func59.trans (congrArg some (by kernel_rfl))⟩
  t4 := Try.underlying4
  a4 := Try.isAgg4
  z4 := Try.sizeOf4
  v4 := Try.zeroValue4
  t23 := Try.underlying3
  a23 := Try.isAgg3
  z23 := Try.sizeOf3
  v23 := Try.zeroValue3 }
open Go.RowKit Go.Lib in
/-- cmp.isNaN[int]: 'x != x': false. (LAID AT THE INSTANCE 'cmp.isNaN[int]': no walk: one application.) -/
theorem Try.cmp_isNaN_int2_f59 (x : Int) (w : World) :
    Calls Try.prog 59 #[.int .i64 x] w fun e w' => e = .returned (.bool false) ∧ w' = w := AnyG.cmp_isNaN_int2 Try.laysSlN68_f59 x w
def Try.laysSlN68_f84_ren : Go.Shelf.Ren := ⟨fun | 68 => 84 | n => n, fun | 23 => 2 | 4 => 4 | n => n, fun | n => n⟩
theorem Try.laysSlN68_f84 : Go.Proofs.SlLaysN.n68 Try.prog Try.laysSlN68_f84_ren := {
  mixed := by kernel_rfl
  f68 := ⟨Try.f84.name, by decide, Try.func84.trans (congrArg some (by kernel_rfl))⟩
  t4 := Try.underlying4
  a4 := Try.isAgg4
  z4 := Try.sizeOf4
  v4 := Try.zeroValue4
  t23 := Try.underlying2
  a23 := Try.isAgg2
  z23 := Try.sizeOf2
  v23 := Try.zeroValue2 }
open Go.RowKit Go.Lib in
/-- cmp.isNaN[int]: 'x != x': false. (LAID AT THE INSTANCE 'cmp.isNaN[int64]': no walk: one application.) -/
theorem Try.cmp_isNaN_int2_f84 (x : Int) (w : World) :
    Calls Try.prog 84 #[.int .i64 x] w fun e w' => e = .returned (.bool false) ∧ w' = w := AnyG.cmp_isNaN_int2 Try.laysSlN68_f84 x w
def Try.laysSlN60_f62_ren : Go.Shelf.Ren := ⟨fun | 60 => 62 | n => n, fun | 23 => 2 | 4 => 4 | n => n, fun | n => n⟩
theorem Try.laysSlN60_f62 : Go.Proofs.SlLaysN.n60 Try.prog Try.laysSlN60_f62_ren := {
  mixed := by kernel_rfl
  f60 := ⟨Try.f62.name, by decide, Try.func62.trans (congrArg some (by kernel_rfl))⟩
  t4 := Try.underlying4
  a4 := Try.isAgg4
  z4 := Try.sizeOf4
  v4 := Try.zeroValue4
  t23 := Try.underlying2
  a23 := Try.isAgg2
  z23 := Try.sizeOf2
  v23 := Try.zeroValue2 }
open Go.RowKit Go.Lib in
/-- slices.isNaN[int]: 'x != x': false. (LAID AT THE INSTANCE 'slices.isNaN[int64]': no walk: one application.) -/
theorem Try.slices_isNaN_int2 (x : Int) (w : World) :
    Calls Try.prog 62 #[.int .i64 x] w fun e w' => e = .returned (.bool false) ∧ w' = w := AnyG.slices_isNaN_int2 Try.laysSlN60_f62 x w
def Try.laysSlN59_f61_ren : Go.Shelf.Ren := ⟨fun | 59 => 61 | 68 => 84 | n => n, fun | 23 => 2 | 4 => 4 | n => n, fun | n => n⟩
theorem Try.laysSlN59_f61 : Go.Proofs.SlLaysN.n59 Try.prog Try.laysSlN59_f61_ren := {
  mixed := by kernel_rfl
  f59 := ⟨Try.f61.name, by decide, Try.func61.trans (congrArg some (by kernel_rfl))⟩
  f68 := ⟨Try.f84.name, by decide, Try.func84.trans (congrArg some (by kernel_rfl))⟩
  t4 := Try.underlying4
  a4 := Try.isAgg4
  z4 := Try.sizeOf4
  v4 := Try.zeroValue4
  t23 := Try.underlying2
  a23 := Try.isAgg2
  z23 := Try.sizeOf2
  v23 := Try.zeroValue2 }
open Go.RowKit Go.Lib in
/-- cmp.Less[int]: "Less reports whether x is less than y.": 'x < y'; the world is as it was. (LAID AT THE INSTANCE 'cmp.Less[int64]': no walk: one application.) -/
theorem Try.cmp_Less_int2 (x y : Int) (w : World) :
    Calls Try.prog 61 #[.int .i64 x, .int .i64 y] w fun e w' => e = .returned (.bool (decide (x < y))) ∧ w' = w := AnyG.cmp_Less_int2 Try.laysSlN59_f61 x y w
def Try.laysSlN49_f40_ren : Go.Shelf.Ren := ⟨fun | 49 => 40 | 59 => 61 | 60 => 62 | 68 => 84 | n => n, fun | 22 => 22 | 23 => 2 | 3 => 3 | 4 => 4 | 51 => 106 | 0 => 0 | n => n, fun | n => n⟩
theorem Try.laysSlN49_f40 : Go.Proofs.SlLaysN.n49 Try.prog Try.laysSlN49_f40_ren := {
  mixed := by kernel_rfl
  f49 := ⟨Try.f40.name, by decide, Try.func40.trans (congrArg some (by kernel_rfl))⟩
  f59 := ⟨Try.f61.name, by decide, Try.func61.trans (congrArg some (by kernel_rfl))⟩
  f60 := ⟨Try.f62.name, by decide, Try.func62.trans (congrArg some (by kernel_rfl))⟩
  f68 := ⟨Try.f84.name, by decide, Try.func84.trans (congrArg some (by kernel_rfl))⟩
  t0 := Try.underlying0
  a0 := Try.isAgg0
  z0 := Try.sizeOf0
  v0 := Try.zeroValue0
  t3 := Try.underlying3
  a3 := Try.isAgg3
  z3 := Try.sizeOf3
  v3 := Try.zeroValue3
  t4 := Try.underlying4
  a4 := Try.isAgg4
  z4 := Try.sizeOf4
  v4 := Try.zeroValue4
  t22 := Try.underlying22
  a22 := Try.isAgg22
  z22 := Try.sizeOf22
  v22 := Try.zeroValue22
  t23 := Try.underlying2
  a23 := Try.isAgg2
  z23 := Try.sizeOf2
  v23 := Try.zeroValue2
  t51 := Try.underlying106
  a51 := Try.isAgg106
  z51 := Try.sizeOf106
  v51 := Try.zeroValue106 }
open Go.RowKit Go.Lib in
/-- slices.BinarySearch at []int: "BinarySearch searches for target in a sorted slice and returns the earliest position where target is found, or the position where target would appear in the sort order; it also returns a bool saying whether the target is really found in the slice. The slice must be sorted in increasing order.": OF A SORTED SLICE IT RETURNS how many elements are less than the target, and whether the target is among the elements; the world is as it was but for the count of draws. 'zs': what the cells behind the slice's address hold; 'zs.take n': its elements. (Of a slice that is not sorted: no contract here.) (LAID AT THE INSTANCE 'slices.BinarySearch[[]int64,int64]': no walk: one application.) -/
theorem Try.slices_BinarySearch_int (b off n c : Nat) (zs : List Int) (x : Int) (w : World) (hz : n ≤ zs.length) (hbig : n < 4611686018427387904) (hc : ∀ j, j < zs.length → w.cell? ⟨b, off + j, none⟩ = some (.int .i64 (zs.getD j 0))) (hs : (zs.take n).Pairwise (· ≤ ·)) :
    Calls Try.prog 40 #[.slice (some ⟨b, off, none⟩) n c, .int .i64 x] w fun e w' => e = .returned (.tuple #[.int .i64 ((zs.take n).countP (· < x) : Nat), .bool ((zs.take n).contains x)]) ∧ ∃ q, w' = w.drewN q := AnyG.slices_BinarySearch_int Try.laysSlN49_f40 b off n c zs x w hz hbig hc hs
def Try.laysSlM5_f38_ren : Go.Shelf.Ren := ⟨fun | 5 => 38 | 8 => 58 | 7 => 60 | 19 => 74 | 20 => 75 | 10 => 76 | 11 => 77 | 12 => 78 | 13 => 79 | 14 => 80 | 15 => 81 | 16 => 61 | 17 => 82 | 18 => 83 | 30 => 92 | 31 => 88 | 32 => 89 | 33 => 93 | 34 => 94 | 35 => 84 | 40 => 99 | n => n, fun | 23 => 22 | 25 => 2 | 3 => 3 | 32 => 106 | 22 => 22 | 0 => 0 | 44 => 131 | 46 => 45 | 4 => 4 | 36 => 125 | 35 => 124 | 41 => 81 | 5 => 5 | 9 => 9 | 53 => 138 | 57 => 121 | 63 => 149 | 64 => 150 | n => n, fun | n => n⟩
theorem Try.laysSlM5_f38 : Go.Proofs.SlLaysM.n5 Try.prog Try.laysSlM5_f38_ren := {
  mixed := by kernel_rfl
  f5 := ⟨Try.f38.name, by decide, Try.func38.trans (congrArg some (by kernel_rfl))⟩
  f7 := ⟨Try.f60.name, by decide, Try.func60.trans (congrArg some (by kernel_rfl))⟩
  f8 := Try.func58.trans (congrArg some (by kernel_rfl))
  f10 := ⟨Try.f76.name, by decide, Try.func76.trans (congrArg some (by kernel_rfl))⟩
  f11 := ⟨Try.f77.name, by decide, Try.func77.trans (congrArg some (by kernel_rfl))⟩
  f12 := ⟨Try.f78.name, by decide, Try.func78.trans (congrArg some (by kernel_rfl))⟩
  f13 := ⟨Try.f79.name, by decide, Try.func79.trans (congrArg some (by kernel_rfl))⟩
  f14 := ⟨Try.f80.name, by decide, Try.func80.trans (congrArg some (by kernel_rfl))⟩
  f15 := ⟨Try.f81.name, by decide, Try.func81.trans (congrArg some (by kernel_rfl))⟩
  f16 := ⟨Try.f61.name, by decide, Try.func61.trans (congrArg some (by kernel_rfl))⟩
  f17 := ⟨Try.f82.name, by decide, Try.func82.trans (congrArg some (by kernel_rfl))⟩
  f18 := ⟨Try.f83.name, by decide, Try.func83.trans (congrArg some (by kernel_rfl))⟩
  f19 := Try.func74.trans (congrArg some (by kernel_rfl))
  f20 := Try.func75.trans (congrArg some (by kernel_rfl))
  f30 := ⟨Try.f92.name, by decide, Try.func92.trans (congrArg some (by kernel_rfl))⟩
  f31 := Try.func88.trans (congrArg some (by kernel_rfl))
  f32 := Try.func89.trans (congrArg some (by kernel_rfl))
  f33 := ⟨Try.f93.name, by decide, Try.func93.trans (congrArg some (by kernel_rfl))⟩
  f34 := ⟨Try.f94.name, by decide, Try.func94.trans (congrArg some (by kernel_rfl))⟩
  f35 := ⟨Try.f84.name, by decide, Try.func84.trans (congrArg some (by kernel_rfl))⟩
  f40 := ⟨Try.f99.name, by decide, Try.func99.trans (congrArg some (by kernel_rfl))⟩
  t0 := Try.underlying0
  a0 := Try.isAgg0
  z0 := Try.sizeOf0
  v0 := Try.zeroValue0
  t3 := Try.underlying3
  a3 := Try.isAgg3
  z3 := Try.sizeOf3
  v3 := Try.zeroValue3
  t4 := Try.underlying4
  a4 := Try.isAgg4
  z4 := Try.sizeOf4
  v4 := Try.zeroValue4
  t5 := Try.underlying5
  a5 := Try.isAgg5
  z5 := Try.sizeOf5
  v5 := Try.zeroValue5
  t9 := Try.underlying9
  a9 := Try.isAgg9
  z9 := Try.sizeOf9
  v9 := Try.zeroValue9
  t22 := Try.underlying22
  a22 := Try.isAgg22
  z22 := Try.sizeOf22
  v22 := Try.zeroValue22
  t23 := Try.underlying22
  a23 := Try.isAgg22
  z23 := Try.sizeOf22
  v23 := Try.zeroValue22
  t25 := Try.underlying2
  a25 := Try.isAgg2
  z25 := Try.sizeOf2
  v25 := Try.zeroValue2
  t32 := Try.underlying106
  a32 := Try.isAgg106
  z32 := Try.sizeOf106
  v32 := Try.zeroValue106
  t35 := Try.underlying124
  a35 := Try.isAgg124
  z35 := Try.sizeOf124
  v35 := Try.zeroValue124
  t36 := Try.underlying125
  a36 := Try.isAgg125
  z36 := Try.sizeOf125
  v36 := Try.zeroValue125
  t41 := Try.underlying81
  a41 := Try.isAgg81
  z41 := Try.sizeOf81
  v41 := Try.zeroValue81
  t44 := Try.underlying131
  a44 := Try.isAgg131
  z44 := Try.sizeOf131
  v44 := Try.zeroValue131
  t46 := Try.underlying45
  a46 := Try.isAgg45
  z46 := Try.sizeOf45
  v46 := Try.zeroValue45
  t53 := Try.underlying138
  a53 := Try.isAgg138
  z53 := Try.sizeOf138
  v53 := Try.zeroValue138
  t57 := Try.underlying121
  a57 := Try.isAgg121
  z57 := Try.sizeOf121
  v57 := Try.zeroValue121
  t63 := Try.underlying149
  a63 := Try.isAgg149
  z63 := Try.sizeOf149
  v63 := Try.zeroValue149
  t64 := Try.underlying150
  a64 := Try.isAgg150
  z64 := Try.sizeOf150
  v64 := Try.zeroValue150 }
open Go.Sort Go.RowKit in
theorem Try.slices_Sort_int (blk off cap : Nat) (zs : List Int) (w : World) (hH : Holds (Value.int .i64) w blk off zs.toArray) (hblk : blk < w.heap.size) (hsz : zs.length < 4611686018427387904) :
    Calls Try.prog 38 #[.slice (some ⟨blk, off, none⟩) zs.length cap] w fun e w' =>
      e = .returned (.tuple #[]) ∧ ∃ n os, w' = grow (putRow (Value.int .i64) (Sort.ahead w n) blk off (zs.mergeSort fun x y => decide (x ≤ y)).toArray) os := AnyM.slices_Sort_int Try.laysSlM5_f38 blk off cap zs w hH hblk hsz
open Go.RowKit Go.Sort in
/-- .. and plain. (LAID AT THE INSTANCE 'slices.Sort[[]int64,int64]': no walk: one application.) -/
theorem Try.slices_Sort_int_none (p : Option Addr) (cap : Nat) (w : World) :
    Calls Try.prog 38 #[.slice p 0 cap] w fun e w' => e = .returned (.tuple #[]) ∧ w' = w := AnyM.slices_Sort_int_none Try.laysSlM5_f38 p cap w
end Go.Proofs.Qxb6614303a
