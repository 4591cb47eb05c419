/-
  DERIVED: THE SHELF's CONTRACTS AT THIS DUMP, IN PLAIN WORDS (tools/lay-plain.mjs out of 'YbaShelf.lean', which tools/lay-shelf.mjs wrote): THE SAME DECLARATIONS UNDER THE SAME NAMES: 'import', 'namespace', 'open', 'def', 'theorem' AND NOTHING ELSE: no command of the shelf's: FOR A HAND-IN. Each laying: the table of numbers ('.._ren') and one theorem, a field a fact of the dump's own or the kernel's comparison; each contract: ONE APPLICATION.
-/
import Derived.Shelf.Small.Wraps
import Derived.Shelf.Slices.Equal
import Derived.Ground.Names2Prog
import Derived.Shelf.Slices.SearchI
import Derived.Shelf.Slices.Delete
import Derived.Shelf.Slices.Cells
import Derived.Shelf.Slices.Empties
import Derived.Shelf.Slices.Empties2
import Derived.Test.YbulkatswProg
namespace Go.Proofs
open Go.Shelf
def Yba.lays215_ren : Go.Shelf.Ren := ⟨fun | 215 => 25 | n => n, fun | 3 => 3 | 4 => 4 | n => n, fun | n => n⟩
theorem Yba.lays215 : Go.Proofs.Lays.n215 Yba.prog Yba.lays215_ren := {
  mixed := by kernel_rfl
  f215 := Yba.func25.trans (congrArg some (by kernel_rfl))
  t3 := Yba.underlying3
  a3 := Yba.isAgg3
  z3 := Yba.sizeOf3
  v3 := Yba.zeroValue3
  t4 := Yba.underlying4
  a4 := Yba.isAgg4
  z4 := Yba.sizeOf4
  v4 := Yba.zeroValue4 }
open Go.RowKit in
/-- cmp.isNaN at int: 'x != x': false. (LAID: no walk: one application.) -/
theorem Yba.cmp_isNaN_int (x : Int) (w : World) :
    Calls Yba.prog 25 #[.int .i64 x] w fun e w' => e = .returned (.bool false) ∧ w' = w := Any.cmp_isNaN_int Yba.lays215 x w
def Yba.lays111_ren : Go.Shelf.Ren := ⟨fun | 111 => 16 | n => n, fun | 28 => 38 | 3 => 3 | 4 => 4 | 0 => 0 | n => n, fun | n => n⟩
theorem Yba.lays111 : Go.Proofs.Lays.n111 Yba.prog Yba.lays111_ren := {
  mixed := by kernel_rfl
  f111 := Yba.func16.trans (congrArg some (by kernel_rfl))
  t0 := Yba.underlying0
  a0 := Yba.isAgg0
  z0 := Yba.sizeOf0
  v0 := Yba.zeroValue0
  t3 := Yba.underlying3
  a3 := Yba.isAgg3
  z3 := Yba.sizeOf3
  v3 := Yba.zeroValue3
  t4 := Yba.underlying4
  a4 := Yba.isAgg4
  z4 := Yba.sizeOf4
  v4 := Yba.zeroValue4
  t28 := Yba.underlying38
  a28 := Yba.isAgg38
  z28 := Yba.sizeOf38
  v28 := Yba.zeroValue38 }
open Go.RowKit Go.Lib in
/-- slices.Equal at []int: "Equal reports whether two slices are equal: the same length and all elements equal. If the lengths are different, Equal returns false. Otherwise, the elements are compared in increasing index order, and the comparison stops at the first unequal pair. Empty and nil slices are considered equal.": IT RETURNS WHETHER THE TWO LISTS OF ELEMENTS ARE ONE; the world is as it was but for the count of draws (the test 's1[i] != s2[i]' has two reads, whose order the model draws, once a round). 'xs', 'ys': what the cells behind the two addresses hold (the spare capacity too, if you have it); 'xs.take n', 'ys.take m': the elements. THE TWO SLICES MAY OVERLAP. (LAID: no walk: one application.) -/
theorem Yba.slices_Equal_int (b1 o1 n c b2 o2 m d : Nat) (xs ys : List Int) (w : World) (hx : n ≤ xs.length) (hy : m ≤ ys.length) (hbig : n ≤ 9223372036854775807) (hbig2 : m ≤ 9223372036854775807) (hc1 : ∀ j, j < xs.length → w.cell? ⟨b1, o1 + j, none⟩ = some (.int .i64 (xs.getD j 0))) (hc2 : ∀ j, j < ys.length → w.cell? ⟨b2, o2 + j, none⟩ = some (.int .i64 (ys.getD j 0))) :
    Calls Yba.prog 16 #[.slice (some ⟨b1, o1, none⟩) n c, .slice (some ⟨b2, o2, none⟩) m d] w fun e w' => e = .returned (.bool (xs.take n == ys.take m)) ∧ ∃ q, w' = w.drewN q := Any.slices_Equal_int Yba.lays111 b1 o1 n c b2 o2 m d xs ys w hx hy hbig hbig2 hc1 hc2
open Go.RowKit Go.Lib in
/-- The same where the first is of length 0 (a nil one too): no cell is asked for. (LAID: no walk: one application.) -/
theorem Yba.slices_Equal_int_empty (a1 a2 : Option Addr) (c m d : Nat) (w : World) (hbig2 : m ≤ 9223372036854775807) :
    Calls Yba.prog 16 #[.slice a1 0 c, .slice a2 m d] w fun e w' => e = .returned (.bool (decide (m = 0))) ∧ w' = w := Any.slices_Equal_int_empty Yba.lays111 a1 a2 c m d w hbig2
def Yba.laysNm237_ren : Go.Shelf.Ren := ⟨fun | 37 => 25 | n => n, fun | 3 => 3 | 4 => 4 | n => n, fun | n => n⟩
theorem Yba.laysNm237 : Go.Proofs.Lays2.n37 Yba.prog Yba.laysNm237_ren := {
  mixed := by kernel_rfl
  f37 := Yba.func25.trans (congrArg some (by kernel_rfl))
  t3 := Yba.underlying3
  a3 := Yba.isAgg3
  z3 := Yba.sizeOf3
  v3 := Yba.zeroValue3
  t4 := Yba.underlying4
  a4 := Yba.isAgg4
  z4 := Yba.sizeOf4
  v4 := Yba.zeroValue4 }
open Go.RowKit Go.Lib in
/-- cmp.isNaN[int]: 'x != x': false. (LAID: no walk: one application.) -/
theorem Yba.cmp_isNaN_int2 (x : Int) (w : World) :
    Calls Yba.prog 25 #[.int .i64 x] w fun e w' => e = .returned (.bool false) ∧ w' = w := Any.cmp_isNaN_int2 Yba.laysNm237 x w
def Yba.laysNm232_ren : Go.Shelf.Ren := ⟨fun | 32 => 24 | n => n, fun | 3 => 3 | 4 => 4 | n => n, fun | n => n⟩
theorem Yba.laysNm232 : Go.Proofs.Lays2.n32 Yba.prog Yba.laysNm232_ren := {
  mixed := by kernel_rfl
  f32 := Yba.func24.trans (congrArg some (by kernel_rfl))
  t3 := Yba.underlying3
  a3 := Yba.isAgg3
  z3 := Yba.sizeOf3
  v3 := Yba.zeroValue3
  t4 := Yba.underlying4
  a4 := Yba.isAgg4
  z4 := Yba.sizeOf4
  v4 := Yba.zeroValue4 }
open Go.RowKit Go.Lib in
/-- slices.isNaN[int]: 'x != x': false. (LAID: no walk: one application.) -/
theorem Yba.slices_isNaN_int2 (x : Int) (w : World) :
    Calls Yba.prog 24 #[.int .i64 x] w fun e w' => e = .returned (.bool false) ∧ w' = w := Any.slices_isNaN_int2 Yba.laysNm232 x w
def Yba.laysNm231_ren : Go.Shelf.Ren := ⟨fun | 31 => 23 | 37 => 25 | n => n, fun | 3 => 3 | 4 => 4 | n => n, fun | n => n⟩
theorem Yba.laysNm231 : Go.Proofs.Lays2.n31 Yba.prog Yba.laysNm231_ren := {
  mixed := by kernel_rfl
  f31 := Yba.func23.trans (congrArg some (by kernel_rfl))
  f37 := Yba.func25.trans (congrArg some (by kernel_rfl))
  t3 := Yba.underlying3
  a3 := Yba.isAgg3
  z3 := Yba.sizeOf3
  v3 := Yba.zeroValue3
  t4 := Yba.underlying4
  a4 := Yba.isAgg4
  z4 := Yba.sizeOf4
  v4 := Yba.zeroValue4 }
open Go.RowKit Go.Lib in
/-- cmp.Less[int]: "Less reports whether x is less than y.": 'x < y'; the world is as it was. (LAID: no walk: one application.) -/
theorem Yba.cmp_Less_int2 (x y : Int) (w : World) :
    Calls Yba.prog 23 #[.int .i64 x, .int .i64 y] w fun e w' => e = .returned (.bool (decide (x < y))) ∧ w' = w := Any.cmp_Less_int2 Yba.laysNm231 x y w
def Yba.laysNm225_ren : Go.Shelf.Ren := ⟨fun | 25 => 21 | 31 => 23 | 32 => 24 | 37 => 25 | n => n, fun | 22 => 38 | 3 => 3 | 4 => 4 | 40 => 113 | 0 => 0 | n => n, fun | n => n⟩
theorem Yba.laysNm225 : Go.Proofs.Lays2.n25 Yba.prog Yba.laysNm225_ren := {
  mixed := by kernel_rfl
  f25 := Yba.func21.trans (congrArg some (by kernel_rfl))
  f31 := Yba.func23.trans (congrArg some (by kernel_rfl))
  f32 := Yba.func24.trans (congrArg some (by kernel_rfl))
  f37 := Yba.func25.trans (congrArg some (by kernel_rfl))
  t0 := Yba.underlying0
  a0 := Yba.isAgg0
  z0 := Yba.sizeOf0
  v0 := Yba.zeroValue0
  t3 := Yba.underlying3
  a3 := Yba.isAgg3
  z3 := Yba.sizeOf3
  v3 := Yba.zeroValue3
  t4 := Yba.underlying4
  a4 := Yba.isAgg4
  z4 := Yba.sizeOf4
  v4 := Yba.zeroValue4
  t22 := Yba.underlying38
  a22 := Yba.isAgg38
  z22 := Yba.sizeOf38
  v22 := Yba.zeroValue38
  t40 := Yba.underlying113
  a40 := Yba.isAgg113
  z40 := Yba.sizeOf113
  v40 := Yba.zeroValue113 }
open Go.RowKit Go.Lib in
/-- slices.BinarySearch at []int: "BinarySearch searches for target in a sorted slice and returns the earliest position where target is found, or the position where target would appear in the sort order; it also returns a bool saying whether the target is really found in the slice. The slice must be sorted in increasing order.": OF A SORTED SLICE IT RETURNS how many elements are less than the target, and whether the target is among the elements; the world is as it was but for the count of draws. 'zs': what the cells behind the slice's address hold; 'zs.take n': its elements. (Of a slice that is not sorted: no contract here.) (LAID: no walk: one application.) -/
theorem Yba.slices_BinarySearch_int (b off n c : Nat) (zs : List Int) (x : Int) (w : World) (hz : n ≤ zs.length) (hbig : n < 4611686018427387904) (hc : ∀ j, j < zs.length → w.cell? ⟨b, off + j, none⟩ = some (.int .i64 (zs.getD j 0))) (hs : (zs.take n).Pairwise (· ≤ ·)) :
    Calls Yba.prog 21 #[.slice (some ⟨b, off, none⟩) n c, .int .i64 x] w fun e w' => e = .returned (.tuple #[.int .i64 ((zs.take n).countP (· < x) : Nat), .bool ((zs.take n).contains x)]) ∧ ∃ q, w' = w.drewN q := Any.slices_BinarySearch_int Yba.laysNm225 b off n c zs x w hz hbig hc hs
def Yba.laysNm223_ren : Go.Shelf.Ren := ⟨fun | 23 => 22 | n => n, fun | 22 => 38 | 3 => 3 | 4 => 4 | 0 => 0 | n => n, fun | n => n⟩
theorem Yba.laysNm223 : Go.Proofs.Lays2.n23 Yba.prog Yba.laysNm223_ren := {
  mixed := by kernel_rfl
  f23 := Yba.func22.trans (congrArg some (by kernel_rfl))
  t0 := Yba.underlying0
  a0 := Yba.isAgg0
  z0 := Yba.sizeOf0
  v0 := Yba.zeroValue0
  t3 := Yba.underlying3
  a3 := Yba.isAgg3
  z3 := Yba.sizeOf3
  v3 := Yba.zeroValue3
  t4 := Yba.underlying4
  a4 := Yba.isAgg4
  z4 := Yba.sizeOf4
  v4 := Yba.zeroValue4
  t22 := Yba.underlying38
  a22 := Yba.isAgg38
  z22 := Yba.sizeOf38
  v22 := Yba.zeroValue38
  i3 := by kernel_rfl }
open Go.RowKit Go.Lib Go.Sort in
/-- slices.Delete at []int, over an array. (LAID: no walk: one application.) -/
theorem Yba.slices_Delete_int_arr (blk off cap i j : Nat) (d : Array Int) (w : World) (hH : Holds encI w blk off d) (hcap : d.size ≤ cap) (hm : cap ≤ 9223372036854775807) (hij : i ≤ j) (hj : j ≤ d.size) :
    Calls Yba.prog 22 #[.slice (some ⟨blk, off, none⟩) d.size cap, .int .i64 i, .int .i64 j] w fun e w' => e = .returned (.slice (some ⟨blk, off, none⟩) (d.size - (j - i)) cap) ∧ ∃ q, w' = putRow encI (Sort.ahead w q) blk off (d.toList.take i ++ d.toList.drop j ++ List.replicate (j - i) 0).toArray := Any.slices_Delete_int_arr Yba.laysNm223 blk off cap i j d w hH hcap hm hij hj
open Go.RowKit Go.Lib Go.Sort in
/-- slices.Delete at []int: "Delete modifies s in place by removing the elements s[i:j], and returns the modified slice. Delete panics if j > len(s) or s[i:j] is not a valid slice of s. Delete is O(len(s)-i), so if many items must be deleted, it is better to make a single call deleting them all together than to delete one at a time. Delete zeroes the elements s[len(s)-(j-i):len(s)]. If the result is empty, it has the same nilness as s.": FOR i ≤ j ≤ len(s) IT RETURNS THE SLICE CUT TO len(s) - (j - i) ELEMENTS; ITS CELLS HOLD what stood ahead of i, what stood from j on, then j - i zero values; all else is as it was, but for the count of draws. IN THE WORDS OF slices.Sort's CONTRACT ('Holds', 'putRow'). It asks 'zs.length ≤ cap ≤ 2^63 - 1' (every slice's). (Outside i ≤ j ≤ len(s) it panics: no contract here.) (LAID: no walk: one application.) -/
theorem Yba.slices_Delete_int (blk off cap i j : Nat) (zs : List Int) (w : World) (hH : Holds (Value.int .i64) w blk off zs.toArray) (hcap : zs.length ≤ cap) (hm : cap ≤ 9223372036854775807) (hij : i ≤ j) (hj : j ≤ zs.length) :
    Calls Yba.prog 22 #[.slice (some ⟨blk, off, none⟩) zs.length cap, .int .i64 i, .int .i64 j] w fun e w' => e = .returned (.slice (some ⟨blk, off, none⟩) (zs.length - (j - i)) cap) ∧ ∃ q, w' = putRow (Value.int .i64) (Sort.ahead w q) blk off (zs.take i ++ zs.drop j ++ List.replicate (j - i) 0).toArray := Any.slices_Delete_int Yba.laysNm223 blk off cap i j zs w hH hcap hm hij hj
open Go.RowKit Go.Lib Go.Sort in
/-- slices.Delete at []int, of an argument, for i ≤ j ≤ n: the slice cut to n - (j - i) elements; the n cells hold what stood ahead of i, what stood from j on, then zeros. (LAID: no walk: one application.) -/
theorem Yba.slices_Delete_int_cells (b off n c i j : Nat) (zs : List Int) (w : World) (hz : n ≤ zs.length) (hcap : n ≤ c) (hm : c ≤ 9223372036854775807) (hij : i ≤ j) (hj : j ≤ n) (hc : ∀ j, j < zs.length → w.cell? ⟨b, off + j, none⟩ = some (.int .i64 (zs.getD j 0))) (hf : ∀ j, j < n → w.frozen? ⟨b, off + j, none⟩ = false) :
    Calls Yba.prog 22 #[.slice (some ⟨b, off, none⟩) n c, .int .i64 i, .int .i64 j] w fun e w' => e = .returned (.slice (some ⟨b, off, none⟩) (n - (j - i)) c) ∧ ∃ q, w' = (w.drewN q).setCells b off (((zs.take n).take i ++ (zs.take n).drop j ++ List.replicate (j - i) 0).map (Value.int .i64)) := Any.slices_Delete_int_cells Yba.laysNm223 b off n c i j zs w hz hcap hm hij hj hc hf
open Go.RowKit Go.Lib in
/-- slices.BinarySearch at []int of no element: position 0, not found; the world is as it was. (LAID: no walk: one application.) -/
theorem Yba.slices_BinarySearch_int_empty (a : Option Addr) (c : Nat) (x : Int) (w : World) :
    Calls Yba.prog 21 #[.slice a 0 c, .int .i64 x] w fun e w' => e = .returned (.tuple #[.int .i64 0, .bool false]) ∧ w' = w := Any.slices_BinarySearch_int_empty Yba.laysNm225 a c x w
open Go.RowKit Go.Lib in
/-- slices.Delete at []int of no element ('Delete(s, 0, 0)'): s comes back; the world is as it was. (LAID: no walk: one application.) -/
theorem Yba.slices_Delete_int_empty (a : Option Addr) (c : Nat) (w : World) :
    Calls Yba.prog 22 #[.slice a 0 c, .int .i64 0, .int .i64 0] w fun e w' => e = .returned (.slice a 0 c) ∧ w' = w := Any.slices_Delete_int_empty Yba.laysNm223 a c w
open Go.RowKit Go.Lib in
theorem Yba.slices_Equal_int_lens (a1 a2 : Option Addr) (n c m d : Nat) (w : World) (hnm : n ≠ m) :
    Calls Yba.prog 16 #[.slice a1 n c, .slice a2 m d] w fun e w' => e = .returned (.bool false) ∧ w' = w := Any.slices_Equal_int_lens Yba.lays111 a1 a2 n c m d w hnm
end Go.Proofs
