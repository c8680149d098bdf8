/-
  DERIVED: THE SHELF's CONTRACTS AT THIS DUMP, IN PLAIN WORDS (tools/lay-plain.mjs out of 'YbaShelf.lean', which tools/lay-shelf.mjs wrote): THE SAME DECLARATIONS UNDER THE SAME NAMES: 'import', 'namespace', 'open', 'def', 'theorem' AND NOTHING ELSE: no command of the shelf's: FOR A HAND-IN. Each laying: the table of numbers ('.._ren') and one theorem, a field a fact of the dump's own or the kernel's comparison; each contract: ONE APPLICATION.
-/
import Derived.Shelf.Small.Bits
import Derived.Shelf.Strconv.Itoa0
import Derived.Shelf.Sort.Plain
import Derived.Shelf.Slices.Equal
import Derived.Shelf.Slices.In.SortNone
import Derived.Shelf.Slices.Empties2
import Derived.Ground.SlbCloneProg
import Derived.Shelf.Bytes.SlClone
import Derived.Test.YbulkexnvqProg
namespace Go.Proofs
open Go.Shelf
def Yba.lays128_ren : Go.Shelf.Ren := ⟨fun | 128 => 24 | n => n, fun | 51 => 47 | 3 => 3 | 4 => 4 | 46 => 72 | 5 => 5 | 9 => 9 | n => n, fun | n => n⟩
theorem Yba.lays128 : Go.Proofs.Lays.n128 Yba.prog Yba.lays128_ren := {
  mixed := by kernel_rfl
  f128 := Yba.func24.trans (congrArg some (by kernel_rfl))
  t3 := Yba.underlying3
  a3 := Yba.isAgg3
  z3 := Yba.sizeOf3
  v3 := Yba.zeroValue3
  t4 := Yba.underlying4
  a4 := Yba.isAgg4
  z4 := Yba.sizeOf4
  v4 := Yba.zeroValue4
  t5 := Yba.underlying5
  a5 := Yba.isAgg5
  z5 := Yba.sizeOf5
  v5 := Yba.zeroValue5
  t9 := Yba.underlying9
  a9 := Yba.isAgg9
  z9 := Yba.sizeOf9
  v9 := Yba.zeroValue9
  t46 := Yba.underlying72
  a46 := Yba.isAgg72
  z46 := Yba.sizeOf72
  v46 := Yba.zeroValue72
  t51 := Yba.underlying47
  a51 := Yba.isAgg47
  z51 := Yba.sizeOf47
  v51 := Yba.zeroValue47 }
/-- bits.Len32: "Len32 returns the minimum number of bits required to represent x; the result is 0 for x == 0.": IT RETURNS 'Lib.bitLen x'; the world is as it was. ('h0', 'h1': x is a uint32.) (LAID: no walk: one application.) -/
theorem Yba.bits_Len32 (x : Int) (w : World) (h0 : 0 ≤ x) (h1 : x ≤ 4294967295) :
    Calls Yba.prog 24 #[.int .u32 x] w fun e w' => e = .returned (.int .i64 (Lib.bitLen x.toNat)) ∧ w' = w := Any.bits_Len32 Yba.lays128 x w h0 h1
def Yba.lays125_ren : Go.Shelf.Ren := ⟨fun | 125 => 12 | 128 => 24 | 129 => 25 | n => n, fun | 46 => 72 | 3 => 3 | 51 => 47 | 53 => 56 | 4 => 4 | 5 => 5 | 9 => 9 | n => n, fun | n => n⟩
theorem Yba.lays125 : Go.Proofs.Lays.n125 Yba.prog Yba.lays125_ren := {
  mixed := by kernel_rfl
  f125 := Yba.func12.trans (congrArg some (by kernel_rfl))
  f128 := Yba.func24.trans (congrArg some (by kernel_rfl))
  f129 := Yba.func25.trans (congrArg some (by kernel_rfl))
  t3 := Yba.underlying3
  a3 := Yba.isAgg3
  z3 := Yba.sizeOf3
  v3 := Yba.zeroValue3
  t4 := Yba.underlying4
  a4 := Yba.isAgg4
  z4 := Yba.sizeOf4
  v4 := Yba.zeroValue4
  t5 := Yba.underlying5
  a5 := Yba.isAgg5
  z5 := Yba.sizeOf5
  v5 := Yba.zeroValue5
  t9 := Yba.underlying9
  a9 := Yba.isAgg9
  z9 := Yba.sizeOf9
  v9 := Yba.zeroValue9
  t46 := Yba.underlying72
  a46 := Yba.isAgg72
  z46 := Yba.sizeOf72
  v46 := Yba.zeroValue72
  t51 := Yba.underlying47
  a51 := Yba.isAgg47
  z51 := Yba.sizeOf47
  v51 := Yba.zeroValue47
  t53 := Yba.underlying56
  a53 := Yba.isAgg56
  z53 := Yba.sizeOf56
  v53 := Yba.zeroValue56 }
/-- bits.Len: "Len returns the minimum number of bits required to represent x; the result is 0 for x == 0.": IT RETURNS 'Lib.bitLen x'; the world is as it was. (A uint has 64 bits in the model.) ITS CALLEE bits.Len64 IS MET BY ITS OWN CONTRACT OFF THE SHELF (lay that first). (LAID: no walk: one application.) -/
theorem Yba.bits_Len (x : Int) (w : World) (h0 : 0 ≤ x) (h1 : x ≤ 18446744073709551615) :
    Calls Yba.prog 12 #[.int .u64 x] w fun e w' => e = .returned (.int .i64 (Lib.bitLen x.toNat)) ∧ w' = w := Any.bits_Len Yba.lays125 x w h0 h1
def Yba.lays129_ren : Go.Shelf.Ren := ⟨fun | 129 => 25 | n => n, fun | 53 => 56 | 3 => 3 | 4 => 4 | 46 => 72 | 5 => 5 | 9 => 9 | n => n, fun | n => n⟩
theorem Yba.lays129 : Go.Proofs.Lays.n129 Yba.prog Yba.lays129_ren := {
  mixed := by kernel_rfl
  f129 := Yba.func25.trans (congrArg some (by kernel_rfl))
  t3 := Yba.underlying3
  a3 := Yba.isAgg3
  z3 := Yba.sizeOf3
  v3 := Yba.zeroValue3
  t4 := Yba.underlying4
  a4 := Yba.isAgg4
  z4 := Yba.sizeOf4
  v4 := Yba.zeroValue4
  t5 := Yba.underlying5
  a5 := Yba.isAgg5
  z5 := Yba.sizeOf5
  v5 := Yba.zeroValue5
  t9 := Yba.underlying9
  a9 := Yba.isAgg9
  z9 := Yba.sizeOf9
  v9 := Yba.zeroValue9
  t46 := Yba.underlying72
  a46 := Yba.isAgg72
  z46 := Yba.sizeOf72
  v46 := Yba.zeroValue72
  t53 := Yba.underlying56
  a53 := Yba.isAgg56
  z53 := Yba.sizeOf56
  v53 := Yba.zeroValue56 }
/-- bits.Len64: "Len64 returns the minimum number of bits required to represent x; the result is 0 for x == 0.": IT RETURNS 'Lib.bitLen x'; the world is as it was. ('h0', 'h1': x is a uint64.) (LAID: no walk: one application.) -/
theorem Yba.bits_Len64 (x : Int) (w : World) (h0 : 0 ≤ x) (h1 : x ≤ 18446744073709551615) :
    Calls Yba.prog 25 #[.int .u64 x] w fun e w' => e = .returned (.int .i64 (Lib.bitLen x.toNat)) ∧ w' = w := Any.bits_Len64 Yba.lays129 x w h0 h1
def Yba.lays190_ren : Go.Shelf.Ren := ⟨fun | 190 => 6 | 125 => 12 | 258 => 11 | 128 => 24 | 129 => 25 | 302 => 15 | 303 => 16 | 304 => 17 | 305 => 18 | 306 => 19 | 307 => 20 | 308 => 21 | 309 => 22 | 310 => 23 | 333 => 34 | 329 => 35 | 330 => 36 | 334 => 37 | 335 => 38 | 336 => 39 | 344 => 47 | n => n, fun | 31 => 24 | 9 => 9 | 3 => 3 | 46 => 72 | 0 => 0 | 51 => 47 | 53 => 56 | 4 => 4 | 183 => 76 | 182 => 75 | 131 => 81 | 5 => 5 | 218 => 92 | 222 => 96 | 228 => 104 | 229 => 105 | n => n, fun | n => n⟩
theorem Yba.lays190 : Go.Proofs.Lays.n190 Yba.prog Yba.lays190_ren := {
  mixed := by kernel_rfl
  f125 := Yba.func12.trans (congrArg some (by kernel_rfl))
  f128 := Yba.func24.trans (congrArg some (by kernel_rfl))
  f129 := Yba.func25.trans (congrArg some (by kernel_rfl))
  f190 := Yba.func6.trans (congrArg some (by kernel_rfl))
  f258 := Yba.func11.trans (congrArg some (by kernel_rfl))
  f302 := Yba.func15.trans (congrArg some (by kernel_rfl))
  f303 := Yba.func16.trans (congrArg some (by kernel_rfl))
  f304 := Yba.func17.trans (congrArg some (by kernel_rfl))
  f305 := Yba.func18.trans (congrArg some (by kernel_rfl))
  f306 := Yba.func19.trans (congrArg some (by kernel_rfl))
  f307 := Yba.func20.trans (congrArg some (by kernel_rfl))
  f308 := Yba.func21.trans (congrArg some (by kernel_rfl))
  f309 := Yba.func22.trans (congrArg some (by kernel_rfl))
  f310 := Yba.func23.trans (congrArg some (by kernel_rfl))
  f329 := Yba.func35.trans (congrArg some (by kernel_rfl))
  f330 := Yba.func36.trans (congrArg some (by kernel_rfl))
  f333 := Yba.func34.trans (congrArg some (by kernel_rfl))
  f334 := Yba.func37.trans (congrArg some (by kernel_rfl))
  f335 := Yba.func38.trans (congrArg some (by kernel_rfl))
  f336 := Yba.func39.trans (congrArg some (by kernel_rfl))
  f344 := Yba.func47.trans (congrArg some (by kernel_rfl))
  t0 := Yba.underlying0
  a0 := Yba.isAgg0
  z0 := Yba.sizeOf0
  v0 := Yba.zeroValue0
  t3 := Yba.underlying3
  a3 := Yba.isAgg3
  z3 := Yba.sizeOf3
  v3 := Yba.zeroValue3
  t4 := Yba.underlying4
  a4 := Yba.isAgg4
  z4 := Yba.sizeOf4
  v4 := Yba.zeroValue4
  t5 := Yba.underlying5
  a5 := Yba.isAgg5
  z5 := Yba.sizeOf5
  v5 := Yba.zeroValue5
  t9 := Yba.underlying9
  a9 := Yba.isAgg9
  z9 := Yba.sizeOf9
  v9 := Yba.zeroValue9
  t31 := Yba.underlying24
  a31 := Yba.isAgg24
  z31 := Yba.sizeOf24
  v31 := Yba.zeroValue24
  t46 := Yba.underlying72
  a46 := Yba.isAgg72
  z46 := Yba.sizeOf72
  v46 := Yba.zeroValue72
  t51 := Yba.underlying47
  a51 := Yba.isAgg47
  z51 := Yba.sizeOf47
  v51 := Yba.zeroValue47
  t53 := Yba.underlying56
  a53 := Yba.isAgg56
  z53 := Yba.sizeOf56
  v53 := Yba.zeroValue56
  t131 := Yba.underlying81
  a131 := Yba.isAgg81
  z131 := Yba.sizeOf81
  v131 := Yba.zeroValue81
  t182 := Yba.underlying75
  a182 := Yba.isAgg75
  z182 := Yba.sizeOf75
  v182 := Yba.zeroValue75
  t183 := Yba.underlying76
  a183 := Yba.isAgg76
  z183 := Yba.sizeOf76
  v183 := Yba.zeroValue76
  t218 := Yba.underlying92
  a218 := Yba.isAgg92
  z218 := Yba.sizeOf92
  v218 := Yba.zeroValue92
  t222 := Yba.underlying96
  a222 := Yba.isAgg96
  z222 := Yba.sizeOf96
  v222 := Yba.zeroValue96
  t228 := Yba.underlying104
  a228 := Yba.isAgg104
  z228 := Yba.sizeOf104
  v228 := Yba.zeroValue104
  t229 := Yba.underlying105
  a229 := Yba.isAgg105
  z229 := Yba.sizeOf105
  v229 := Yba.zeroValue105 }
open Go.Sort Go.RowKit in
theorem Yba.slices_Sort_string (blk off cap : Nat) (ss : List (List UInt8)) (w : World) (hH : Holds encStr w blk off ss.toArray) (hblk : blk < w.heap.size) (hsz : ss.length < 4611686018427387904) :
    Calls Yba.prog 6 #[.slice (some ⟨blk, off, none⟩) ss.length cap] w fun e w' =>
      e = .returned (.tuple #[]) ∧ ∃ n os, w' = grow (putRow encStr (Sort.ahead w n) blk off (ss.mergeSort fun x y => decide (x ≤ y)).toArray) os := Any.slices_Sort_string Yba.lays190 blk off cap ss w hH hblk hsz
def Yba.lays193_ren : Go.Shelf.Ren := ⟨fun | 193 => 7 | n => n, fun | 31 => 24 | 9 => 9 | 4 => 4 | 3 => 3 | 0 => 0 | n => n, fun | n => n⟩
theorem Yba.lays193 : Go.Proofs.Lays.n193 Yba.prog Yba.lays193_ren := {
  mixed := by kernel_rfl
  f193 := Yba.func7.trans (congrArg some (by kernel_rfl))
  t0 := Yba.underlying0
  a0 := Yba.isAgg0
  z0 := Yba.sizeOf0
  v0 := Yba.zeroValue0
  t3 := Yba.underlying3
  a3 := Yba.isAgg3
  z3 := Yba.sizeOf3
  v3 := Yba.zeroValue3
  t4 := Yba.underlying4
  a4 := Yba.isAgg4
  z4 := Yba.sizeOf4
  v4 := Yba.zeroValue4
  t9 := Yba.underlying9
  a9 := Yba.isAgg9
  z9 := Yba.sizeOf9
  v9 := Yba.zeroValue9
  t31 := Yba.underlying24
  a31 := Yba.isAgg24
  z31 := Yba.sizeOf24
  v31 := Yba.zeroValue24 }
open Go.RowKit Go.Lib in
/-- slices.Equal at []string: "Equal reports whether two slices are equal: the same length and all elements equal. If the lengths are different, Equal returns false. Otherwise, the elements are compared in increasing index order, and the comparison stops at the first unequal pair. Empty and nil slices are considered equal.": IT RETURNS WHETHER THE TWO LISTS OF ELEMENTS ARE ONE; the world is as it was but for the count of draws (the test 's1[i] != s2[i]' has two reads, whose order the model draws, once a round). 'xs', 'ys': what the cells behind the two addresses hold (the spare capacity too, if you have it); 'xs.take n', 'ys.take m': the elements. THE TWO SLICES MAY OVERLAP. (LAID: no walk: one application.) -/
theorem Yba.slices_Equal_string (b1 o1 n c b2 o2 m d : Nat) (xs ys : List ByteArray) (w : World) (hx : n ≤ xs.length) (hy : m ≤ ys.length) (hbig : n ≤ 9223372036854775807) (hbig2 : m ≤ 9223372036854775807) (hc1 : ∀ j, j < xs.length → w.cell? ⟨b1, o1 + j, none⟩ = some (.string (xs.getD j ByteArray.empty))) (hc2 : ∀ j, j < ys.length → w.cell? ⟨b2, o2 + j, none⟩ = some (.string (ys.getD j ByteArray.empty))) :
    Calls Yba.prog 7 #[.slice (some ⟨b1, o1, none⟩) n c, .slice (some ⟨b2, o2, none⟩) m d] w fun e w' => e = .returned (.bool (decide (xs.take n = ys.take m))) ∧ ∃ q, w' = w.drewN q := Any.slices_Equal_string Yba.lays193 b1 o1 n c b2 o2 m d xs ys w hx hy hbig hbig2 hc1 hc2
open Go.RowKit Go.Lib in
/-- The same where the first is of length 0 (a nil one too): no cell is asked for. (LAID: no walk: one application.) -/
theorem Yba.slices_Equal_string_empty (a1 a2 : Option Addr) (c m d : Nat) (w : World) (hbig2 : m ≤ 9223372036854775807) :
    Calls Yba.prog 7 #[.slice a1 0 c, .slice a2 m d] w fun e w' => e = .returned (.bool (decide (m = 0))) ∧ w' = w := Any.slices_Equal_string_empty Yba.lays193 a1 a2 c m d w hbig2
open Go.RowKit Go.Sort in
/-- .. and plain. (LAID: no walk: one application.) -/
theorem Yba.slices_Sort_string_none (p : Option Addr) (cap : Nat) (w : World) :
    Calls Yba.prog 6 #[.slice p 0 cap] w fun e w' => e = .returned (.tuple #[]) ∧ w' = w := Any.slices_Sort_string_none Yba.lays190 p cap w
open Go.RowKit Go.Lib in
theorem Yba.slices_Equal_string_lens (a1 a2 : Option Addr) (n c m d : Nat) (w : World) (hnm : n ≠ m) :
    Calls Yba.prog 7 #[.slice a1 n c, .slice a2 m d] w fun e w' => e = .returned (.bool false) ∧ w' = w := Any.slices_Equal_string_lens Yba.lays193 a1 a2 n c m d w hnm
def Yba.laysSlK4_ren : Go.Shelf.Ren := ⟨fun | 4 => 10 | n => n, fun | 22 => 35 | 4 => 4 | 5 => 5 | n => n, fun | n => n⟩
theorem Yba.laysSlK4 : Go.Proofs.SlLaysK.n4 Yba.prog Yba.laysSlK4_ren := {
  mixed := by kernel_rfl
  f4 := Yba.func10.trans (congrArg some (by kernel_rfl))
  t4 := Yba.underlying4
  a4 := Yba.isAgg4
  z4 := Yba.sizeOf4
  v4 := Yba.zeroValue4
  t22 := Yba.underlying35
  a22 := Yba.isAgg35
  z22 := Yba.sizeOf35
  v22 := Yba.zeroValue35
  t5 := Yba.underlying5
  i5 := by kernel_rfl }
open Go.RowKit Go.Lib in
/-- bytes.Clone: "Clone returns a copy of b[:len(b)]. The result may have additional unused capacity.": OF A SLICE THAT IS NOT nil IT RETURNS A SLICE THAT IS NOT nil, OF THE SAME BYTES, IN MEMORY OF THE CALL's OWN: in the how-to's words (6f): 'w'.ownsRow B e 1 v' n cells' · 'Below B w w'', B the heap's size at the call. b AT WHATEVER ADDRESS, its cells as 'open_ints' hands them ('a.add i'; the numbers 'xs'). No byte: no cell is asked for. (LAID: no walk: one application.) -/
theorem Yba.bytes_Clone_at (a : Addr) (n c : Nat) (xs : List Int) (w : World) (hx : xs.length = n) (hbig : n ≤ 140737488355328) (hc : ∀ i, i < n → w.cell? (a.add i) = some (.int .u8 (xs.getD i 0))) :
    Calls Yba.prog 10 #[.slice (some a) n c] w fun e w' => ∃ v', e = .returned v' ∧ w'.ownsRow w.heap.size 5 1 v' n (xs.map (Value.int .u8)) ∧ v' ≠ .slice none 0 0 ∧ Below w.heap.size w w' := Any.bytes_Clone_at Yba.laysSlK4 a n c xs w hx hbig hc
open Go.RowKit Go.Lib in
/-- "Clone(nil) returns nil.": the world is as it was. (LAID: no walk: one application.) -/
theorem Yba.bytes_Clone_nil (n c : Nat) (w : World) :
    Calls Yba.prog 10 #[.slice none n c] w fun e w' => e = .returned (.slice none 0 0) ∧ w' = w := Any.bytes_Clone_nil Yba.laysSlK4 n c w
end Go.Proofs
