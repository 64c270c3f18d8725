/-
  DERIVED: THE SHELF's CONTRACTS AT THIS DUMP, IN PLAIN WORDS (tools/lay-plain.mjs out of the laid text, which tools/lay-shelf.mjs wrote): THE SAME DECLARATIONS UNDER THE SAME NAMES: 'import', 'namespace', 'open', 'def', 'theorem' AND NOTHING ELSE: no command of the shelf's: FOR A HAND-IN. Each laying: the table of numbers ('.._ren') and one theorem, a field a fact of the dump's own or the kernel's comparison; each contract: ONE APPLICATION.
-/
import Derived.Shelf.Small.Bits
import Derived.Shelf.Strconv.Itoa0
import Derived.Shelf.Sort.Plain
import Derived.Shelf.Slices.Turned
import Derived.Shelf.Slices.In.SortNone
import Derived.Test.Qxb6617250aProg
namespace Go.Proofs
open Go.Shelf
def Try.lays128_ren : Go.Shelf.Ren := ⟨fun | 128 => 34 | n => n, fun | 51 => 53 | 3 => 3 | 4 => 4 | 46 => 42 | 5 => 5 | 9 => 9 | n => n, fun | n => n⟩
theorem Try.lays128 : Go.Proofs.Lays.n128 Try.prog Try.lays128_ren := {
  mixed := by kernel_rfl
  f128 := Try.func34.trans (congrArg some (by kernel_rfl))
  t3 := Try.underlying3
  a3 := Try.isAgg3
  z3 := Try.sizeOf3
  v3 := Try.zeroValue3
  t4 := Try.underlying4
  a4 := Try.isAgg4
  z4 := Try.sizeOf4
  v4 := Try.zeroValue4
  t5 := Try.underlying5
  a5 := Try.isAgg5
  z5 := Try.sizeOf5
  v5 := Try.zeroValue5
  t9 := Try.underlying9
  a9 := Try.isAgg9
  z9 := Try.sizeOf9
  v9 := Try.zeroValue9
  t46 := Try.underlying42
  a46 := Try.isAgg42
  z46 := Try.sizeOf42
  v46 := Try.zeroValue42
  t51 := Try.underlying53
  a51 := Try.isAgg53
  z51 := Try.sizeOf53
  v51 := Try.zeroValue53 }
/-- bits.Len32: "Len32 returns the minimum number of bits required to represent x; the result is 0 for x == 0.": IT RETURNS 'Lib.bitLen x'; the world is as it was. ('h0', 'h1': x is a uint32.) (LAID: no walk: one application.) -/
theorem Try.bits_Len32 (x : Int) (w : World) (h0 : 0 ≤ x) (h1 : x ≤ 4294967295) :
    Calls Try.prog 34 #[.int .u32 x] w fun e w' => e = .returned (.int .i64 (Lib.bitLen x.toNat)) ∧ w' = w := Any.bits_Len32 Try.lays128 x w h0 h1
def Try.lays125_ren : Go.Shelf.Ren := ⟨fun | 125 => 24 | 128 => 34 | 129 => 35 | n => n, fun | 46 => 42 | 3 => 3 | 51 => 53 | 53 => 55 | 4 => 4 | 5 => 5 | 9 => 9 | n => n, fun | n => n⟩
theorem Try.lays125 : Go.Proofs.Lays.n125 Try.prog Try.lays125_ren := {
  mixed := by kernel_rfl
  f125 := Try.func24.trans (congrArg some (by kernel_rfl))
  f128 := Try.func34.trans (congrArg some (by kernel_rfl))
  f129 := Try.func35.trans (congrArg some (by kernel_rfl))
  t3 := Try.underlying3
  a3 := Try.isAgg3
  z3 := Try.sizeOf3
  v3 := Try.zeroValue3
  t4 := Try.underlying4
  a4 := Try.isAgg4
  z4 := Try.sizeOf4
  v4 := Try.zeroValue4
  t5 := Try.underlying5
  a5 := Try.isAgg5
  z5 := Try.sizeOf5
  v5 := Try.zeroValue5
  t9 := Try.underlying9
  a9 := Try.isAgg9
  z9 := Try.sizeOf9
  v9 := Try.zeroValue9
  t46 := Try.underlying42
  a46 := Try.isAgg42
  z46 := Try.sizeOf42
  v46 := Try.zeroValue42
  t51 := Try.underlying53
  a51 := Try.isAgg53
  z51 := Try.sizeOf53
  v51 := Try.zeroValue53
  t53 := Try.underlying55
  a53 := Try.isAgg55
  z53 := Try.sizeOf55
  v53 := Try.zeroValue55 }
/-- bits.Len: "Len returns the minimum number of bits required to represent x; the result is 0 for x == 0.": IT RETURNS 'Lib.bitLen x'; the world is as it was. (A uint has 64 bits in the model.) ITS CALLEE bits.Len64 IS MET BY ITS OWN CONTRACT OFF THE SHELF (lay that first). (LAID: no walk: one application.) -/
theorem Try.bits_Len (x : Int) (w : World) (h0 : 0 ≤ x) (h1 : x ≤ 18446744073709551615) :
    Calls Try.prog 24 #[.int .u64 x] w fun e w' => e = .returned (.int .i64 (Lib.bitLen x.toNat)) ∧ w' = w := Any.bits_Len Try.lays125 x w h0 h1
def Try.lays129_ren : Go.Shelf.Ren := ⟨fun | 129 => 35 | n => n, fun | 53 => 55 | 3 => 3 | 4 => 4 | 46 => 42 | 5 => 5 | 9 => 9 | n => n, fun | n => n⟩
theorem Try.lays129 : Go.Proofs.Lays.n129 Try.prog Try.lays129_ren := {
  mixed := by kernel_rfl
  f129 := Try.func35.trans (congrArg some (by kernel_rfl))
  t3 := Try.underlying3
  a3 := Try.isAgg3
  z3 := Try.sizeOf3
  v3 := Try.zeroValue3
  t4 := Try.underlying4
  a4 := Try.isAgg4
  z4 := Try.sizeOf4
  v4 := Try.zeroValue4
  t5 := Try.underlying5
  a5 := Try.isAgg5
  z5 := Try.sizeOf5
  v5 := Try.zeroValue5
  t9 := Try.underlying9
  a9 := Try.isAgg9
  z9 := Try.sizeOf9
  v9 := Try.zeroValue9
  t46 := Try.underlying42
  a46 := Try.isAgg42
  z46 := Try.sizeOf42
  v46 := Try.zeroValue42
  t53 := Try.underlying55
  a53 := Try.isAgg55
  z53 := Try.sizeOf55
  v53 := Try.zeroValue55 }
/-- bits.Len64: "Len64 returns the minimum number of bits required to represent x; the result is 0 for x == 0.": IT RETURNS 'Lib.bitLen x'; the world is as it was. ('h0', 'h1': x is a uint64.) (LAID: no walk: one application.) -/
theorem Try.bits_Len64 (x : Int) (w : World) (h0 : 0 ≤ x) (h1 : x ≤ 18446744073709551615) :
    Calls Try.prog 35 #[.int .u64 x] w fun e w' => e = .returned (.int .i64 (Lib.bitLen x.toNat)) ∧ w' = w := Any.bits_Len64 Try.lays129 x w h0 h1
def Try.lays190_ren : Go.Shelf.Ren := ⟨fun | 190 => 21 | 125 => 24 | 258 => 23 | 128 => 34 | 129 => 35 | 302 => 25 | 303 => 26 | 304 => 27 | 305 => 28 | 306 => 29 | 307 => 30 | 308 => 31 | 309 => 32 | 310 => 33 | 333 => 36 | 329 => 37 | 330 => 38 | 334 => 39 | 335 => 40 | 336 => 41 | 344 => 42 | n => n, fun | 31 => 26 | 9 => 9 | 3 => 3 | 46 => 42 | 0 => 0 | 51 => 53 | 53 => 55 | 4 => 4 | 183 => 45 | 182 => 44 | 131 => 50 | 5 => 5 | 218 => 56 | 222 => 60 | 228 => 63 | 229 => 64 | n => n, fun | n => n⟩
theorem Try.lays190 : Go.Proofs.Lays.n190 Try.prog Try.lays190_ren := {
  mixed := by kernel_rfl
  f125 := Try.func24.trans (congrArg some (by kernel_rfl))
  f128 := Try.func34.trans (congrArg some (by kernel_rfl))
  f129 := Try.func35.trans (congrArg some (by kernel_rfl))
  f190 := Try.func21.trans (congrArg some (by kernel_rfl))
  f258 := Try.func23.trans (congrArg some (by kernel_rfl))
  f302 := Try.func25.trans (congrArg some (by kernel_rfl))
  f303 := Try.func26.trans (congrArg some (by kernel_rfl))
  f304 := Try.func27.trans (congrArg some (by kernel_rfl))
  f305 := Try.func28.trans (congrArg some (by kernel_rfl))
  f306 := Try.func29.trans (congrArg some (by kernel_rfl))
  f307 := Try.func30.trans (congrArg some (by kernel_rfl))
  f308 := Try.func31.trans (congrArg some (by kernel_rfl))
  f309 := Try.func32.trans (congrArg some (by kernel_rfl))
  f310 := Try.func33.trans (congrArg some (by kernel_rfl))
  f329 := Try.func37.trans (congrArg some (by kernel_rfl))
  f330 := Try.func38.trans (congrArg some (by kernel_rfl))
  f333 := Try.func36.trans (congrArg some (by kernel_rfl))
  f334 := Try.func39.trans (congrArg some (by kernel_rfl))
  f335 := Try.func40.trans (congrArg some (by kernel_rfl))
  f336 := Try.func41.trans (congrArg some (by kernel_rfl))
  f344 := Try.func42.trans (congrArg some (by kernel_rfl))
  t0 := Try.underlying0
  a0 := Try.isAgg0
  z0 := Try.sizeOf0
  v0 := Try.zeroValue0
  t3 := Try.underlying3
  a3 := Try.isAgg3
  z3 := Try.sizeOf3
  v3 := Try.zeroValue3
  t4 := Try.underlying4
  a4 := Try.isAgg4
  z4 := Try.sizeOf4
  v4 := Try.zeroValue4
  t5 := Try.underlying5
  a5 := Try.isAgg5
  z5 := Try.sizeOf5
  v5 := Try.zeroValue5
  t9 := Try.underlying9
  a9 := Try.isAgg9
  z9 := Try.sizeOf9
  v9 := Try.zeroValue9
  t31 := Try.underlying26
  a31 := Try.isAgg26
  z31 := Try.sizeOf26
  v31 := Try.zeroValue26
  t46 := Try.underlying42
  a46 := Try.isAgg42
  z46 := Try.sizeOf42
  v46 := Try.zeroValue42
  t51 := Try.underlying53
  a51 := Try.isAgg53
  z51 := Try.sizeOf53
  v51 := Try.zeroValue53
  t53 := Try.underlying55
  a53 := Try.isAgg55
  z53 := Try.sizeOf55
  v53 := Try.zeroValue55
  t131 := Try.underlying50
  a131 := Try.isAgg50
  z131 := Try.sizeOf50
  v131 := Try.zeroValue50
  t182 := Try.underlying44
  a182 := Try.isAgg44
  z182 := Try.sizeOf44
  v182 := Try.zeroValue44
  t183 := Try.underlying45
  a183 := Try.isAgg45
  z183 := Try.sizeOf45
  v183 := Try.zeroValue45
  t218 := Try.underlying56
  a218 := Try.isAgg56
  z218 := Try.sizeOf56
  v218 := Try.zeroValue56
  t222 := Try.underlying60
  a222 := Try.isAgg60
  z222 := Try.sizeOf60
  v222 := Try.zeroValue60
  t228 := Try.underlying63
  a228 := Try.isAgg63
  z228 := Try.sizeOf63
  v228 := Try.zeroValue63
  t229 := Try.underlying64
  a229 := Try.isAgg64
  z229 := Try.sizeOf64
  v229 := Try.zeroValue64 }
open Go.Sort Go.RowKit in
theorem Try.slices_Sort_string (blk off cap : Nat) (ss : List (List UInt8)) (w : World) (hH : Holds encStr w blk off ss.toArray) (hblk : blk < w.heap.size) (hsz : ss.length < 4611686018427387904) :
    Calls Try.prog 21 #[.slice (some ⟨blk, off, none⟩) ss.length cap] w fun e w' =>
      e = .returned (.tuple #[]) ∧ ∃ n os, w' = grow (putRow encStr (Sort.ahead w n) blk off (ss.mergeSort fun x y => decide (x ≤ y)).toArray) os := Any.slices_Sort_string Try.lays190 blk off cap ss w hH hblk hsz
def Try.lays109_ren : Go.Shelf.Ren := ⟨fun | 109 => 19 | n => n, fun | 31 => 26 | 9 => 9 | 3 => 3 | 0 => 0 | 4 => 4 | n => n, fun | n => n⟩
theorem Try.lays109 : Go.Proofs.Lays.n109 Try.prog Try.lays109_ren := {
  mixed := by kernel_rfl
  f109 := Try.func19.trans (congrArg some (by kernel_rfl))
  t0 := Try.underlying0
  a0 := Try.isAgg0
  z0 := Try.sizeOf0
  v0 := Try.zeroValue0
  t3 := Try.underlying3
  a3 := Try.isAgg3
  z3 := Try.sizeOf3
  v3 := Try.zeroValue3
  t4 := Try.underlying4
  a4 := Try.isAgg4
  z4 := Try.sizeOf4
  v4 := Try.zeroValue4
  t9 := Try.underlying9
  a9 := Try.isAgg9
  z9 := Try.sizeOf9
  v9 := Try.zeroValue9
  t31 := Try.underlying26
  a31 := Try.isAgg26
  z31 := Try.sizeOf26
  v31 := Try.zeroValue26 }
open Go.Lib in
/-- slices.Index at []string: "Index returns the index of the first occurrence of v in s, or -1 if not present.": IT RETURNS 'Lib.idxOfS (the elements) v'; the world is as it was. 'zs': what the cells behind the slice's address hold (its spare capacity too, if you have it); 'zs.take n': its elements. (LAID: no walk: one application.) -/
theorem Try.slices_Index_string (b off n c : Nat) (zs : List ByteArray) (x : ByteArray) (w : World) (hz : n ≤ zs.length) (hbig : n ≤ 9223372036854775807) (hc : ∀ j, j < zs.length → w.cell? ⟨b, off + j, none⟩ = some (.string (zs.getD j ByteArray.empty))) :
    Calls Try.prog 19 #[.slice (some ⟨b, off, none⟩) n c, .string x] w fun e w' => e = .returned (.int .i64 (Lib.idxOfS (zs.take n) x)) ∧ w' = w := Any.slices_Index_string Try.lays109 b off n c zs x w hz hbig hc
open Go.Lib in
/-- The same at a slice of length 0, a nil one too: no cell is known, none is asked for. (LAID: no walk: one application.) -/
theorem Try.slices_Index_string_empty (a : Option Addr) (c : Nat) (x : ByteArray) (w : World) :
    Calls Try.prog 19 #[.slice a 0 c, .string x] w fun e w' => e = .returned (.int .i64 (Lib.idxOfS [] x)) ∧ w' = w := Any.slices_Index_string_empty Try.lays109 a c x w
def Try.lays110_ren : Go.Shelf.Ren := ⟨fun | 110 => 20 | 109 => 19 | n => n, fun | 31 => 26 | 9 => 9 | 4 => 4 | 3 => 3 | 0 => 0 | n => n, fun | n => n⟩
theorem Try.lays110 : Go.Proofs.Lays.n110 Try.prog Try.lays110_ren := {
  mixed := by kernel_rfl
  f109 := Try.func19.trans (congrArg some (by kernel_rfl))
  f110 := Try.func20.trans (congrArg some (by kernel_rfl))
  t0 := Try.underlying0
  a0 := Try.isAgg0
  z0 := Try.sizeOf0
  v0 := Try.zeroValue0
  t3 := Try.underlying3
  a3 := Try.isAgg3
  z3 := Try.sizeOf3
  v3 := Try.zeroValue3
  t4 := Try.underlying4
  a4 := Try.isAgg4
  z4 := Try.sizeOf4
  v4 := Try.zeroValue4
  t9 := Try.underlying9
  a9 := Try.isAgg9
  z9 := Try.sizeOf9
  v9 := Try.zeroValue9
  t31 := Try.underlying26
  a31 := Try.isAgg26
  z31 := Try.sizeOf26
  v31 := Try.zeroValue26 }
open Go.Lib in
/-- slices.Contains at []string: "Contains reports whether v is present in s.": IT RETURNS 'Lib.containsS (the elements) v', which is true just where v is among them ('Lib.containsS_iff'); the world is as it was. ITS CALLEE slices.Index IS MET BY ITS OWN CONTRACT OFF THE SHELF (lay that first): no loop is walked here. (LAID: no walk: one application.) -/
theorem Try.slices_Contains_string (b off n c : Nat) (zs : List ByteArray) (x : ByteArray) (w : World) (hz : n ≤ zs.length) (hbig : n ≤ 9223372036854775807) (hc : ∀ j, j < zs.length → w.cell? ⟨b, off + j, none⟩ = some (.string (zs.getD j ByteArray.empty))) :
    Calls Try.prog 20 #[.slice (some ⟨b, off, none⟩) n c, .string x] w fun e w' => e = .returned (.bool (Lib.containsS (zs.take n) x)) ∧ w' = w := Any.slices_Contains_string Try.lays110 b off n c zs x w hz hbig hc
open Go.Lib in
/-- The same at a slice of length 0, a nil one too. (LAID: no walk: one application.) -/
theorem Try.slices_Contains_string_empty (a : Option Addr) (c : Nat) (x : ByteArray) (w : World) :
    Calls Try.prog 20 #[.slice a 0 c, .string x] w fun e w' => e = .returned (.bool false) ∧ w' = w := Any.slices_Contains_string_empty Try.lays110 a c x w
open Go.RowKit Go.Sort in
/-- .. and plain. (LAID: no walk: one application.) -/
theorem Try.slices_Sort_string_none (p : Option Addr) (cap : Nat) (w : World) :
    Calls Try.prog 21 #[.slice p 0 cap] w fun e w' => e = .returned (.tuple #[]) ∧ w' = w := Any.slices_Sort_string_none Try.lays190 p cap w
end Go.Proofs
