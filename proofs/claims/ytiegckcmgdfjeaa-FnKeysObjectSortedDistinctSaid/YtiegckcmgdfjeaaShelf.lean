/-
  DERIVED: THE SHELF's CONTRACTS AT THIS DUMP, IN PLAIN WORDS (tools/lay-plain.mjs out of 'TryShelf.lean', which tools/lay-shelf.mjs wrote): THE SAME DECLARATIONS UNDER THE SAME NAMES: 'import', 'namespace', 'open', 'def', 'theorem' AND NOTHING ELSE: no command of the shelf's: FOR A HAND-IN. Each laying: the table of numbers ('.._ren') and one theorem, a field a fact of the dump's own or the kernel's comparison; each contract: ONE APPLICATION.
-/
import Derived.Shelf.Small.Bits
import Derived.Shelf.Strconv.Itoa0
import Derived.Shelf.Sort.Plain
import Derived.Test.YtiegckcmgdfjeaaProg
namespace Go.Proofs
open Go.Shelf
def Try.lays128_ren : Go.Shelf.Ren := ⟨fun | 128 => 86 | n => n, fun | 51 => 102 | 3 => 3 | 4 => 4 | 46 => 88 | 5 => 5 | 9 => 9 | n => n, fun | n => n⟩
theorem Try.lays128 : Go.Proofs.Lays.n128 Try.prog Try.lays128_ren := {
  mixed := by kernel_rfl
  f128 := Try.func86.trans (congrArg some (by kernel_rfl))
  t3 := Try.underlying3
  a3 := Try.isAgg3
  z3 := Try.sizeOf3
  v3 := Try.zeroValue3
  t4 := Try.underlying4
  a4 := Try.isAgg4
  z4 := Try.sizeOf4
  v4 := Try.zeroValue4
  t5 := Try.underlying5
  a5 := Try.isAgg5
  z5 := Try.sizeOf5
  v5 := Try.zeroValue5
  t9 := Try.underlying9
  a9 := Try.isAgg9
  z9 := Try.sizeOf9
  v9 := Try.zeroValue9
  t46 := Try.underlying88
  a46 := Try.isAgg88
  z46 := Try.sizeOf88
  v46 := Try.zeroValue88
  t51 := Try.underlying102
  a51 := Try.isAgg102
  z51 := Try.sizeOf102
  v51 := Try.zeroValue102 }
/-- bits.Len32: "Len32 returns the minimum number of bits required to represent x; the result is 0 for x == 0.": IT RETURNS 'Lib.bitLen x'; the world is as it was. ('h0', 'h1': x is a uint32.) (LAID: no walk: one application.) -/
theorem Try.bits_Len32 (x : Int) (w : World) (h0 : 0 ≤ x) (h1 : x ≤ 4294967295) :
    Calls Try.prog 86 #[.int .u32 x] w fun e w' => e = .returned (.int .i64 (Lib.bitLen x.toNat)) ∧ w' = w := Any.bits_Len32 Try.lays128 x w h0 h1
def Try.lays125_ren : Go.Shelf.Ren := ⟨fun | 125 => 76 | 128 => 86 | 129 => 87 | n => n, fun | 46 => 88 | 3 => 3 | 51 => 102 | 53 => 22 | 4 => 4 | 5 => 5 | 9 => 9 | n => n, fun | n => n⟩
theorem Try.lays125 : Go.Proofs.Lays.n125 Try.prog Try.lays125_ren := {
  mixed := by kernel_rfl
  f125 := Try.func76.trans (congrArg some (by kernel_rfl))
  f128 := Try.func86.trans (congrArg some (by kernel_rfl))
  f129 := Try.func87.trans (congrArg some (by kernel_rfl))
  t3 := Try.underlying3
  a3 := Try.isAgg3
  z3 := Try.sizeOf3
  v3 := Try.zeroValue3
  t4 := Try.underlying4
  a4 := Try.isAgg4
  z4 := Try.sizeOf4
  v4 := Try.zeroValue4
  t5 := Try.underlying5
  a5 := Try.isAgg5
  z5 := Try.sizeOf5
  v5 := Try.zeroValue5
  t9 := Try.underlying9
  a9 := Try.isAgg9
  z9 := Try.sizeOf9
  v9 := Try.zeroValue9
  t46 := Try.underlying88
  a46 := Try.isAgg88
  z46 := Try.sizeOf88
  v46 := Try.zeroValue88
  t51 := Try.underlying102
  a51 := Try.isAgg102
  z51 := Try.sizeOf102
  v51 := Try.zeroValue102
  t53 := Try.underlying22
  a53 := Try.isAgg22
  z53 := Try.sizeOf22
  v53 := Try.zeroValue22 }
/-- bits.Len: "Len returns the minimum number of bits required to represent x; the result is 0 for x == 0.": IT RETURNS 'Lib.bitLen x'; the world is as it was. (A uint has 64 bits in the model.) ITS CALLEE bits.Len64 IS MET BY ITS OWN CONTRACT OFF THE SHELF (lay that first). (LAID: no walk: one application.) -/
theorem Try.bits_Len (x : Int) (w : World) (h0 : 0 ≤ x) (h1 : x ≤ 18446744073709551615) :
    Calls Try.prog 76 #[.int .u64 x] w fun e w' => e = .returned (.int .i64 (Lib.bitLen x.toNat)) ∧ w' = w := Any.bits_Len Try.lays125 x w h0 h1
def Try.lays129_ren : Go.Shelf.Ren := ⟨fun | 129 => 87 | n => n, fun | 53 => 22 | 3 => 3 | 4 => 4 | 46 => 88 | 5 => 5 | 9 => 9 | n => n, fun | n => n⟩
theorem Try.lays129 : Go.Proofs.Lays.n129 Try.prog Try.lays129_ren := {
  mixed := by kernel_rfl
  f129 := Try.func87.trans (congrArg some (by kernel_rfl))
  t3 := Try.underlying3
  a3 := Try.isAgg3
  z3 := Try.sizeOf3
  v3 := Try.zeroValue3
  t4 := Try.underlying4
  a4 := Try.isAgg4
  z4 := Try.sizeOf4
  v4 := Try.zeroValue4
  t5 := Try.underlying5
  a5 := Try.isAgg5
  z5 := Try.sizeOf5
  v5 := Try.zeroValue5
  t9 := Try.underlying9
  a9 := Try.isAgg9
  z9 := Try.sizeOf9
  v9 := Try.zeroValue9
  t46 := Try.underlying88
  a46 := Try.isAgg88
  z46 := Try.sizeOf88
  v46 := Try.zeroValue88
  t53 := Try.underlying22
  a53 := Try.isAgg22
  z53 := Try.sizeOf22
  v53 := Try.zeroValue22 }
/-- bits.Len64: "Len64 returns the minimum number of bits required to represent x; the result is 0 for x == 0.": IT RETURNS 'Lib.bitLen x'; the world is as it was. ('h0', 'h1': x is a uint64.) (LAID: no walk: one application.) -/
theorem Try.bits_Len64 (x : Int) (w : World) (h0 : 0 ≤ x) (h1 : x ≤ 18446744073709551615) :
    Calls Try.prog 87 #[.int .u64 x] w fun e w' => e = .returned (.int .i64 (Lib.bitLen x.toNat)) ∧ w' = w := Any.bits_Len64 Try.lays129 x w h0 h1
def Try.lays190_ren : Go.Shelf.Ren := ⟨fun | 190 => 73 | 125 => 76 | 258 => 75 | 128 => 86 | 129 => 87 | 302 => 77 | 303 => 78 | 304 => 79 | 305 => 80 | 306 => 81 | 307 => 82 | 308 => 83 | 309 => 84 | 310 => 85 | 333 => 88 | 329 => 89 | 330 => 90 | 334 => 91 | 335 => 92 | 336 => 93 | 344 => 94 | n => n, fun | 31 => 43 | 9 => 9 | 3 => 3 | 46 => 88 | 0 => 0 | 51 => 102 | 53 => 22 | 4 => 4 | 183 => 96 | 182 => 95 | 131 => 29 | 5 => 5 | 218 => 104 | 222 => 107 | 228 => 109 | 229 => 110 | n => n, fun | n => n⟩
theorem Try.lays190 : Go.Proofs.Lays.n190 Try.prog Try.lays190_ren := {
  mixed := by kernel_rfl
  f125 := Try.func76.trans (congrArg some (by kernel_rfl))
  f128 := Try.func86.trans (congrArg some (by kernel_rfl))
  f129 := Try.func87.trans (congrArg some (by kernel_rfl))
  f190 := Try.func73.trans (congrArg some (by kernel_rfl))
  f258 := Try.func75.trans (congrArg some (by kernel_rfl))
  f302 := Try.func77.trans (congrArg some (by kernel_rfl))
  f303 := Try.func78.trans (congrArg some (by kernel_rfl))
  f304 := Try.func79.trans (congrArg some (by kernel_rfl))
  f305 := Try.func80.trans (congrArg some (by kernel_rfl))
  f306 := Try.func81.trans (congrArg some (by kernel_rfl))
  f307 := Try.func82.trans (congrArg some (by kernel_rfl))
  f308 := Try.func83.trans (congrArg some (by kernel_rfl))
  f309 := Try.func84.trans (congrArg some (by kernel_rfl))
  f310 := Try.func85.trans (congrArg some (by kernel_rfl))
  f329 := Try.func89.trans (congrArg some (by kernel_rfl))
  f330 := Try.func90.trans (congrArg some (by kernel_rfl))
  f333 := Try.func88.trans (congrArg some (by kernel_rfl))
  f334 := Try.func91.trans (congrArg some (by kernel_rfl))
  f335 := Try.func92.trans (congrArg some (by kernel_rfl))
  f336 := Try.func93.trans (congrArg some (by kernel_rfl))
  f344 := Try.func94.trans (congrArg some (by kernel_rfl))
  t0 := Try.underlying0
  a0 := Try.isAgg0
  z0 := Try.sizeOf0
  v0 := Try.zeroValue0
  t3 := Try.underlying3
  a3 := Try.isAgg3
  z3 := Try.sizeOf3
  v3 := Try.zeroValue3
  t4 := Try.underlying4
  a4 := Try.isAgg4
  z4 := Try.sizeOf4
  v4 := Try.zeroValue4
  t5 := Try.underlying5
  a5 := Try.isAgg5
  z5 := Try.sizeOf5
  v5 := Try.zeroValue5
  t9 := Try.underlying9
  a9 := Try.isAgg9
  z9 := Try.sizeOf9
  v9 := Try.zeroValue9
  t31 := Try.underlying43
  a31 := Try.isAgg43
  z31 := Try.sizeOf43
  v31 := Try.zeroValue43
  t46 := Try.underlying88
  a46 := Try.isAgg88
  z46 := Try.sizeOf88
  v46 := Try.zeroValue88
  t51 := Try.underlying102
  a51 := Try.isAgg102
  z51 := Try.sizeOf102
  v51 := Try.zeroValue102
  t53 := Try.underlying22
  a53 := Try.isAgg22
  z53 := Try.sizeOf22
  v53 := Try.zeroValue22
  t131 := Try.underlying29
  a131 := Try.isAgg29
  z131 := Try.sizeOf29
  v131 := Try.zeroValue29
  t182 := Try.underlying95
  a182 := Try.isAgg95
  z182 := Try.sizeOf95
  v182 := Try.zeroValue95
  t183 := Try.underlying96
  a183 := Try.isAgg96
  z183 := Try.sizeOf96
  v183 := Try.zeroValue96
  t218 := Try.underlying104
  a218 := Try.isAgg104
  z218 := Try.sizeOf104
  v218 := Try.zeroValue104
  t222 := Try.underlying107
  a222 := Try.isAgg107
  z222 := Try.sizeOf107
  v222 := Try.zeroValue107
  t228 := Try.underlying109
  a228 := Try.isAgg109
  z228 := Try.sizeOf109
  v228 := Try.zeroValue109
  t229 := Try.underlying110
  a229 := Try.isAgg110
  z229 := Try.sizeOf110
  v229 := Try.zeroValue110 }
open Go.Sort Go.RowKit in
theorem Try.slices_Sort_string (blk off cap : Nat) (ss : List (List UInt8)) (w : World) (hH : Holds encStr w blk off ss.toArray) (hblk : blk < w.heap.size) (hsz : ss.length < 4611686018427387904) :
    Calls Try.prog 73 #[.slice (some ⟨blk, off, none⟩) ss.length cap] w fun e w' =>
      e = .returned (.tuple #[]) ∧ ∃ n os, w' = grow (putRow encStr (Sort.ahead w n) blk off (ss.mergeSort fun x y => decide (x ≤ y)).toArray) os := Any.slices_Sort_string Try.lays190 blk off cap ss w hH hblk hsz
def Try.lays192_ren : Go.Shelf.Ren := ⟨fun | 192 => 71 | 190 => 73 | 125 => 76 | 258 => 75 | 128 => 86 | 129 => 87 | 302 => 77 | 303 => 78 | 304 => 79 | 305 => 80 | 306 => 81 | 307 => 82 | 308 => 83 | 309 => 84 | 310 => 85 | 333 => 88 | 329 => 89 | 330 => 90 | 334 => 91 | 335 => 92 | 336 => 93 | 344 => 94 | n => n, fun | 31 => 43 | 0 => 0 | 9 => 9 | 3 => 3 | 46 => 88 | 51 => 102 | 53 => 22 | 4 => 4 | 183 => 96 | 182 => 95 | 131 => 29 | 5 => 5 | 218 => 104 | 222 => 107 | 228 => 109 | 229 => 110 | n => n, fun | n => n⟩
theorem Try.lays192 : Go.Proofs.Lays.n192 Try.prog Try.lays192_ren := {
  mixed := by kernel_rfl
  f125 := Try.func76.trans (congrArg some (by kernel_rfl))
  f128 := Try.func86.trans (congrArg some (by kernel_rfl))
  f129 := Try.func87.trans (congrArg some (by kernel_rfl))
  f190 := Try.func73.trans (congrArg some (by kernel_rfl))
  f192 := Try.func71.trans (congrArg some (by kernel_rfl))
  f258 := Try.func75.trans (congrArg some (by kernel_rfl))
  f302 := Try.func77.trans (congrArg some (by kernel_rfl))
  f303 := Try.func78.trans (congrArg some (by kernel_rfl))
  f304 := Try.func79.trans (congrArg some (by kernel_rfl))
  f305 := Try.func80.trans (congrArg some (by kernel_rfl))
  f306 := Try.func81.trans (congrArg some (by kernel_rfl))
  f307 := Try.func82.trans (congrArg some (by kernel_rfl))
  f308 := Try.func83.trans (congrArg some (by kernel_rfl))
  f309 := Try.func84.trans (congrArg some (by kernel_rfl))
  f310 := Try.func85.trans (congrArg some (by kernel_rfl))
  f329 := Try.func89.trans (congrArg some (by kernel_rfl))
  f330 := Try.func90.trans (congrArg some (by kernel_rfl))
  f333 := Try.func88.trans (congrArg some (by kernel_rfl))
  f334 := Try.func91.trans (congrArg some (by kernel_rfl))
  f335 := Try.func92.trans (congrArg some (by kernel_rfl))
  f336 := Try.func93.trans (congrArg some (by kernel_rfl))
  f344 := Try.func94.trans (congrArg some (by kernel_rfl))
  t0 := Try.underlying0
  a0 := Try.isAgg0
  z0 := Try.sizeOf0
  v0 := Try.zeroValue0
  t3 := Try.underlying3
  a3 := Try.isAgg3
  z3 := Try.sizeOf3
  v3 := Try.zeroValue3
  t4 := Try.underlying4
  a4 := Try.isAgg4
  z4 := Try.sizeOf4
  v4 := Try.zeroValue4
  t5 := Try.underlying5
  a5 := Try.isAgg5
  z5 := Try.sizeOf5
  v5 := Try.zeroValue5
  t9 := Try.underlying9
  a9 := Try.isAgg9
  z9 := Try.sizeOf9
  v9 := Try.zeroValue9
  t31 := Try.underlying43
  a31 := Try.isAgg43
  z31 := Try.sizeOf43
  v31 := Try.zeroValue43
  t46 := Try.underlying88
  a46 := Try.isAgg88
  z46 := Try.sizeOf88
  v46 := Try.zeroValue88
  t51 := Try.underlying102
  a51 := Try.isAgg102
  z51 := Try.sizeOf102
  v51 := Try.zeroValue102
  t53 := Try.underlying22
  a53 := Try.isAgg22
  z53 := Try.sizeOf22
  v53 := Try.zeroValue22
  t131 := Try.underlying29
  a131 := Try.isAgg29
  z131 := Try.sizeOf29
  v131 := Try.zeroValue29
  t182 := Try.underlying95
  a182 := Try.isAgg95
  z182 := Try.sizeOf95
  v182 := Try.zeroValue95
  t183 := Try.underlying96
  a183 := Try.isAgg96
  z183 := Try.sizeOf96
  v183 := Try.zeroValue96
  t218 := Try.underlying104
  a218 := Try.isAgg104
  z218 := Try.sizeOf104
  v218 := Try.zeroValue104
  t222 := Try.underlying107
  a222 := Try.isAgg107
  z222 := Try.sizeOf107
  v222 := Try.zeroValue107
  t228 := Try.underlying109
  a228 := Try.isAgg109
  z228 := Try.sizeOf109
  v228 := Try.zeroValue109
  t229 := Try.underlying110
  a229 := Try.isAgg110
  z229 := Try.sizeOf110
  v229 := Try.zeroValue110 }
open Go.Sort Go.RowKit in
theorem Try.sort_Strings (blk off cap : Nat) (ss : List (List UInt8)) (w : World) (hH : Holds encStr w blk off ss.toArray) (hblk : blk < w.heap.size) (hsz : ss.length < 4611686018427387904) :
    Calls Try.prog 71 #[.slice (some ⟨blk, off, none⟩) ss.length cap] w fun e w' =>
      e = .returned (.tuple #[]) ∧ ∃ n os, w' = grow (putRow encStr (Sort.ahead w n) blk off (ss.mergeSort fun x y => decide (x ≤ y)).toArray) os := Any.sort_Strings Try.lays192 blk off cap ss w hH hblk hsz
end Go.Proofs
