/-
  DERIVED: THE SHELF's CONTRACTS AT THIS DUMP, IN PLAIN WORDS (tools/lay-plain.mjs out of 'TryShelf.lean', which tools/lay-shelf.mjs wrote): THE SAME DECLARATIONS UNDER THE SAME NAMES: 'import', 'namespace', 'open', 'def', 'theorem' AND NOTHING ELSE: no command of the shelf's: FOR A HAND-IN. Each laying: the table of numbers ('.._ren') and one theorem, a field a fact of the dump's own or the kernel's comparison; each contract: ONE APPLICATION.
-/
import Derived.Shelf.Small.Bits
import Derived.Shelf.Strconv.Itoa0
import Derived.Shelf.Sort.Plain
import Derived.Test.YtjjkgpjhohnpaaaProg
namespace Go.Proofs
open Go.Shelf
def Try.lays128_ren : Go.Shelf.Ren := ⟨fun | 128 => 31 | n => n, fun | 51 => 60 | 3 => 3 | 4 => 4 | 46 => 50 | 5 => 5 | 9 => 9 | n => n, fun | n => n⟩
theorem Try.lays128 : Go.Proofs.Lays.n128 Try.prog Try.lays128_ren := {
  mixed := by kernel_rfl
  f128 := Try.func31.trans (congrArg some (by kernel_rfl))
  t3 := Try.underlying3
  a3 := Try.isAgg3
  z3 := Try.sizeOf3
  v3 := Try.zeroValue3
  t4 := Try.underlying4
  a4 := Try.isAgg4
  z4 := Try.sizeOf4
  v4 := Try.zeroValue4
  t5 := Try.underlying5
  a5 := Try.isAgg5
  z5 := Try.sizeOf5
  v5 := Try.zeroValue5
  t9 := Try.underlying9
  a9 := Try.isAgg9
  z9 := Try.sizeOf9
  v9 := Try.zeroValue9
  t46 := Try.underlying50
  a46 := Try.isAgg50
  z46 := Try.sizeOf50
  v46 := Try.zeroValue50
  t51 := Try.underlying60
  a51 := Try.isAgg60
  z51 := Try.sizeOf60
  v51 := Try.zeroValue60 }
/-- bits.Len32: "Len32 returns the minimum number of bits required to represent x; the result is 0 for x == 0.": IT RETURNS 'Lib.bitLen x'; the world is as it was. ('h0', 'h1': x is a uint32.) (LAID: no walk: one application.) -/
theorem Try.bits_Len32 (x : Int) (w : World) (h0 : 0 ≤ x) (h1 : x ≤ 4294967295) :
    Calls Try.prog 31 #[.int .u32 x] w fun e w' => e = .returned (.int .i64 (Lib.bitLen x.toNat)) ∧ w' = w := Any.bits_Len32 Try.lays128 x w h0 h1
def Try.lays125_ren : Go.Shelf.Ren := ⟨fun | 125 => 21 | 128 => 31 | 129 => 32 | n => n, fun | 46 => 50 | 3 => 3 | 51 => 60 | 53 => 62 | 4 => 4 | 5 => 5 | 9 => 9 | n => n, fun | n => n⟩
theorem Try.lays125 : Go.Proofs.Lays.n125 Try.prog Try.lays125_ren := {
  mixed := by kernel_rfl
  f125 := Try.func21.trans (congrArg some (by kernel_rfl))
  f128 := Try.func31.trans (congrArg some (by kernel_rfl))
  f129 := Try.func32.trans (congrArg some (by kernel_rfl))
  t3 := Try.underlying3
  a3 := Try.isAgg3
  z3 := Try.sizeOf3
  v3 := Try.zeroValue3
  t4 := Try.underlying4
  a4 := Try.isAgg4
  z4 := Try.sizeOf4
  v4 := Try.zeroValue4
  t5 := Try.underlying5
  a5 := Try.isAgg5
  z5 := Try.sizeOf5
  v5 := Try.zeroValue5
  t9 := Try.underlying9
  a9 := Try.isAgg9
  z9 := Try.sizeOf9
  v9 := Try.zeroValue9
  t46 := Try.underlying50
  a46 := Try.isAgg50
  z46 := Try.sizeOf50
  v46 := Try.zeroValue50
  t51 := Try.underlying60
  a51 := Try.isAgg60
  z51 := Try.sizeOf60
  v51 := Try.zeroValue60
  t53 := Try.underlying62
  a53 := Try.isAgg62
  z53 := Try.sizeOf62
  v53 := Try.zeroValue62 }
/-- bits.Len: "Len returns the minimum number of bits required to represent x; the result is 0 for x == 0.": IT RETURNS 'Lib.bitLen x'; the world is as it was. (A uint has 64 bits in the model.) ITS CALLEE bits.Len64 IS MET BY ITS OWN CONTRACT OFF THE SHELF (lay that first). (LAID: no walk: one application.) -/
theorem Try.bits_Len (x : Int) (w : World) (h0 : 0 ≤ x) (h1 : x ≤ 18446744073709551615) :
    Calls Try.prog 21 #[.int .u64 x] w fun e w' => e = .returned (.int .i64 (Lib.bitLen x.toNat)) ∧ w' = w := Any.bits_Len Try.lays125 x w h0 h1
def Try.lays129_ren : Go.Shelf.Ren := ⟨fun | 129 => 32 | n => n, fun | 53 => 62 | 3 => 3 | 4 => 4 | 46 => 50 | 5 => 5 | 9 => 9 | n => n, fun | n => n⟩
theorem Try.lays129 : Go.Proofs.Lays.n129 Try.prog Try.lays129_ren := {
  mixed := by kernel_rfl
  f129 := Try.func32.trans (congrArg some (by kernel_rfl))
  t3 := Try.underlying3
  a3 := Try.isAgg3
  z3 := Try.sizeOf3
  v3 := Try.zeroValue3
  t4 := Try.underlying4
  a4 := Try.isAgg4
  z4 := Try.sizeOf4
  v4 := Try.zeroValue4
  t5 := Try.underlying5
  a5 := Try.isAgg5
  z5 := Try.sizeOf5
  v5 := Try.zeroValue5
  t9 := Try.underlying9
  a9 := Try.isAgg9
  z9 := Try.sizeOf9
  v9 := Try.zeroValue9
  t46 := Try.underlying50
  a46 := Try.isAgg50
  z46 := Try.sizeOf50
  v46 := Try.zeroValue50
  t53 := Try.underlying62
  a53 := Try.isAgg62
  z53 := Try.sizeOf62
  v53 := Try.zeroValue62 }
/-- bits.Len64: "Len64 returns the minimum number of bits required to represent x; the result is 0 for x == 0.": IT RETURNS 'Lib.bitLen x'; the world is as it was. ('h0', 'h1': x is a uint64.) (LAID: no walk: one application.) -/
theorem Try.bits_Len64 (x : Int) (w : World) (h0 : 0 ≤ x) (h1 : x ≤ 18446744073709551615) :
    Calls Try.prog 32 #[.int .u64 x] w fun e w' => e = .returned (.int .i64 (Lib.bitLen x.toNat)) ∧ w' = w := Any.bits_Len64 Try.lays129 x w h0 h1
def Try.lays190_ren : Go.Shelf.Ren := ⟨fun | 190 => 19 | 125 => 21 | 258 => 20 | 128 => 31 | 129 => 32 | 302 => 22 | 303 => 23 | 304 => 24 | 305 => 25 | 306 => 26 | 307 => 27 | 308 => 28 | 309 => 29 | 310 => 30 | 333 => 33 | 329 => 34 | 330 => 35 | 334 => 36 | 335 => 37 | 336 => 38 | 344 => 39 | n => n, fun | 31 => 29 | 9 => 9 | 3 => 3 | 46 => 50 | 0 => 0 | 51 => 60 | 53 => 62 | 4 => 4 | 183 => 53 | 182 => 52 | 131 => 35 | 5 => 5 | 218 => 63 | 222 => 67 | 228 => 70 | 229 => 71 | n => n, fun | n => n⟩
theorem Try.lays190 : Go.Proofs.Lays.n190 Try.prog Try.lays190_ren := {
  mixed := by kernel_rfl
  f125 := Try.func21.trans (congrArg some (by kernel_rfl))
  f128 := Try.func31.trans (congrArg some (by kernel_rfl))
  f129 := Try.func32.trans (congrArg some (by kernel_rfl))
  f190 := Try.func19.trans (congrArg some (by kernel_rfl))
  f258 := Try.func20.trans (congrArg some (by kernel_rfl))
  f302 := Try.func22.trans (congrArg some (by kernel_rfl))
  f303 := Try.func23.trans (congrArg some (by kernel_rfl))
  f304 := Try.func24.trans (congrArg some (by kernel_rfl))
  f305 := Try.func25.trans (congrArg some (by kernel_rfl))
  f306 := Try.func26.trans (congrArg some (by kernel_rfl))
  f307 := Try.func27.trans (congrArg some (by kernel_rfl))
  f308 := Try.func28.trans (congrArg some (by kernel_rfl))
  f309 := Try.func29.trans (congrArg some (by kernel_rfl))
  f310 := Try.func30.trans (congrArg some (by kernel_rfl))
  f329 := Try.func34.trans (congrArg some (by kernel_rfl))
  f330 := Try.func35.trans (congrArg some (by kernel_rfl))
  f333 := Try.func33.trans (congrArg some (by kernel_rfl))
  f334 := Try.func36.trans (congrArg some (by kernel_rfl))
  f335 := Try.func37.trans (congrArg some (by kernel_rfl))
  f336 := Try.func38.trans (congrArg some (by kernel_rfl))
  f344 := Try.func39.trans (congrArg some (by kernel_rfl))
  t0 := Try.underlying0
  a0 := Try.isAgg0
  z0 := Try.sizeOf0
  v0 := Try.zeroValue0
  t3 := Try.underlying3
  a3 := Try.isAgg3
  z3 := Try.sizeOf3
  v3 := Try.zeroValue3
  t4 := Try.underlying4
  a4 := Try.isAgg4
  z4 := Try.sizeOf4
  v4 := Try.zeroValue4
  t5 := Try.underlying5
  a5 := Try.isAgg5
  z5 := Try.sizeOf5
  v5 := Try.zeroValue5
  t9 := Try.underlying9
  a9 := Try.isAgg9
  z9 := Try.sizeOf9
  v9 := Try.zeroValue9
  t31 := Try.underlying29
  a31 := Try.isAgg29
  z31 := Try.sizeOf29
  v31 := Try.zeroValue29
  t46 := Try.underlying50
  a46 := Try.isAgg50
  z46 := Try.sizeOf50
  v46 := Try.zeroValue50
  t51 := Try.underlying60
  a51 := Try.isAgg60
  z51 := Try.sizeOf60
  v51 := Try.zeroValue60
  t53 := Try.underlying62
  a53 := Try.isAgg62
  z53 := Try.sizeOf62
  v53 := Try.zeroValue62
  t131 := Try.underlying35
  a131 := Try.isAgg35
  z131 := Try.sizeOf35
  v131 := Try.zeroValue35
  t182 := Try.underlying52
  a182 := Try.isAgg52
  z182 := Try.sizeOf52
  v182 := Try.zeroValue52
  t183 := Try.underlying53
  a183 := Try.isAgg53
  z183 := Try.sizeOf53
  v183 := Try.zeroValue53
  t218 := Try.underlying63
  a218 := Try.isAgg63
  z218 := Try.sizeOf63
  v218 := Try.zeroValue63
  t222 := Try.underlying67
  a222 := Try.isAgg67
  z222 := Try.sizeOf67
  v222 := Try.zeroValue67
  t228 := Try.underlying70
  a228 := Try.isAgg70
  z228 := Try.sizeOf70
  v228 := Try.zeroValue70
  t229 := Try.underlying71
  a229 := Try.isAgg71
  z229 := Try.sizeOf71
  v229 := Try.zeroValue71 }
open Go.Sort Go.RowKit in
theorem Try.slices_Sort_string (blk off cap : Nat) (ss : List (List UInt8)) (w : World) (hH : Holds encStr w blk off ss.toArray) (hblk : blk < w.heap.size) (hsz : ss.length < 4611686018427387904) :
    Calls Try.prog 19 #[.slice (some ⟨blk, off, none⟩) ss.length cap] w fun e w' =>
      e = .returned (.tuple #[]) ∧ ∃ n os, w' = grow (putRow encStr (Sort.ahead w n) blk off (ss.mergeSort fun x y => decide (x ≤ y)).toArray) os := Any.slices_Sort_string Try.lays190 blk off cap ss w hH hblk hsz
def Try.lays192_ren : Go.Shelf.Ren := ⟨fun | 192 => 18 | 190 => 19 | 125 => 21 | 258 => 20 | 128 => 31 | 129 => 32 | 302 => 22 | 303 => 23 | 304 => 24 | 305 => 25 | 306 => 26 | 307 => 27 | 308 => 28 | 309 => 29 | 310 => 30 | 333 => 33 | 329 => 34 | 330 => 35 | 334 => 36 | 335 => 37 | 336 => 38 | 344 => 39 | n => n, fun | 31 => 29 | 0 => 0 | 9 => 9 | 3 => 3 | 46 => 50 | 51 => 60 | 53 => 62 | 4 => 4 | 183 => 53 | 182 => 52 | 131 => 35 | 5 => 5 | 218 => 63 | 222 => 67 | 228 => 70 | 229 => 71 | n => n, fun | n => n⟩
theorem Try.lays192 : Go.Proofs.Lays.n192 Try.prog Try.lays192_ren := {
  mixed := by kernel_rfl
  f125 := Try.func21.trans (congrArg some (by kernel_rfl))
  f128 := Try.func31.trans (congrArg some (by kernel_rfl))
  f129 := Try.func32.trans (congrArg some (by kernel_rfl))
  f190 := Try.func19.trans (congrArg some (by kernel_rfl))
  f192 := Try.func18.trans (congrArg some (by kernel_rfl))
  f258 := Try.func20.trans (congrArg some (by kernel_rfl))
  f302 := Try.func22.trans (congrArg some (by kernel_rfl))
  f303 := Try.func23.trans (congrArg some (by kernel_rfl))
  f304 := Try.func24.trans (congrArg some (by kernel_rfl))
  f305 := Try.func25.trans (congrArg some (by kernel_rfl))
  f306 := Try.func26.trans (congrArg some (by kernel_rfl))
  f307 := Try.func27.trans (congrArg some (by kernel_rfl))
  f308 := Try.func28.trans (congrArg some (by kernel_rfl))
  f309 := Try.func29.trans (congrArg some (by kernel_rfl))
  f310 := Try.func30.trans (congrArg some (by kernel_rfl))
  f329 := Try.func34.trans (congrArg some (by kernel_rfl))
  f330 := Try.func35.trans (congrArg some (by kernel_rfl))
  f333 := Try.func33.trans (congrArg some (by kernel_rfl))
  f334 := Try.func36.trans (congrArg some (by kernel_rfl))
  f335 := Try.func37.trans (congrArg some (by kernel_rfl))
  f336 := Try.func38.trans (congrArg some (by kernel_rfl))
  f344 := Try.func39.trans (congrArg some (by kernel_rfl))
  t0 := Try.underlying0
  a0 := Try.isAgg0
  z0 := Try.sizeOf0
  v0 := Try.zeroValue0
  t3 := Try.underlying3
  a3 := Try.isAgg3
  z3 := Try.sizeOf3
  v3 := Try.zeroValue3
  t4 := Try.underlying4
  a4 := Try.isAgg4
  z4 := Try.sizeOf4
  v4 := Try.zeroValue4
  t5 := Try.underlying5
  a5 := Try.isAgg5
  z5 := Try.sizeOf5
  v5 := Try.zeroValue5
  t9 := Try.underlying9
  a9 := Try.isAgg9
  z9 := Try.sizeOf9
  v9 := Try.zeroValue9
  t31 := Try.underlying29
  a31 := Try.isAgg29
  z31 := Try.sizeOf29
  v31 := Try.zeroValue29
  t46 := Try.underlying50
  a46 := Try.isAgg50
  z46 := Try.sizeOf50
  v46 := Try.zeroValue50
  t51 := Try.underlying60
  a51 := Try.isAgg60
  z51 := Try.sizeOf60
  v51 := Try.zeroValue60
  t53 := Try.underlying62
  a53 := Try.isAgg62
  z53 := Try.sizeOf62
  v53 := Try.zeroValue62
  t131 := Try.underlying35
  a131 := Try.isAgg35
  z131 := Try.sizeOf35
  v131 := Try.zeroValue35
  t182 := Try.underlying52
  a182 := Try.isAgg52
  z182 := Try.sizeOf52
  v182 := Try.zeroValue52
  t183 := Try.underlying53
  a183 := Try.isAgg53
  z183 := Try.sizeOf53
  v183 := Try.zeroValue53
  t218 := Try.underlying63
  a218 := Try.isAgg63
  z218 := Try.sizeOf63
  v218 := Try.zeroValue63
  t222 := Try.underlying67
  a222 := Try.isAgg67
  z222 := Try.sizeOf67
  v222 := Try.zeroValue67
  t228 := Try.underlying70
  a228 := Try.isAgg70
  z228 := Try.sizeOf70
  v228 := Try.zeroValue70
  t229 := Try.underlying71
  a229 := Try.isAgg71
  z229 := Try.sizeOf71
  v229 := Try.zeroValue71 }
open Go.Sort Go.RowKit in
theorem Try.sort_Strings (blk off cap : Nat) (ss : List (List UInt8)) (w : World) (hH : Holds encStr w blk off ss.toArray) (hblk : blk < w.heap.size) (hsz : ss.length < 4611686018427387904) :
    Calls Try.prog 18 #[.slice (some ⟨blk, off, none⟩) ss.length cap] w fun e w' =>
      e = .returned (.tuple #[]) ∧ ∃ n os, w' = grow (putRow encStr (Sort.ahead w n) blk off (ss.mergeSort fun x y => decide (x ≤ y)).toArray) os := Any.sort_Strings Try.lays192 blk off cap ss w hH hblk hsz
end Go.Proofs
