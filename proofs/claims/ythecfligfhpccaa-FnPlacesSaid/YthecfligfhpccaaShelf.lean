/-
  DERIVED: THE SHELF's CONTRACTS AT THIS DUMP, IN PLAIN WORDS (tools/lay-plain.mjs out of 'TryShelf.lean', which tools/lay-shelf.mjs wrote): THE SAME DECLARATIONS UNDER THE SAME NAMES: 'import', 'namespace', 'open', 'def', 'theorem' AND NOTHING ELSE: no command of the shelf's: FOR A HAND-IN. Each laying: the table of numbers ('.._ren') and one theorem, a field a fact of the dump's own or the kernel's comparison; each contract: ONE APPLICATION.
-/
import Derived.Shelf.Sort.Plain
import Derived.Shelf.Bits.Mul64
import Derived.Shelf.Slices.In.SortNone
import Derived.Shelf.Slices.In.SortNone2
import Derived.Test.YthecfligfhpccaaProg
namespace Go.Proofs
open Go.Shelf
def Try.lays190_ren : Go.Shelf.Ren := ⟨fun | 190 => 36 | 125 => 47 | 258 => 46 | 128 => 63 | 129 => 64 | 302 => 54 | 303 => 55 | 304 => 56 | 305 => 57 | 306 => 58 | 307 => 59 | 308 => 60 | 309 => 61 | 310 => 62 | 333 => 70 | 329 => 71 | 330 => 72 | 334 => 73 | 335 => 74 | 336 => 75 | 344 => 76 | n => n, fun | 31 => 26 | 9 => 9 | 3 => 3 | 46 => 93 | 0 => 0 | 51 => 97 | 53 => 110 | 4 => 4 | 183 => 102 | 182 => 101 | 131 => 106 | 5 => 5 | 218 => 117 | 222 => 121 | 228 => 124 | 229 => 125 | n => n, fun | n => n⟩
theorem Try.lays190 : Go.Proofs.Lays.n190 Try.prog Try.lays190_ren := {
  mixed := by kernel_rfl
  f125 := Try.func47.trans (congrArg some (by kernel_rfl))
  f128 := Try.func63.trans (congrArg some (by kernel_rfl))
  f129 := Try.func64.trans (congrArg some (by kernel_rfl))
  f190 := Try.func36.trans (congrArg some (by kernel_rfl))
  f258 := Try.func46.trans (congrArg some (by kernel_rfl))
  f302 := Try.func54.trans (congrArg some (by kernel_rfl))
  f303 := Try.func55.trans (congrArg some (by kernel_rfl))
  f304 := Try.func56.trans (congrArg some (by kernel_rfl))
  f305 := Try.func57.trans (congrArg some (by kernel_rfl))
  f306 := Try.func58.trans (congrArg some (by kernel_rfl))
  f307 := Try.func59.trans (congrArg some (by kernel_rfl))
  f308 := Try.func60.trans (congrArg some (by kernel_rfl))
  f309 := Try.func61.trans (congrArg some (by kernel_rfl))
  f310 := Try.func62.trans (congrArg some (by kernel_rfl))
  f329 := Try.func71.trans (congrArg some (by kernel_rfl))
  f330 := Try.func72.trans (congrArg some (by kernel_rfl))
  f333 := Try.func70.trans (congrArg some (by kernel_rfl))
  f334 := Try.func73.trans (congrArg some (by kernel_rfl))
  f335 := Try.func74.trans (congrArg some (by kernel_rfl))
  f336 := Try.func75.trans (congrArg some (by kernel_rfl))
  f344 := Try.func76.trans (congrArg some (by kernel_rfl))
  t0 := Try.underlying0
  a0 := Try.isAgg0
  z0 := Try.sizeOf0
  v0 := Try.zeroValue0
  t3 := Try.underlying3
  a3 := Try.isAgg3
  z3 := Try.sizeOf3
  v3 := Try.zeroValue3
  t4 := Try.underlying4
  a4 := Try.isAgg4
  z4 := Try.sizeOf4
  v4 := Try.zeroValue4
  t5 := Try.underlying5
  a5 := Try.isAgg5
  z5 := Try.sizeOf5
  v5 := Try.zeroValue5
  t9 := Try.underlying9
  a9 := Try.isAgg9
  z9 := Try.sizeOf9
  v9 := Try.zeroValue9
  t31 := Try.underlying26
  a31 := Try.isAgg26
  z31 := Try.sizeOf26
  v31 := Try.zeroValue26
  t46 := Try.underlying93
  a46 := Try.isAgg93
  z46 := Try.sizeOf93
  v46 := Try.zeroValue93
  t51 := Try.underlying97
  a51 := Try.isAgg97
  z51 := Try.sizeOf97
  v51 := Try.zeroValue97
  t53 := Try.underlying110
  a53 := Try.isAgg110
  z53 := Try.sizeOf110
  v53 := Try.zeroValue110
  t131 := Try.underlying106
  a131 := Try.isAgg106
  z131 := Try.sizeOf106
  v131 := Try.zeroValue106
  t182 := Try.underlying101
  a182 := Try.isAgg101
  z182 := Try.sizeOf101
  v182 := Try.zeroValue101
  t183 := Try.underlying102
  a183 := Try.isAgg102
  z183 := Try.sizeOf102
  v183 := Try.zeroValue102
  t218 := Try.underlying117
  a218 := Try.isAgg117
  z218 := Try.sizeOf117
  v218 := Try.zeroValue117
  t222 := Try.underlying121
  a222 := Try.isAgg121
  z222 := Try.sizeOf121
  v222 := Try.zeroValue121
  t228 := Try.underlying124
  a228 := Try.isAgg124
  z228 := Try.sizeOf124
  v228 := Try.zeroValue124
  t229 := Try.underlying125
  a229 := Try.isAgg125
  z229 := Try.sizeOf125
  v229 := Try.zeroValue125 }
open Go.Sort Go.RowKit in
theorem Try.slices_Sort_string (blk off cap : Nat) (ss : List (List UInt8)) (w : World) (hH : Holds encStr w blk off ss.toArray) (hblk : blk < w.heap.size) (hsz : ss.length < 4611686018427387904) :
    Calls Try.prog 36 #[.slice (some ⟨blk, off, none⟩) ss.length cap] w fun e w' =>
      e = .returned (.tuple #[]) ∧ ∃ n os, w' = grow (putRow encStr (Sort.ahead w n) blk off (ss.mergeSort fun x y => decide (x ≤ y)).toArray) os := Any.slices_Sort_string Try.lays190 blk off cap ss w hH hblk hsz
def Try.lays192_ren : Go.Shelf.Ren := ⟨fun | 192 => 29 | 190 => 36 | 125 => 47 | 258 => 46 | 128 => 63 | 129 => 64 | 302 => 54 | 303 => 55 | 304 => 56 | 305 => 57 | 306 => 58 | 307 => 59 | 308 => 60 | 309 => 61 | 310 => 62 | 333 => 70 | 329 => 71 | 330 => 72 | 334 => 73 | 335 => 74 | 336 => 75 | 344 => 76 | n => n, fun | 31 => 26 | 0 => 0 | 9 => 9 | 3 => 3 | 46 => 93 | 51 => 97 | 53 => 110 | 4 => 4 | 183 => 102 | 182 => 101 | 131 => 106 | 5 => 5 | 218 => 117 | 222 => 121 | 228 => 124 | 229 => 125 | n => n, fun | n => n⟩
theorem Try.lays192 : Go.Proofs.Lays.n192 Try.prog Try.lays192_ren := {
  mixed := by kernel_rfl
  f125 := Try.func47.trans (congrArg some (by kernel_rfl))
  f128 := Try.func63.trans (congrArg some (by kernel_rfl))
  f129 := Try.func64.trans (congrArg some (by kernel_rfl))
  f190 := Try.func36.trans (congrArg some (by kernel_rfl))
  f192 := Try.func29.trans (congrArg some (by kernel_rfl))
  f258 := Try.func46.trans (congrArg some (by kernel_rfl))
  f302 := Try.func54.trans (congrArg some (by kernel_rfl))
  f303 := Try.func55.trans (congrArg some (by kernel_rfl))
  f304 := Try.func56.trans (congrArg some (by kernel_rfl))
  f305 := Try.func57.trans (congrArg some (by kernel_rfl))
  f306 := Try.func58.trans (congrArg some (by kernel_rfl))
  f307 := Try.func59.trans (congrArg some (by kernel_rfl))
  f308 := Try.func60.trans (congrArg some (by kernel_rfl))
  f309 := Try.func61.trans (congrArg some (by kernel_rfl))
  f310 := Try.func62.trans (congrArg some (by kernel_rfl))
  f329 := Try.func71.trans (congrArg some (by kernel_rfl))
  f330 := Try.func72.trans (congrArg some (by kernel_rfl))
  f333 := Try.func70.trans (congrArg some (by kernel_rfl))
  f334 := Try.func73.trans (congrArg some (by kernel_rfl))
  f335 := Try.func74.trans (congrArg some (by kernel_rfl))
  f336 := Try.func75.trans (congrArg some (by kernel_rfl))
  f344 := Try.func76.trans (congrArg some (by kernel_rfl))
  t0 := Try.underlying0
  a0 := Try.isAgg0
  z0 := Try.sizeOf0
  v0 := Try.zeroValue0
  t3 := Try.underlying3
  a3 := Try.isAgg3
  z3 := Try.sizeOf3
  v3 := Try.zeroValue3
  t4 := Try.underlying4
  a4 := Try.isAgg4
  z4 := Try.sizeOf4
  v4 := Try.zeroValue4
  t5 := Try.underlying5
  a5 := Try.isAgg5
  z5 := Try.sizeOf5
  v5 := Try.zeroValue5
  t9 := Try.underlying9
  a9 := Try.isAgg9
  z9 := Try.sizeOf9
  v9 := Try.zeroValue9
  t31 := Try.underlying26
  a31 := Try.isAgg26
  z31 := Try.sizeOf26
  v31 := Try.zeroValue26
  t46 := Try.underlying93
  a46 := Try.isAgg93
  z46 := Try.sizeOf93
  v46 := Try.zeroValue93
  t51 := Try.underlying97
  a51 := Try.isAgg97
  z51 := Try.sizeOf97
  v51 := Try.zeroValue97
  t53 := Try.underlying110
  a53 := Try.isAgg110
  z53 := Try.sizeOf110
  v53 := Try.zeroValue110
  t131 := Try.underlying106
  a131 := Try.isAgg106
  z131 := Try.sizeOf106
  v131 := Try.zeroValue106
  t182 := Try.underlying101
  a182 := Try.isAgg101
  z182 := Try.sizeOf101
  v182 := Try.zeroValue101
  t183 := Try.underlying102
  a183 := Try.isAgg102
  z183 := Try.sizeOf102
  v183 := Try.zeroValue102
  t218 := Try.underlying117
  a218 := Try.isAgg117
  z218 := Try.sizeOf117
  v218 := Try.zeroValue117
  t222 := Try.underlying121
  a222 := Try.isAgg121
  z222 := Try.sizeOf121
  v222 := Try.zeroValue121
  t228 := Try.underlying124
  a228 := Try.isAgg124
  z228 := Try.sizeOf124
  v228 := Try.zeroValue124
  t229 := Try.underlying125
  a229 := Try.isAgg125
  z229 := Try.sizeOf125
  v229 := Try.zeroValue125 }
open Go.Sort Go.RowKit in
theorem Try.sort_Strings (blk off cap : Nat) (ss : List (List UInt8)) (w : World) (hH : Holds encStr w blk off ss.toArray) (hblk : blk < w.heap.size) (hsz : ss.length < 4611686018427387904) :
    Calls Try.prog 29 #[.slice (some ⟨blk, off, none⟩) ss.length cap] w fun e w' =>
      e = .returned (.tuple #[]) ∧ ∃ n os, w' = grow (putRow encStr (Sort.ahead w n) blk off (ss.mergeSort fun x y => decide (x ≤ y)).toArray) os := Any.sort_Strings Try.lays192 blk off cap ss w hH hblk hsz
def Try.lays264_ren : Go.Shelf.Ren := ⟨fun | 264 => 68 | n => n, fun | 53 => 110 | 46 => 93 | n => n, fun | n => n⟩
theorem Try.lays264 : Go.Proofs.Lays.n264 Try.prog Try.lays264_ren := {
  mixed := by kernel_rfl
  f264 := Try.func68.trans (congrArg some (by kernel_rfl))
  t46 := Try.underlying93
  a46 := Try.isAgg93
  z46 := Try.sizeOf93
  v46 := Try.zeroValue93
  t53 := Try.underlying110
  a53 := Try.isAgg110
  z53 := Try.sizeOf110
  v53 := Try.zeroValue110 }
open Go.RowKit Go.Lib in
theorem Try.bits_Mul64 (x y : Nat) (hx : x < 18446744073709551616) (hy : y < 18446744073709551616) (w : World) :
    Calls Try.prog 68 #[.int .u64 x, .int .u64 y] w fun e w' => e = .returned (.tuple #[.int .u64 ((x * y / 18446744073709551616 : Nat) : Int), .int .u64 ((x * y % 18446744073709551616 : Nat) : Int)]) ∧ w' = w := Any.bits_Mul64 Try.lays264 x y hx hy w
def Try.lays212_ren : Go.Shelf.Ren := ⟨fun | 212 => 50 | 263 => 67 | 264 => 68 | n => n, fun | 46 => 93 | 51 => 97 | 146 => 98 | 53 => 110 | 148 => 115 | n => n, fun | n => n⟩
theorem Try.lays212 : Go.Proofs.Lays.n212 Try.prog Try.lays212_ren := {
  mixed := by kernel_rfl
  f212 := Try.func50.trans (congrArg some (by kernel_rfl))
  f263 := Try.func67.trans (congrArg some (by kernel_rfl))
  f264 := Try.func68.trans (congrArg some (by kernel_rfl))
  t46 := Try.underlying93
  a46 := Try.isAgg93
  z46 := Try.sizeOf93
  v46 := Try.zeroValue93
  t51 := Try.underlying97
  a51 := Try.isAgg97
  z51 := Try.sizeOf97
  v51 := Try.zeroValue97
  t53 := Try.underlying110
  a53 := Try.isAgg110
  z53 := Try.sizeOf110
  v53 := Try.zeroValue110
  t146 := Try.underlying98
  a146 := Try.isAgg98
  z146 := Try.sizeOf98
  v146 := Try.zeroValue98
  t148 := Try.underlying115
  a148 := Try.isAgg115
  z148 := Try.sizeOf115
  v148 := Try.zeroValue115 }
open Go.RowKit Go.Lib in
/-- math/bits.Mul: "Mul returns the full-width product of x and y": on a machine of 64 bits: Mul64's. (LAID: no walk: one application.) -/
theorem Try.bits_Mul (x y : Nat) (hx : x < 18446744073709551616) (hy : y < 18446744073709551616) (w : World) :
    Calls Try.prog 50 #[.int .u64 x, .int .u64 y] w fun e w' => e = .returned (.tuple #[.int .u64 ((x * y / 18446744073709551616 : Nat) : Int), .int .u64 ((x * y % 18446744073709551616 : Nat) : Int)]) ∧ w' = w := Any.bits_Mul Try.lays212 x y hx hy w
open Go.RowKit Go.Sort in
/-- .. and plain. (LAID: no walk: one application.) -/
theorem Try.slices_Sort_string_none (p : Option Addr) (cap : Nat) (w : World) :
    Calls Try.prog 36 #[.slice p 0 cap] w fun e w' => e = .returned (.tuple #[]) ∧ w' = w := Any.slices_Sort_string_none Try.lays190 p cap w
open Go.RowKit Go.Sort in
/-- .. and plain. (LAID: no walk: one application.) -/
theorem Try.sort_Strings_none (p : Option Addr) (cap : Nat) (w : World) :
    Calls Try.prog 29 #[.slice p 0 cap] w fun e w' => e = .returned (.tuple #[]) ∧ w' = w := Any.sort_Strings_none Try.lays192 p cap w
end Go.Proofs
