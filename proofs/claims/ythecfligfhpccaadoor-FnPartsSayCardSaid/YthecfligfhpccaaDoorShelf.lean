/-
  DERIVED: THE SHELF's CONTRACTS AT THIS DUMP, IN PLAIN WORDS (tools/lay-plain.mjs out of 'TrydShelf.lean', which tools/lay-shelf.mjs wrote): THE SAME DECLARATIONS UNDER THE SAME NAMES: 'import', 'namespace', 'open', 'def', 'theorem' AND NOTHING ELSE: no command of the shelf's: FOR A HAND-IN. Each laying: the table of numbers ('.._ren') and one theorem, a field a fact of the dump's own or the kernel's comparison; each contract: ONE APPLICATION.
-/
import Derived.Shelf.Small.Bits
import Derived.Shelf.Strconv.Itoa0
import Derived.Shelf.Sort.Plain
import Derived.Shelf.Unicode.Props
import Derived.Shelf.Unicode.Decode
import Derived.Shelf.Unicode.DecodeSlow
import Derived.Shelf.Unicode.DecodeAny
import Derived.Shelf.Unicode.Is16White
import Derived.Shelf.Unicode.IsSpaceAny
import Derived.Shelf.Unicode.Is16Any
import Derived.Shelf.Unicode.Is32Any
import Derived.Shelf.Unicode.ExclAny
import Derived.Shelf.Unicode.PredsAny
import Derived.Shelf.Unicode.PredsPay
import Derived.Ground.GgnProg
import Derived.Shelf.Unicode.PredsGn
import Derived.Shelf.Slices.In.SortNone
import Derived.Shelf.Slices.In.SortNone2
import Derived.Test.YthecfligfhpccaaDoorProg
namespace Go.Proofs
open Go.Shelf
def Tryd.lays128_ren : Go.Shelf.Ren := ⟨fun | 128 => 53 | n => n, fun | 51 => 59 | 3 => 3 | 4 => 4 | 46 => 63 | 5 => 5 | 9 => 9 | n => n, fun | n => n⟩
theorem Tryd.lays128 : Go.Proofs.Lays.n128 Tryd.prog Tryd.lays128_ren := {
  mixed := by kernel_rfl
  f128 := Tryd.func53.trans (congrArg some (by kernel_rfl))
  t3 := Tryd.underlying3
  a3 := Tryd.isAgg3
  z3 := Tryd.sizeOf3
  v3 := Tryd.zeroValue3
  t4 := Tryd.underlying4
  a4 := Tryd.isAgg4
  z4 := Tryd.sizeOf4
  v4 := Tryd.zeroValue4
  t5 := Tryd.underlying5
  a5 := Tryd.isAgg5
  z5 := Tryd.sizeOf5
  v5 := Tryd.zeroValue5
  t9 := Tryd.underlying9
  a9 := Tryd.isAgg9
  z9 := Tryd.sizeOf9
  v9 := Tryd.zeroValue9
  t46 := Tryd.underlying63
  a46 := Tryd.isAgg63
  z46 := Tryd.sizeOf63
  v46 := Tryd.zeroValue63
  t51 := Tryd.underlying59
  a51 := Tryd.isAgg59
  z51 := Tryd.sizeOf59
  v51 := Tryd.zeroValue59 }
/-- bits.Len32: "Len32 returns the minimum number of bits required to represent x; the result is 0 for x == 0.": IT RETURNS 'Lib.bitLen x'; the world is as it was. ('h0', 'h1': x is a uint32.) (LAID: no walk: one application.) -/
theorem Tryd.bits_Len32 (x : Int) (w : World) (h0 : 0 ≤ x) (h1 : x ≤ 4294967295) :
    Calls Tryd.prog 53 #[.int .u32 x] w fun e w' => e = .returned (.int .i64 (Lib.bitLen x.toNat)) ∧ w' = w := Any.bits_Len32 Tryd.lays128 x w h0 h1
def Tryd.lays125_ren : Go.Shelf.Ren := ⟨fun | 125 => 40 | 128 => 53 | 129 => 54 | n => n, fun | 46 => 63 | 3 => 3 | 51 => 59 | 53 => 95 | 4 => 4 | 5 => 5 | 9 => 9 | n => n, fun | n => n⟩
theorem Tryd.lays125 : Go.Proofs.Lays.n125 Tryd.prog Tryd.lays125_ren := {
  mixed := by kernel_rfl
  f125 := Tryd.func40.trans (congrArg some (by kernel_rfl))
  f128 := Tryd.func53.trans (congrArg some (by kernel_rfl))
  f129 := Tryd.func54.trans (congrArg some (by kernel_rfl))
  t3 := Tryd.underlying3
  a3 := Tryd.isAgg3
  z3 := Tryd.sizeOf3
  v3 := Tryd.zeroValue3
  t4 := Tryd.underlying4
  a4 := Tryd.isAgg4
  z4 := Tryd.sizeOf4
  v4 := Tryd.zeroValue4
  t5 := Tryd.underlying5
  a5 := Tryd.isAgg5
  z5 := Tryd.sizeOf5
  v5 := Tryd.zeroValue5
  t9 := Tryd.underlying9
  a9 := Tryd.isAgg9
  z9 := Tryd.sizeOf9
  v9 := Tryd.zeroValue9
  t46 := Tryd.underlying63
  a46 := Tryd.isAgg63
  z46 := Tryd.sizeOf63
  v46 := Tryd.zeroValue63
  t51 := Tryd.underlying59
  a51 := Tryd.isAgg59
  z51 := Tryd.sizeOf59
  v51 := Tryd.zeroValue59
  t53 := Tryd.underlying95
  a53 := Tryd.isAgg95
  z53 := Tryd.sizeOf95
  v53 := Tryd.zeroValue95 }
/-- bits.Len: "Len returns the minimum number of bits required to represent x; the result is 0 for x == 0.": IT RETURNS 'Lib.bitLen x'; the world is as it was. (A uint has 64 bits in the model.) ITS CALLEE bits.Len64 IS MET BY ITS OWN CONTRACT OFF THE SHELF (lay that first). (LAID: no walk: one application.) -/
theorem Tryd.bits_Len (x : Int) (w : World) (h0 : 0 ≤ x) (h1 : x ≤ 18446744073709551615) :
    Calls Tryd.prog 40 #[.int .u64 x] w fun e w' => e = .returned (.int .i64 (Lib.bitLen x.toNat)) ∧ w' = w := Any.bits_Len Tryd.lays125 x w h0 h1
def Tryd.lays129_ren : Go.Shelf.Ren := ⟨fun | 129 => 54 | n => n, fun | 53 => 95 | 3 => 3 | 4 => 4 | 46 => 63 | 5 => 5 | 9 => 9 | n => n, fun | n => n⟩
theorem Tryd.lays129 : Go.Proofs.Lays.n129 Tryd.prog Tryd.lays129_ren := {
  mixed := by kernel_rfl
  f129 := Tryd.func54.trans (congrArg some (by kernel_rfl))
  t3 := Tryd.underlying3
  a3 := Tryd.isAgg3
  z3 := Tryd.sizeOf3
  v3 := Tryd.zeroValue3
  t4 := Tryd.underlying4
  a4 := Tryd.isAgg4
  z4 := Tryd.sizeOf4
  v4 := Tryd.zeroValue4
  t5 := Tryd.underlying5
  a5 := Tryd.isAgg5
  z5 := Tryd.sizeOf5
  v5 := Tryd.zeroValue5
  t9 := Tryd.underlying9
  a9 := Tryd.isAgg9
  z9 := Tryd.sizeOf9
  v9 := Tryd.zeroValue9
  t46 := Tryd.underlying63
  a46 := Tryd.isAgg63
  z46 := Tryd.sizeOf63
  v46 := Tryd.zeroValue63
  t53 := Tryd.underlying95
  a53 := Tryd.isAgg95
  z53 := Tryd.sizeOf95
  v53 := Tryd.zeroValue95 }
/-- bits.Len64: "Len64 returns the minimum number of bits required to represent x; the result is 0 for x == 0.": IT RETURNS 'Lib.bitLen x'; the world is as it was. ('h0', 'h1': x is a uint64.) (LAID: no walk: one application.) -/
theorem Tryd.bits_Len64 (x : Int) (w : World) (h0 : 0 ≤ x) (h1 : x ≤ 18446744073709551615) :
    Calls Tryd.prog 54 #[.int .u64 x] w fun e w' => e = .returned (.int .i64 (Lib.bitLen x.toNat)) ∧ w' = w := Any.bits_Len64 Tryd.lays129 x w h0 h1
def Tryd.lays190_ren : Go.Shelf.Ren := ⟨fun | 190 => 32 | 125 => 40 | 258 => 39 | 128 => 53 | 129 => 54 | 302 => 44 | 303 => 45 | 304 => 46 | 305 => 47 | 306 => 48 | 307 => 49 | 308 => 50 | 309 => 51 | 310 => 52 | 333 => 55 | 329 => 56 | 330 => 57 | 334 => 58 | 335 => 59 | 336 => 60 | 344 => 61 | n => n, fun | 31 => 22 | 9 => 9 | 3 => 3 | 46 => 63 | 0 => 0 | 51 => 59 | 53 => 95 | 4 => 4 | 183 => 86 | 182 => 85 | 131 => 91 | 5 => 5 | 218 => 98 | 222 => 102 | 228 => 105 | 229 => 106 | n => n, fun | n => n⟩
theorem Tryd.lays190 : Go.Proofs.Lays.n190 Tryd.prog Tryd.lays190_ren := {
  mixed := by kernel_rfl
  f125 := Tryd.func40.trans (congrArg some (by kernel_rfl))
  f128 := Tryd.func53.trans (congrArg some (by kernel_rfl))
  f129 := Tryd.func54.trans (congrArg some (by kernel_rfl))
  f190 := Tryd.func32.trans (congrArg some (by kernel_rfl))
  f258 := Tryd.func39.trans (congrArg some (by kernel_rfl))
  f302 := Tryd.func44.trans (congrArg some (by kernel_rfl))
  f303 := Tryd.func45.trans (congrArg some (by kernel_rfl))
  f304 := Tryd.func46.trans (congrArg some (by kernel_rfl))
  f305 := Tryd.func47.trans (congrArg some (by kernel_rfl))
  f306 := Tryd.func48.trans (congrArg some (by kernel_rfl))
  f307 := Tryd.func49.trans (congrArg some (by kernel_rfl))
  f308 := Tryd.func50.trans (congrArg some (by kernel_rfl))
  f309 := Tryd.func51.trans (congrArg some (by kernel_rfl))
  f310 := Tryd.func52.trans (congrArg some (by kernel_rfl))
  f329 := Tryd.func56.trans (congrArg some (by kernel_rfl))
  f330 := Tryd.func57.trans (congrArg some (by kernel_rfl))
  f333 := Tryd.func55.trans (congrArg some (by kernel_rfl))
  f334 := Tryd.func58.trans (congrArg some (by kernel_rfl))
  f335 := Tryd.func59.trans (congrArg some (by kernel_rfl))
  f336 := Tryd.func60.trans (congrArg some (by kernel_rfl))
  f344 := Tryd.func61.trans (congrArg some (by kernel_rfl))
  t0 := Tryd.underlying0
  a0 := Tryd.isAgg0
  z0 := Tryd.sizeOf0
  v0 := Tryd.zeroValue0
  t3 := Tryd.underlying3
  a3 := Tryd.isAgg3
  z3 := Tryd.sizeOf3
  v3 := Tryd.zeroValue3
  t4 := Tryd.underlying4
  a4 := Tryd.isAgg4
  z4 := Tryd.sizeOf4
  v4 := Tryd.zeroValue4
  t5 := Tryd.underlying5
  a5 := Tryd.isAgg5
  z5 := Tryd.sizeOf5
  v5 := Tryd.zeroValue5
  t9 := Tryd.underlying9
  a9 := Tryd.isAgg9
  z9 := Tryd.sizeOf9
  v9 := Tryd.zeroValue9
  t31 := Tryd.underlying22
  a31 := Tryd.isAgg22
  z31 := Tryd.sizeOf22
  v31 := Tryd.zeroValue22
  t46 := Tryd.underlying63
  a46 := Tryd.isAgg63
  z46 := Tryd.sizeOf63
  v46 := Tryd.zeroValue63
  t51 := Tryd.underlying59
  a51 := Tryd.isAgg59
  z51 := Tryd.sizeOf59
  v51 := Tryd.zeroValue59
  t53 := Tryd.underlying95
  a53 := Tryd.isAgg95
  z53 := Tryd.sizeOf95
  v53 := Tryd.zeroValue95
  t131 := Tryd.underlying91
  a131 := Tryd.isAgg91
  z131 := Tryd.sizeOf91
  v131 := Tryd.zeroValue91
  t182 := Tryd.underlying85
  a182 := Tryd.isAgg85
  z182 := Tryd.sizeOf85
  v182 := Tryd.zeroValue85
  t183 := Tryd.underlying86
  a183 := Tryd.isAgg86
  z183 := Tryd.sizeOf86
  v183 := Tryd.zeroValue86
  t218 := Tryd.underlying98
  a218 := Tryd.isAgg98
  z218 := Tryd.sizeOf98
  v218 := Tryd.zeroValue98
  t222 := Tryd.underlying102
  a222 := Tryd.isAgg102
  z222 := Tryd.sizeOf102
  v222 := Tryd.zeroValue102
  t228 := Tryd.underlying105
  a228 := Tryd.isAgg105
  z228 := Tryd.sizeOf105
  v228 := Tryd.zeroValue105
  t229 := Tryd.underlying106
  a229 := Tryd.isAgg106
  z229 := Tryd.sizeOf106
  v229 := Tryd.zeroValue106 }
open Go.Sort Go.RowKit in
theorem Tryd.slices_Sort_string (blk off cap : Nat) (ss : List (List UInt8)) (w : World) (hH : Holds encStr w blk off ss.toArray) (hblk : blk < w.heap.size) (hsz : ss.length < 4611686018427387904) :
    Calls Tryd.prog 32 #[.slice (some ⟨blk, off, none⟩) ss.length cap] w fun e w' =>
      e = .returned (.tuple #[]) ∧ ∃ n os, w' = grow (putRow encStr (Sort.ahead w n) blk off (ss.mergeSort fun x y => decide (x ≤ y)).toArray) os := Any.slices_Sort_string Tryd.lays190 blk off cap ss w hH hblk hsz
def Tryd.lays192_ren : Go.Shelf.Ren := ⟨fun | 192 => 24 | 190 => 32 | 125 => 40 | 258 => 39 | 128 => 53 | 129 => 54 | 302 => 44 | 303 => 45 | 304 => 46 | 305 => 47 | 306 => 48 | 307 => 49 | 308 => 50 | 309 => 51 | 310 => 52 | 333 => 55 | 329 => 56 | 330 => 57 | 334 => 58 | 335 => 59 | 336 => 60 | 344 => 61 | n => n, fun | 31 => 22 | 0 => 0 | 9 => 9 | 3 => 3 | 46 => 63 | 51 => 59 | 53 => 95 | 4 => 4 | 183 => 86 | 182 => 85 | 131 => 91 | 5 => 5 | 218 => 98 | 222 => 102 | 228 => 105 | 229 => 106 | n => n, fun | n => n⟩
theorem Tryd.lays192 : Go.Proofs.Lays.n192 Tryd.prog Tryd.lays192_ren := {
  mixed := by kernel_rfl
  f125 := Tryd.func40.trans (congrArg some (by kernel_rfl))
  f128 := Tryd.func53.trans (congrArg some (by kernel_rfl))
  f129 := Tryd.func54.trans (congrArg some (by kernel_rfl))
  f190 := Tryd.func32.trans (congrArg some (by kernel_rfl))
  f192 := Tryd.func24.trans (congrArg some (by kernel_rfl))
  f258 := Tryd.func39.trans (congrArg some (by kernel_rfl))
  f302 := Tryd.func44.trans (congrArg some (by kernel_rfl))
  f303 := Tryd.func45.trans (congrArg some (by kernel_rfl))
  f304 := Tryd.func46.trans (congrArg some (by kernel_rfl))
  f305 := Tryd.func47.trans (congrArg some (by kernel_rfl))
  f306 := Tryd.func48.trans (congrArg some (by kernel_rfl))
  f307 := Tryd.func49.trans (congrArg some (by kernel_rfl))
  f308 := Tryd.func50.trans (congrArg some (by kernel_rfl))
  f309 := Tryd.func51.trans (congrArg some (by kernel_rfl))
  f310 := Tryd.func52.trans (congrArg some (by kernel_rfl))
  f329 := Tryd.func56.trans (congrArg some (by kernel_rfl))
  f330 := Tryd.func57.trans (congrArg some (by kernel_rfl))
  f333 := Tryd.func55.trans (congrArg some (by kernel_rfl))
  f334 := Tryd.func58.trans (congrArg some (by kernel_rfl))
  f335 := Tryd.func59.trans (congrArg some (by kernel_rfl))
  f336 := Tryd.func60.trans (congrArg some (by kernel_rfl))
  f344 := Tryd.func61.trans (congrArg some (by kernel_rfl))
  t0 := Tryd.underlying0
  a0 := Tryd.isAgg0
  z0 := Tryd.sizeOf0
  v0 := Tryd.zeroValue0
  t3 := Tryd.underlying3
  a3 := Tryd.isAgg3
  z3 := Tryd.sizeOf3
  v3 := Tryd.zeroValue3
  t4 := Tryd.underlying4
  a4 := Tryd.isAgg4
  z4 := Tryd.sizeOf4
  v4 := Tryd.zeroValue4
  t5 := Tryd.underlying5
  a5 := Tryd.isAgg5
  z5 := Tryd.sizeOf5
  v5 := Tryd.zeroValue5
  t9 := Tryd.underlying9
  a9 := Tryd.isAgg9
  z9 := Tryd.sizeOf9
  v9 := Tryd.zeroValue9
  t31 := Tryd.underlying22
  a31 := Tryd.isAgg22
  z31 := Tryd.sizeOf22
  v31 := Tryd.zeroValue22
  t46 := Tryd.underlying63
  a46 := Tryd.isAgg63
  z46 := Tryd.sizeOf63
  v46 := Tryd.zeroValue63
  t51 := Tryd.underlying59
  a51 := Tryd.isAgg59
  z51 := Tryd.sizeOf59
  v51 := Tryd.zeroValue59
  t53 := Tryd.underlying95
  a53 := Tryd.isAgg95
  z53 := Tryd.sizeOf95
  v53 := Tryd.zeroValue95
  t131 := Tryd.underlying91
  a131 := Tryd.isAgg91
  z131 := Tryd.sizeOf91
  v131 := Tryd.zeroValue91
  t182 := Tryd.underlying85
  a182 := Tryd.isAgg85
  z182 := Tryd.sizeOf85
  v182 := Tryd.zeroValue85
  t183 := Tryd.underlying86
  a183 := Tryd.isAgg86
  z183 := Tryd.sizeOf86
  v183 := Tryd.zeroValue86
  t218 := Tryd.underlying98
  a218 := Tryd.isAgg98
  z218 := Tryd.sizeOf98
  v218 := Tryd.zeroValue98
  t222 := Tryd.underlying102
  a222 := Tryd.isAgg102
  z222 := Tryd.sizeOf102
  v222 := Tryd.zeroValue102
  t228 := Tryd.underlying105
  a228 := Tryd.isAgg105
  z228 := Tryd.sizeOf105
  v228 := Tryd.zeroValue105
  t229 := Tryd.underlying106
  a229 := Tryd.isAgg106
  z229 := Tryd.sizeOf106
  v229 := Tryd.zeroValue106 }
open Go.Sort Go.RowKit in
theorem Tryd.sort_Strings (blk off cap : Nat) (ss : List (List UInt8)) (w : World) (hH : Holds encStr w blk off ss.toArray) (hblk : blk < w.heap.size) (hsz : ss.length < 4611686018427387904) :
    Calls Tryd.prog 24 #[.slice (some ⟨blk, off, none⟩) ss.length cap] w fun e w' =>
      e = .returned (.tuple #[]) ∧ ∃ n os, w' = grow (putRow encStr (Sort.ahead w n) blk off (ss.mergeSort fun x y => decide (x ≤ y)).toArray) os := Any.sort_Strings Tryd.lays192 blk off cap ss w hH hblk hsz
def Tryd.lays200_ren : Go.Shelf.Ren := ⟨fun | 200 => 27 | 261 => 34 | 311 => 41 | 312 => 42 | n => n, fun | 21 => 21 | 4 => 4 | 51 => 59 | 5 => 5 | 119 => 60 | 0 => 0 | 141 => 62 | 196 => 74 | 193 => 71 | 3 => 3 | 198 => 77 | 49 => 75 | 194 => 72 | 201 => 80 | 226 => 96 | 46 => 63 | 227 => 97 | n => n, fun | 7 => 0 | 8 => 2 | n => n⟩
theorem Tryd.lays200 : Go.Proofs.Lays.n200 Tryd.prog Tryd.lays200_ren := {
  mixed := by kernel_rfl
  f200 := Tryd.func27.trans (congrArg some (by kernel_rfl))
  f261 := Tryd.func34.trans (congrArg some (by kernel_rfl))
  f311 := Tryd.func41.trans (congrArg some (by kernel_rfl))
  f312 := Tryd.func42.trans (congrArg some (by kernel_rfl))
  t0 := Tryd.underlying0
  a0 := Tryd.isAgg0
  z0 := Tryd.sizeOf0
  v0 := Tryd.zeroValue0
  t3 := Tryd.underlying3
  a3 := Tryd.isAgg3
  z3 := Tryd.sizeOf3
  v3 := Tryd.zeroValue3
  t4 := Tryd.underlying4
  a4 := Tryd.isAgg4
  z4 := Tryd.sizeOf4
  v4 := Tryd.zeroValue4
  t5 := Tryd.underlying5
  a5 := Tryd.isAgg5
  z5 := Tryd.sizeOf5
  v5 := Tryd.zeroValue5
  t21 := Tryd.underlying21
  a21 := Tryd.isAgg21
  z21 := Tryd.sizeOf21
  v21 := Tryd.zeroValue21
  t46 := Tryd.underlying63
  a46 := Tryd.isAgg63
  z46 := Tryd.sizeOf63
  v46 := Tryd.zeroValue63
  t49 := Tryd.underlying75
  a49 := Tryd.isAgg75
  z49 := Tryd.sizeOf75
  v49 := Tryd.zeroValue75
  t51 := Tryd.underlying59
  a51 := Tryd.isAgg59
  z51 := Tryd.sizeOf59
  v51 := Tryd.zeroValue59
  t119 := Tryd.underlying60
  a119 := Tryd.isAgg60
  z119 := Tryd.sizeOf60
  t141 := Tryd.underlying62
  a141 := Tryd.isAgg62
  z141 := Tryd.sizeOf62
  v141 := Tryd.zeroValue62
  t193 := Tryd.underlying71
  a193 := Tryd.isAgg71
  z193 := Tryd.sizeOf71
  v193 := Tryd.zeroValue71
  t194 := Tryd.underlying72
  a194 := Tryd.isAgg72
  z194 := Tryd.sizeOf72
  v194 := Tryd.zeroValue72
  t196 := Tryd.underlying74
  a196 := Tryd.isAgg74
  z196 := Tryd.sizeOf74
  v196 := Tryd.zeroValue74
  t198 := Tryd.underlying77
  a198 := Tryd.isAgg77
  z198 := Tryd.sizeOf77
  v198 := Tryd.zeroValue77
  t201 := Tryd.underlying80
  a201 := Tryd.isAgg80
  z201 := Tryd.sizeOf80
  v201 := Tryd.zeroValue80
  t226 := Tryd.underlying96
  a226 := Tryd.isAgg96
  z226 := Tryd.sizeOf96
  v226 := Tryd.zeroValue96
  t227 := Tryd.underlying97
  a227 := Tryd.isAgg97
  z227 := Tryd.sizeOf97
  v227 := Tryd.zeroValue97
  g7 := by kernel_rfl
  g8 := by kernel_rfl }
open Go.RowKit Go.Lib in
theorem Tryd.unicode_IsLetter (c : Nat) (w : World) (hc : c < 256) (htab : Lib.TabIs Tryd.prog w "unicode.properties" .u8 Lib.propertiesTab) :
    Calls Tryd.prog 27 #[.int .i32 c] w fun e w' => e = .returned (.bool (Lib.isLetterL c)) ∧ w' = w := Any.unicode_IsLetter Tryd.lays200 (by kernel_rfl) c w hc htab
def Tryd.lays197_ren : Go.Shelf.Ren := ⟨fun | 197 => 20 | 260 => 30 | n => n, fun | 9 => 9 | 21 => 21 | 3 => 3 | 4 => 4 | 5 => 5 | 105 => 47 | 119 => 60 | 0 => 0 | 46 => 63 | 139 => 66 | 138 => 65 | n => n, fun | 3 => 3 | 4 => 4 | n => n⟩
theorem Tryd.lays197 : Go.Proofs.Lays.n197 Tryd.prog Tryd.lays197_ren := {
  mixed := by kernel_rfl
  f197 := Tryd.func20.trans (congrArg some (by kernel_rfl))
  f260 := Tryd.func30.trans (congrArg some (by kernel_rfl))
  t0 := Tryd.underlying0
  a0 := Tryd.isAgg0
  z0 := Tryd.sizeOf0
  v0 := Tryd.zeroValue0
  t3 := Tryd.underlying3
  a3 := Tryd.isAgg3
  z3 := Tryd.sizeOf3
  v3 := Tryd.zeroValue3
  t4 := Tryd.underlying4
  a4 := Tryd.isAgg4
  z4 := Tryd.sizeOf4
  v4 := Tryd.zeroValue4
  t5 := Tryd.underlying5
  a5 := Tryd.isAgg5
  z5 := Tryd.sizeOf5
  v5 := Tryd.zeroValue5
  t9 := Tryd.underlying9
  a9 := Tryd.isAgg9
  z9 := Tryd.sizeOf9
  v9 := Tryd.zeroValue9
  t21 := Tryd.underlying21
  a21 := Tryd.isAgg21
  z21 := Tryd.sizeOf21
  v21 := Tryd.zeroValue21
  t46 := Tryd.underlying63
  a46 := Tryd.isAgg63
  z46 := Tryd.sizeOf63
  v46 := Tryd.zeroValue63
  t105 := Tryd.underlying47
  a105 := Tryd.isAgg47
  z105 := Tryd.sizeOf47
  v105 := Tryd.zeroValue47
  t119 := Tryd.underlying60
  a119 := Tryd.isAgg60
  z119 := Tryd.sizeOf60
  t138 := Tryd.underlying65
  a138 := Tryd.isAgg65
  z138 := Tryd.sizeOf65
  v138 := Tryd.zeroValue65
  t139 := Tryd.underlying66
  a139 := Tryd.isAgg66
  z139 := Tryd.sizeOf66
  v139 := Tryd.zeroValue66
  g3 := by kernel_rfl
  g4 := by kernel_rfl }
open Go.RowKit Go.Lib in
/-- unicode/utf8.DecodeRuneInString: "DecodeRuneInString is like DecodeRune but its input is a string.": ("DecodeRune unpacks the first UTF-8 encoding in p and returns the rune and its width in bytes."): WHERE s BEGINS WITH AN ASCII BYTE x: (x, 1). (LAID: no walk: one application.) -/
theorem Tryd.utf8_DecodeRuneInString_ascii (s : ByteArray) (x : UInt8) (w : World) (h0 : s.data.toList[0]? = some x) (hx : x.toNat < 128) :
    Calls Tryd.prog 20 #[.string s] w fun e w' => e = .returned (.tuple #[.int .i32 x.toNat, .int .i64 1]) ∧ w' = w := Any.utf8_DecodeRuneInString_ascii Tryd.lays197 s x w h0 hx
def Tryd.lays260_ren : Go.Shelf.Ren := ⟨fun | 260 => 30 | n => n, fun | 9 => 9 | 21 => 21 | 3 => 3 | 4 => 4 | 5 => 5 | 119 => 60 | 0 => 0 | 46 => 63 | 139 => 66 | 138 => 65 | n => n, fun | 3 => 3 | 4 => 4 | n => n⟩
theorem Tryd.lays260 : Go.Proofs.Lays.n260 Tryd.prog Tryd.lays260_ren := {
  mixed := by kernel_rfl
  f260 := Tryd.func30.trans (congrArg some (by kernel_rfl))
  t0 := Tryd.underlying0
  a0 := Tryd.isAgg0
  z0 := Tryd.sizeOf0
  v0 := Tryd.zeroValue0
  t3 := Tryd.underlying3
  a3 := Tryd.isAgg3
  z3 := Tryd.sizeOf3
  v3 := Tryd.zeroValue3
  t4 := Tryd.underlying4
  a4 := Tryd.isAgg4
  z4 := Tryd.sizeOf4
  v4 := Tryd.zeroValue4
  t5 := Tryd.underlying5
  a5 := Tryd.isAgg5
  z5 := Tryd.sizeOf5
  v5 := Tryd.zeroValue5
  t9 := Tryd.underlying9
  a9 := Tryd.isAgg9
  z9 := Tryd.sizeOf9
  v9 := Tryd.zeroValue9
  t21 := Tryd.underlying21
  a21 := Tryd.isAgg21
  z21 := Tryd.sizeOf21
  v21 := Tryd.zeroValue21
  t46 := Tryd.underlying63
  a46 := Tryd.isAgg63
  z46 := Tryd.sizeOf63
  v46 := Tryd.zeroValue63
  t119 := Tryd.underlying60
  a119 := Tryd.isAgg60
  z119 := Tryd.sizeOf60
  t138 := Tryd.underlying65
  a138 := Tryd.isAgg65
  z138 := Tryd.sizeOf65
  v138 := Tryd.zeroValue65
  t139 := Tryd.underlying66
  a139 := Tryd.isAgg66
  z139 := Tryd.sizeOf66
  v139 := Tryd.zeroValue66
  g3 := by kernel_rfl
  g4 := by kernel_rfl }
open Go.RowKit Go.Lib in
theorem Tryd.utf8_decodeRuneInStringSlow (s : ByteArray) (w : World) (hT : Lib.Utf8Tabs 3 4 w) :
    Calls Tryd.prog 30 #[.string s] w fun e w' => e = .returned (.tuple #[.int .i32 (Lib.decodeGo s).1, .int .i64 (Lib.decodeGo s).2]) ∧ Below w.heap.size w w' := Any.utf8_decodeRuneInStringSlow Tryd.lays260 s w hT
open Go.RowKit Go.Lib in
/-- **unicode/utf8.DecodeRuneInString AT EVERY STRING.** (LAID: no walk: one application.) -/
theorem Tryd.utf8_DecodeRuneInString (s : ByteArray) (w : World) (hT : Lib.Utf8Tabs 3 4 w) :
    Calls Tryd.prog 20 #[.string s] w fun e w' => e = .returned (.tuple #[.int .i32 (Lib.decodeGo s).1, .int .i64 (Lib.decodeGo s).2]) ∧ Below w.heap.size w w' := Any.utf8_DecodeRuneInString Tryd.lays197 s w hT
def Tryd.lays311_ren : Go.Shelf.Ren := ⟨fun | 311 => 41 | n => n, fun | 193 => 71 | 49 => 75 | 4 => 4 | 3 => 3 | 0 => 0 | 226 => 96 | 198 => 77 | 46 => 63 | n => n, fun | n => n⟩
theorem Tryd.lays311 : Go.Proofs.Lays.n311 Tryd.prog Tryd.lays311_ren := {
  mixed := by kernel_rfl
  f311 := Tryd.func41.trans (congrArg some (by kernel_rfl))
  t0 := Tryd.underlying0
  a0 := Tryd.isAgg0
  z0 := Tryd.sizeOf0
  v0 := Tryd.zeroValue0
  t3 := Tryd.underlying3
  a3 := Tryd.isAgg3
  z3 := Tryd.sizeOf3
  v3 := Tryd.zeroValue3
  t4 := Tryd.underlying4
  a4 := Tryd.isAgg4
  z4 := Tryd.sizeOf4
  v4 := Tryd.zeroValue4
  t46 := Tryd.underlying63
  a46 := Tryd.isAgg63
  z46 := Tryd.sizeOf63
  v46 := Tryd.zeroValue63
  t49 := Tryd.underlying75
  a49 := Tryd.isAgg75
  z49 := Tryd.sizeOf75
  v49 := Tryd.zeroValue75
  t193 := Tryd.underlying71
  a193 := Tryd.isAgg71
  z193 := Tryd.sizeOf71
  v193 := Tryd.zeroValue71
  t198 := Tryd.underlying77
  a198 := Tryd.isAgg77
  z198 := Tryd.sizeOf77
  v198 := Tryd.zeroValue77
  t226 := Tryd.underlying96
  a226 := Tryd.isAgg96
  z226 := Tryd.sizeOf96
  v226 := Tryd.zeroValue96 }
open Go.RowKit Go.Lib in
theorem Tryd.unicode_is16_white (R oR : Nat) (z : Nat) (w : World) (hz : z < 65536) (hz0 : 255 < z) (c6 : w.cell? ⟨R, oR + 6, none⟩ = some (.int .u16 160)) (c7 : w.cell? ⟨R, oR + 7, none⟩ = some (.int .u16 5760)) (c8 : w.cell? ⟨R, oR + 8, none⟩ = some (.int .u16 5600)) (c9 : w.cell? ⟨R, oR + 9, none⟩ = some (.int .u16 8192)) (c10 : w.cell? ⟨R, oR + 10, none⟩ = some (.int .u16 8202)) (c11 : w.cell? ⟨R, oR + 11, none⟩ = some (.int .u16 1)) (c12 : w.cell? ⟨R, oR + 12, none⟩ = some (.int .u16 8232)) (c13 : w.cell? ⟨R, oR + 13, none⟩ = some (.int .u16 8233)) (c14 : w.cell? ⟨R, oR + 14, none⟩ = some (.int .u16 1)) (c15 : w.cell? ⟨R, oR + 15, none⟩ = some (.int .u16 8239)) (c16 : w.cell? ⟨R, oR + 16, none⟩ = some (.int .u16 8287)) (c17 : w.cell? ⟨R, oR + 17, none⟩ = some (.int .u16 48)) (c18 : w.cell? ⟨R, oR + 18, none⟩ = some (.int .u16 12288)) (c19 : w.cell? ⟨R, oR + 19, none⟩ = some (.int .u16 12288)) (c20 : w.cell? ⟨R, oR + 20, none⟩ = some (.int .u16 1)) :
    Calls Tryd.prog 41 #[.slice (some ⟨R, oR + 6, none⟩) 5 5, .int .u16 z] w fun e w' => e = .returned (.bool (Lib.isSpaceR z)) ∧ Below w.heap.size w w' := Any.unicode_is16_white Tryd.lays311 R oR z w hz hz0 c6 c7 c8 c9 c10 c11 c12 c13 c14 c15 c16 c17 c18 c19 c20
def Tryd.lays261_ren : Go.Shelf.Ren := ⟨fun | 261 => 34 | 311 => 41 | 312 => 42 | n => n, fun | 141 => 62 | 21 => 21 | 4 => 4 | 0 => 0 | 196 => 74 | 193 => 71 | 3 => 3 | 51 => 59 | 198 => 77 | 49 => 75 | 194 => 72 | 201 => 80 | 226 => 96 | 46 => 63 | 227 => 97 | n => n, fun | n => n⟩
theorem Tryd.lays261 : Go.Proofs.Lays.n261 Tryd.prog Tryd.lays261_ren := {
  mixed := by kernel_rfl
  f261 := Tryd.func34.trans (congrArg some (by kernel_rfl))
  f311 := Tryd.func41.trans (congrArg some (by kernel_rfl))
  f312 := Tryd.func42.trans (congrArg some (by kernel_rfl))
  t0 := Tryd.underlying0
  a0 := Tryd.isAgg0
  z0 := Tryd.sizeOf0
  v0 := Tryd.zeroValue0
  t3 := Tryd.underlying3
  a3 := Tryd.isAgg3
  z3 := Tryd.sizeOf3
  v3 := Tryd.zeroValue3
  t4 := Tryd.underlying4
  a4 := Tryd.isAgg4
  z4 := Tryd.sizeOf4
  v4 := Tryd.zeroValue4
  t21 := Tryd.underlying21
  a21 := Tryd.isAgg21
  z21 := Tryd.sizeOf21
  v21 := Tryd.zeroValue21
  t46 := Tryd.underlying63
  a46 := Tryd.isAgg63
  z46 := Tryd.sizeOf63
  v46 := Tryd.zeroValue63
  t49 := Tryd.underlying75
  a49 := Tryd.isAgg75
  z49 := Tryd.sizeOf75
  v49 := Tryd.zeroValue75
  t51 := Tryd.underlying59
  a51 := Tryd.isAgg59
  z51 := Tryd.sizeOf59
  v51 := Tryd.zeroValue59
  t141 := Tryd.underlying62
  a141 := Tryd.isAgg62
  z141 := Tryd.sizeOf62
  v141 := Tryd.zeroValue62
  t193 := Tryd.underlying71
  a193 := Tryd.isAgg71
  z193 := Tryd.sizeOf71
  v193 := Tryd.zeroValue71
  t194 := Tryd.underlying72
  a194 := Tryd.isAgg72
  z194 := Tryd.sizeOf72
  v194 := Tryd.zeroValue72
  t196 := Tryd.underlying74
  a196 := Tryd.isAgg74
  z196 := Tryd.sizeOf74
  v196 := Tryd.zeroValue74
  t198 := Tryd.underlying77
  a198 := Tryd.isAgg77
  z198 := Tryd.sizeOf77
  v198 := Tryd.zeroValue77
  t201 := Tryd.underlying80
  a201 := Tryd.isAgg80
  z201 := Tryd.sizeOf80
  v201 := Tryd.zeroValue80
  t226 := Tryd.underlying96
  a226 := Tryd.isAgg96
  z226 := Tryd.sizeOf96
  v226 := Tryd.zeroValue96
  t227 := Tryd.underlying97
  a227 := Tryd.isAgg97
  z227 := Tryd.sizeOf97
  v227 := Tryd.zeroValue97 }
open Go.RowKit Go.Lib in
/-- unicode.isExcludingLatin(White_Space, r), r beyond U+00FF or negative. (LAID: no walk: one application.) -/
theorem Tryd.unicode_isExcludingLatin_white (T oT R oR : Nat) (r : Int) (w : World) (hlo : -2147483648 ≤ r) (hhi : r ≤ 2147483647) (hr : r < 0 ∨ 255 < r) (h2 : w.cell? ⟨T, oT, none⟩ = some (.slice (some ⟨R, oR, none⟩) 7 7)) (h3 : w.cell? ⟨T, oT + 1, none⟩ = some (.slice none 0 0)) (h4 : w.cell? ⟨T, oT + 2, none⟩ = some (.int .i64 2)) (h5 : ∀ i, i < 21 → w.cell? ⟨R, oR + i, none⟩ = some (.int .u16 (whiteT.getD i 0))) :
    Calls Tryd.prog 34 #[.pointer (some ⟨T, oT, none⟩), .int .i32 r] w fun e w' => e = .returned (.bool (Lib.isSpaceZ r)) ∧ Below w.heap.size w w' := Any.unicode_isExcludingLatin_white Tryd.lays261 T oT R oR r w hlo hhi hr h2 h3 h4 h5
open Go.RowKit Go.Lib in
theorem Tryd.unicode_is16_any (T : Array Rg) (R oR cap : Nat) (z : Nat) (w : World) (hz : z < 65536) (hT : RgTab .u16 R oR T w) (hok : RgOk 65536 T) (hn : T.size ≤ 1000000000) :
    Calls Tryd.prog 41 #[.slice (some ⟨R, oR, none⟩) T.size cap, .int .u16 z] w fun e w' => e = .returned (.bool (is16Go T z)) ∧ ∃ q, w' = w.drewN q := Any.unicode_is16_any Tryd.lays311 T R oR cap z w hz hT hok hn
def Tryd.lays312_ren : Go.Shelf.Ren := ⟨fun | 312 => 42 | n => n, fun | 194 => 72 | 51 => 59 | 4 => 4 | 3 => 3 | 0 => 0 | 227 => 97 | 201 => 80 | 46 => 63 | n => n, fun | n => n⟩
theorem Tryd.lays312 : Go.Proofs.Lays.n312 Tryd.prog Tryd.lays312_ren := {
  mixed := by kernel_rfl
  f312 := Tryd.func42.trans (congrArg some (by kernel_rfl))
  t0 := Tryd.underlying0
  a0 := Tryd.isAgg0
  z0 := Tryd.sizeOf0
  v0 := Tryd.zeroValue0
  t3 := Tryd.underlying3
  a3 := Tryd.isAgg3
  z3 := Tryd.sizeOf3
  v3 := Tryd.zeroValue3
  t4 := Tryd.underlying4
  a4 := Tryd.isAgg4
  z4 := Tryd.sizeOf4
  v4 := Tryd.zeroValue4
  t46 := Tryd.underlying63
  a46 := Tryd.isAgg63
  z46 := Tryd.sizeOf63
  v46 := Tryd.zeroValue63
  t51 := Tryd.underlying59
  a51 := Tryd.isAgg59
  z51 := Tryd.sizeOf59
  v51 := Tryd.zeroValue59
  t194 := Tryd.underlying72
  a194 := Tryd.isAgg72
  z194 := Tryd.sizeOf72
  v194 := Tryd.zeroValue72
  t201 := Tryd.underlying80
  a201 := Tryd.isAgg80
  z201 := Tryd.sizeOf80
  v201 := Tryd.zeroValue80
  t227 := Tryd.underlying97
  a227 := Tryd.isAgg97
  z227 := Tryd.sizeOf97
  v227 := Tryd.zeroValue97 }
open Go.RowKit Go.Lib in
theorem Tryd.unicode_is32_any (T : Array Rg) (R oR cap : Nat) (z : Nat) (w : World) (hz : z < 4294967296) (hT : RgTab .u32 R oR T w) (hok : RgOk 4294967296 T) (hn : T.size ≤ 1000000000) :
    Calls Tryd.prog 42 #[.slice (some ⟨R, oR, none⟩) T.size cap, .int .u32 z] w fun e w' => e = .returned (.bool (is32Go T z)) ∧ Below w.heap.size w w' := Any.unicode_is32_any Tryd.lays312 T R oR cap z w hz hT hok hn
open Go.RowKit Go.Lib in
theorem Tryd.unicode_isExcludingLatin_any (Tb oT : Nat) (T : RTab) (r : Int) (w : World) (hlo : -2147483648 ≤ r) (hhi : r ≤ 2147483647) (hA : RTabAt Tb oT T w) (hok : RTabOk T) :
    Calls Tryd.prog 34 #[.pointer (some ⟨Tb, oT, none⟩), .int .i32 r] w fun e w' => e = .returned (.bool (exclGo T r)) ∧ Below w.heap.size w w' := Any.unicode_isExcludingLatin_any Tryd.lays261 Tb oT T r w hlo hhi hA hok
open Go.RowKit Go.Lib in
/-- unicode.IsLetter(r) AT EVERY int32, over whatever table the variable unicode.Letter leads to. (LAID: no walk: one application.) -/
theorem Tryd.unicode_IsLetter_any (T : RTab) (r : Int) (w : World) (hlo : -2147483648 ≤ r) (hhi : r ≤ 2147483647) (htab : Lib.TabIs Tryd.prog w "unicode.properties" .u8 Lib.propertiesTab) (hV : RVar 2 T w) (hok : RTabOk T) :
    Calls Tryd.prog 27 #[.int .i32 r] w fun e w' => e = .returned (.bool (if latin1 r then isLetterL r else exclGo T r)) ∧ Below w.heap.size w w' := Any.unicode_IsLetter_any Tryd.lays200 (by kernel_rfl) T r w hlo hhi htab hV hok
open Go.RowKit Go.Lib in
/-- unicode.IsLetter(r) AT EVERY int32, the tables as their initialisers lay them: 'Lib.isLetterU r'. (LAID: no walk: one application.) -/
theorem Tryd.unicode_IsLetter_all (r : Int) (w : World) (hlo : -2147483648 ≤ r) (hhi : r ≤ 2147483647) (htab : Lib.TabIs Tryd.prog w "unicode.properties" .u8 Lib.propertiesTab) (hV : RVar 2 letterT w) :
    Calls Tryd.prog 27 #[.int .i32 r] w fun e w' => e = .returned (.bool (isLetterU r)) ∧ Below w.heap.size w w' := Any.unicode_IsLetter_all Tryd.lays200 (by kernel_rfl) r w hlo hhi htab hV
def Tryd.laysGn18_ren : Go.Shelf.Ren := ⟨fun | 18 => 26 | 27 => 34 | 25 => 41 | 26 => 42 | n => n, fun | 21 => 21 | 4 => 4 | 32 => 59 | 5 => 5 | 40 => 60 | 0 => 0 | 22 => 62 | 31 => 74 | 28 => 71 | 3 => 3 | 35 => 77 | 33 => 75 | 29 => 72 | 38 => 80 | 41 => 96 | 42 => 63 | 43 => 97 | n => n, fun | 0 => 0 | 2 => 1 | n => n⟩
theorem Tryd.laysGn18 : Go.Proofs.LaysGn.n18 Tryd.prog Tryd.laysGn18_ren := {
  mixed := by kernel_rfl
  f18 := Tryd.func26.trans (congrArg some (by kernel_rfl))
  f25 := Tryd.func41.trans (congrArg some (by kernel_rfl))
  f26 := Tryd.func42.trans (congrArg some (by kernel_rfl))
  f27 := Tryd.func34.trans (congrArg some (by kernel_rfl))
  t0 := Tryd.underlying0
  a0 := Tryd.isAgg0
  z0 := Tryd.sizeOf0
  v0 := Tryd.zeroValue0
  i0 := by kernel_rfl
  t3 := Tryd.underlying3
  a3 := Tryd.isAgg3
  z3 := Tryd.sizeOf3
  v3 := Tryd.zeroValue3
  i3 := by kernel_rfl
  t4 := Tryd.underlying4
  a4 := Tryd.isAgg4
  z4 := Tryd.sizeOf4
  v4 := Tryd.zeroValue4
  i4 := by kernel_rfl
  t5 := Tryd.underlying5
  a5 := Tryd.isAgg5
  z5 := Tryd.sizeOf5
  v5 := Tryd.zeroValue5
  i5 := by kernel_rfl
  t21 := Tryd.underlying21
  a21 := Tryd.isAgg21
  z21 := Tryd.sizeOf21
  v21 := Tryd.zeroValue21
  i21 := by kernel_rfl
  t22 := Tryd.underlying62
  a22 := Tryd.isAgg62
  z22 := Tryd.sizeOf62
  v22 := Tryd.zeroValue62
  i22 := by kernel_rfl
  t28 := Tryd.underlying71
  a28 := Tryd.isAgg71
  z28 := Tryd.sizeOf71
  v28 := Tryd.zeroValue71
  i28 := by kernel_rfl
  t29 := Tryd.underlying72
  a29 := Tryd.isAgg72
  z29 := Tryd.sizeOf72
  v29 := Tryd.zeroValue72
  i29 := by kernel_rfl
  t31 := Tryd.underlying74
  a31 := Tryd.isAgg74
  z31 := Tryd.sizeOf74
  v31 := Tryd.zeroValue74
  i31 := by kernel_rfl
  t32 := Tryd.underlying59
  a32 := Tryd.isAgg59
  z32 := Tryd.sizeOf59
  v32 := Tryd.zeroValue59
  i32 := by kernel_rfl
  t33 := Tryd.underlying75
  a33 := Tryd.isAgg75
  z33 := Tryd.sizeOf75
  v33 := Tryd.zeroValue75
  i33 := by kernel_rfl
  t35 := Tryd.underlying77
  a35 := Tryd.isAgg77
  z35 := Tryd.sizeOf77
  v35 := Tryd.zeroValue77
  i35 := by kernel_rfl
  t38 := Tryd.underlying80
  a38 := Tryd.isAgg80
  z38 := Tryd.sizeOf80
  v38 := Tryd.zeroValue80
  i38 := by kernel_rfl
  t40 := Tryd.underlying60
  a40 := Tryd.isAgg60
  z40 := Tryd.sizeOf60
  t41 := Tryd.underlying96
  a41 := Tryd.isAgg96
  z41 := Tryd.sizeOf96
  v41 := Tryd.zeroValue96
  i41 := by kernel_rfl
  t42 := Tryd.underlying63
  a42 := Tryd.isAgg63
  z42 := Tryd.sizeOf63
  v42 := Tryd.zeroValue63
  i42 := by kernel_rfl
  t43 := Tryd.underlying97
  a43 := Tryd.isAgg97
  z43 := Tryd.sizeOf97
  v43 := Tryd.zeroValue97
  i43 := by kernel_rfl
  g0 := by kernel_rfl
  m0 := by kernel_rfl
  g2 := by kernel_rfl
  m2 := by kernel_rfl }
open Go.RowKit Go.Lib in
/-- unicode.IsNumber(r) AT EVERY int32, over whatever table the variable unicode.Number leads to. (LAID: no walk: one application.) -/
theorem Tryd.unicode_IsNumber_any (T : RTab) (r : Int) (w : World) (hlo : -2147483648 ≤ r) (hhi : r ≤ 2147483647) (htab : Lib.TabIs Tryd.prog w "unicode.properties" .u8 Lib.propertiesTab) (hV : RVar 1 T w) (hok : RTabOk T) :
    Calls Tryd.prog 26 #[.int .i32 r] w fun e w' => e = .returned (.bool (if latin1 r then propBit r 4 else exclGo T r)) ∧ Below w.heap.size w w' := Any.unicode_IsNumber_any Tryd.laysGn18 (by kernel_rfl) T r w hlo hhi htab hV hok
open Go.RowKit Go.Sort in
/-- .. and plain. (LAID: no walk: one application.) -/
theorem Tryd.slices_Sort_string_none (p : Option Addr) (cap : Nat) (w : World) :
    Calls Tryd.prog 32 #[.slice p 0 cap] w fun e w' => e = .returned (.tuple #[]) ∧ w' = w := Any.slices_Sort_string_none Tryd.lays190 p cap w
open Go.RowKit Go.Sort in
/-- .. and plain. (LAID: no walk: one application.) -/
theorem Tryd.sort_Strings_none (p : Option Addr) (cap : Nat) (w : World) :
    Calls Tryd.prog 24 #[.slice p 0 cap] w fun e w' => e = .returned (.tuple #[]) ∧ w' = w := Any.sort_Strings_none Tryd.lays192 p cap w
end Go.Proofs
