/-
  DERIVED: THE SHELF's CONTRACTS AT THIS DUMP, IN PLAIN WORDS (tools/lay-plain.mjs out of 'TrydShelf.lean', which tools/lay-shelf.mjs wrote): THE SAME DECLARATIONS UNDER THE SAME NAMES: 'import', 'namespace', 'open', 'def', 'theorem' AND NOTHING ELSE: no command of the shelf's: FOR A HAND-IN. Each laying: the table of numbers ('.._ren') and one theorem, a field a fact of the dump's own or the kernel's comparison; each contract: ONE APPLICATION.
-/
import Derived.Shelf.Small.Bits
import Derived.Shelf.Strconv.Itoa0
import Derived.Shelf.Sort.Plain
import Derived.Shelf.Slices.In.SortNone
import Derived.Shelf.Slices.In.SortNone2
import Derived.Shelf.Unicode.ValidAny
import Derived.Test.YtmbaijkbchkjoaaDoorProg
namespace Go.Proofs
open Go.Shelf
def Tryd.lays128_ren : Go.Shelf.Ren := ⟨fun | 128 => 39 | n => n, fun | 51 => 107 | 3 => 3 | 4 => 4 | 46 => 50 | 5 => 5 | 9 => 9 | n => n, fun | n => n⟩
theorem Tryd.lays128 : Go.Proofs.Lays.n128 Tryd.prog Tryd.lays128_ren := {
  mixed := by kernel_rfl
  f128 := Tryd.func39.trans (congrArg some (by kernel_rfl))
  t3 := Tryd.underlying3
  a3 := Tryd.isAgg3
  z3 := Tryd.sizeOf3
  v3 := Tryd.zeroValue3
  t4 := Tryd.underlying4
  a4 := Tryd.isAgg4
  z4 := Tryd.sizeOf4
  v4 := Tryd.zeroValue4
  t5 := Tryd.underlying5
  a5 := Tryd.isAgg5
  z5 := Tryd.sizeOf5
  v5 := Tryd.zeroValue5
  t9 := Tryd.underlying9
  a9 := Tryd.isAgg9
  z9 := Tryd.sizeOf9
  v9 := Tryd.zeroValue9
  t46 := Tryd.underlying50
  a46 := Tryd.isAgg50
  z46 := Tryd.sizeOf50
  v46 := Tryd.zeroValue50
  t51 := Tryd.underlying107
  a51 := Tryd.isAgg107
  z51 := Tryd.sizeOf107
  v51 := Tryd.zeroValue107 }
/-- bits.Len32: "Len32 returns the minimum number of bits required to represent x; the result is 0 for x == 0.": IT RETURNS 'Lib.bitLen x'; the world is as it was. ('h0', 'h1': x is a uint32.) (LAID: no walk: one application.) -/
theorem Tryd.bits_Len32 (x : Int) (w : World) (h0 : 0 ≤ x) (h1 : x ≤ 4294967295) :
    Calls Tryd.prog 39 #[.int .u32 x] w fun e w' => e = .returned (.int .i64 (Lib.bitLen x.toNat)) ∧ w' = w := Any.bits_Len32 Tryd.lays128 x w h0 h1
def Tryd.lays125_ren : Go.Shelf.Ren := ⟨fun | 125 => 28 | 128 => 39 | 129 => 40 | n => n, fun | 46 => 50 | 3 => 3 | 51 => 107 | 53 => 60 | 4 => 4 | 5 => 5 | 9 => 9 | n => n, fun | n => n⟩
theorem Tryd.lays125 : Go.Proofs.Lays.n125 Tryd.prog Tryd.lays125_ren := {
  mixed := by kernel_rfl
  f125 := Tryd.func28.trans (congrArg some (by kernel_rfl))
  f128 := Tryd.func39.trans (congrArg some (by kernel_rfl))
  f129 := Tryd.func40.trans (congrArg some (by kernel_rfl))
  t3 := Tryd.underlying3
  a3 := Tryd.isAgg3
  z3 := Tryd.sizeOf3
  v3 := Tryd.zeroValue3
  t4 := Tryd.underlying4
  a4 := Tryd.isAgg4
  z4 := Tryd.sizeOf4
  v4 := Tryd.zeroValue4
  t5 := Tryd.underlying5
  a5 := Tryd.isAgg5
  z5 := Tryd.sizeOf5
  v5 := Tryd.zeroValue5
  t9 := Tryd.underlying9
  a9 := Tryd.isAgg9
  z9 := Tryd.sizeOf9
  v9 := Tryd.zeroValue9
  t46 := Tryd.underlying50
  a46 := Tryd.isAgg50
  z46 := Tryd.sizeOf50
  v46 := Tryd.zeroValue50
  t51 := Tryd.underlying107
  a51 := Tryd.isAgg107
  z51 := Tryd.sizeOf107
  v51 := Tryd.zeroValue107
  t53 := Tryd.underlying60
  a53 := Tryd.isAgg60
  z53 := Tryd.sizeOf60
  v53 := Tryd.zeroValue60 }
/-- bits.Len: "Len returns the minimum number of bits required to represent x; the result is 0 for x == 0.": IT RETURNS 'Lib.bitLen x'; the world is as it was. (A uint has 64 bits in the model.) ITS CALLEE bits.Len64 IS MET BY ITS OWN CONTRACT OFF THE SHELF (lay that first). (LAID: no walk: one application.) -/
theorem Tryd.bits_Len (x : Int) (w : World) (h0 : 0 ≤ x) (h1 : x ≤ 18446744073709551615) :
    Calls Tryd.prog 28 #[.int .u64 x] w fun e w' => e = .returned (.int .i64 (Lib.bitLen x.toNat)) ∧ w' = w := Any.bits_Len Tryd.lays125 x w h0 h1
def Tryd.lays129_ren : Go.Shelf.Ren := ⟨fun | 129 => 40 | n => n, fun | 53 => 60 | 3 => 3 | 4 => 4 | 46 => 50 | 5 => 5 | 9 => 9 | n => n, fun | n => n⟩
theorem Tryd.lays129 : Go.Proofs.Lays.n129 Tryd.prog Tryd.lays129_ren := {
  mixed := by kernel_rfl
  f129 := Tryd.func40.trans (congrArg some (by kernel_rfl))
  t3 := Tryd.underlying3
  a3 := Tryd.isAgg3
  z3 := Tryd.sizeOf3
  v3 := Tryd.zeroValue3
  t4 := Tryd.underlying4
  a4 := Tryd.isAgg4
  z4 := Tryd.sizeOf4
  v4 := Tryd.zeroValue4
  t5 := Tryd.underlying5
  a5 := Tryd.isAgg5
  z5 := Tryd.sizeOf5
  v5 := Tryd.zeroValue5
  t9 := Tryd.underlying9
  a9 := Tryd.isAgg9
  z9 := Tryd.sizeOf9
  v9 := Tryd.zeroValue9
  t46 := Tryd.underlying50
  a46 := Tryd.isAgg50
  z46 := Tryd.sizeOf50
  v46 := Tryd.zeroValue50
  t53 := Tryd.underlying60
  a53 := Tryd.isAgg60
  z53 := Tryd.sizeOf60
  v53 := Tryd.zeroValue60 }
/-- bits.Len64: "Len64 returns the minimum number of bits required to represent x; the result is 0 for x == 0.": IT RETURNS 'Lib.bitLen x'; the world is as it was. ('h0', 'h1': x is a uint64.) (LAID: no walk: one application.) -/
theorem Tryd.bits_Len64 (x : Int) (w : World) (h0 : 0 ≤ x) (h1 : x ≤ 18446744073709551615) :
    Calls Tryd.prog 40 #[.int .u64 x] w fun e w' => e = .returned (.int .i64 (Lib.bitLen x.toNat)) ∧ w' = w := Any.bits_Len64 Tryd.lays129 x w h0 h1
def Tryd.lays190_ren : Go.Shelf.Ren := ⟨fun | 190 => 22 | 125 => 28 | 258 => 27 | 128 => 39 | 129 => 40 | 302 => 30 | 303 => 31 | 304 => 32 | 305 => 33 | 306 => 34 | 307 => 35 | 308 => 36 | 309 => 37 | 310 => 38 | 333 => 41 | 329 => 42 | 330 => 43 | 334 => 44 | 335 => 45 | 336 => 46 | 344 => 47 | n => n, fun | 31 => 26 | 9 => 9 | 3 => 3 | 46 => 50 | 0 => 0 | 51 => 107 | 53 => 60 | 4 => 4 | 183 => 99 | 182 => 98 | 131 => 104 | 5 => 5 | 218 => 109 | 222 => 113 | 228 => 115 | 229 => 116 | n => n, fun | n => n⟩
theorem Tryd.lays190 : Go.Proofs.Lays.n190 Tryd.prog Tryd.lays190_ren := {
  mixed := by kernel_rfl
  f125 := Tryd.func28.trans (congrArg some (by kernel_rfl))
  f128 := Tryd.func39.trans (congrArg some (by kernel_rfl))
  f129 := Tryd.func40.trans (congrArg some (by kernel_rfl))
  f190 := Tryd.func22.trans (congrArg some (by kernel_rfl))
  f258 := Tryd.func27.trans (congrArg some (by kernel_rfl))
  f302 := Tryd.func30.trans (congrArg some (by kernel_rfl))
  f303 := Tryd.func31.trans (congrArg some (by kernel_rfl))
  f304 := Tryd.func32.trans (congrArg some (by kernel_rfl))
  f305 := Tryd.func33.trans (congrArg some (by kernel_rfl))
  f306 := Tryd.func34.trans (congrArg some (by kernel_rfl))
  f307 := Tryd.func35.trans (congrArg some (by kernel_rfl))
  f308 := Tryd.func36.trans (congrArg some (by kernel_rfl))
  f309 := Tryd.func37.trans (congrArg some (by kernel_rfl))
  f310 := Tryd.func38.trans (congrArg some (by kernel_rfl))
  f329 := Tryd.func42.trans (congrArg some (by kernel_rfl))
  f330 := Tryd.func43.trans (congrArg some (by kernel_rfl))
  f333 := Tryd.func41.trans (congrArg some (by kernel_rfl))
  f334 := Tryd.func44.trans (congrArg some (by kernel_rfl))
  f335 := Tryd.func45.trans (congrArg some (by kernel_rfl))
  f336 := Tryd.func46.trans (congrArg some (by kernel_rfl))
  f344 := Tryd.func47.trans (congrArg some (by kernel_rfl))
  t0 := Tryd.underlying0
  a0 := Tryd.isAgg0
  z0 := Tryd.sizeOf0
  v0 := Tryd.zeroValue0
  t3 := Tryd.underlying3
  a3 := Tryd.isAgg3
  z3 := Tryd.sizeOf3
  v3 := Tryd.zeroValue3
  t4 := Tryd.underlying4
  a4 := Tryd.isAgg4
  z4 := Tryd.sizeOf4
  v4 := Tryd.zeroValue4
  t5 := Tryd.underlying5
  a5 := Tryd.isAgg5
  z5 := Tryd.sizeOf5
  v5 := Tryd.zeroValue5
  t9 := Tryd.underlying9
  a9 := Tryd.isAgg9
  z9 := Tryd.sizeOf9
  v9 := Tryd.zeroValue9
  t31 := Tryd.underlying26
  a31 := Tryd.isAgg26
  z31 := Tryd.sizeOf26
  v31 := Tryd.zeroValue26
  t46 := Tryd.underlying50
  a46 := Tryd.isAgg50
  z46 := Tryd.sizeOf50
  v46 := Tryd.zeroValue50
  t51 := Tryd.underlying107
  a51 := Tryd.isAgg107
  z51 := Tryd.sizeOf107
  v51 := Tryd.zeroValue107
  t53 := Tryd.underlying60
  a53 := Tryd.isAgg60
  z53 := Tryd.sizeOf60
  v53 := Tryd.zeroValue60
  t131 := Tryd.underlying104
  a131 := Tryd.isAgg104
  z131 := Tryd.sizeOf104
  v131 := Tryd.zeroValue104
  t182 := Tryd.underlying98
  a182 := Tryd.isAgg98
  z182 := Tryd.sizeOf98
  v182 := Tryd.zeroValue98
  t183 := Tryd.underlying99
  a183 := Tryd.isAgg99
  z183 := Tryd.sizeOf99
  v183 := Tryd.zeroValue99
  t218 := Tryd.underlying109
  a218 := Tryd.isAgg109
  z218 := Tryd.sizeOf109
  v218 := Tryd.zeroValue109
  t222 := Tryd.underlying113
  a222 := Tryd.isAgg113
  z222 := Tryd.sizeOf113
  v222 := Tryd.zeroValue113
  t228 := Tryd.underlying115
  a228 := Tryd.isAgg115
  z228 := Tryd.sizeOf115
  v228 := Tryd.zeroValue115
  t229 := Tryd.underlying116
  a229 := Tryd.isAgg116
  z229 := Tryd.sizeOf116
  v229 := Tryd.zeroValue116 }
open Go.Sort Go.RowKit in
theorem Tryd.slices_Sort_string (blk off cap : Nat) (ss : List (List UInt8)) (w : World) (hH : Holds encStr w blk off ss.toArray) (hblk : blk < w.heap.size) (hsz : ss.length < 4611686018427387904) :
    Calls Tryd.prog 22 #[.slice (some ⟨blk, off, none⟩) ss.length cap] w fun e w' =>
      e = .returned (.tuple #[]) ∧ ∃ n os, w' = grow (putRow encStr (Sort.ahead w n) blk off (ss.mergeSort fun x y => decide (x ≤ y)).toArray) os := Any.slices_Sort_string Tryd.lays190 blk off cap ss w hH hblk hsz
def Tryd.lays192_ren : Go.Shelf.Ren := ⟨fun | 192 => 16 | 190 => 22 | 125 => 28 | 258 => 27 | 128 => 39 | 129 => 40 | 302 => 30 | 303 => 31 | 304 => 32 | 305 => 33 | 306 => 34 | 307 => 35 | 308 => 36 | 309 => 37 | 310 => 38 | 333 => 41 | 329 => 42 | 330 => 43 | 334 => 44 | 335 => 45 | 336 => 46 | 344 => 47 | n => n, fun | 31 => 26 | 0 => 0 | 9 => 9 | 3 => 3 | 46 => 50 | 51 => 107 | 53 => 60 | 4 => 4 | 183 => 99 | 182 => 98 | 131 => 104 | 5 => 5 | 218 => 109 | 222 => 113 | 228 => 115 | 229 => 116 | n => n, fun | n => n⟩
theorem Tryd.lays192 : Go.Proofs.Lays.n192 Tryd.prog Tryd.lays192_ren := {
  mixed := by kernel_rfl
  f125 := Tryd.func28.trans (congrArg some (by kernel_rfl))
  f128 := Tryd.func39.trans (congrArg some (by kernel_rfl))
  f129 := Tryd.func40.trans (congrArg some (by kernel_rfl))
  f190 := Tryd.func22.trans (congrArg some (by kernel_rfl))
  f192 := Tryd.func16.trans (congrArg some (by kernel_rfl))
  f258 := Tryd.func27.trans (congrArg some (by kernel_rfl))
  f302 := Tryd.func30.trans (congrArg some (by kernel_rfl))
  f303 := Tryd.func31.trans (congrArg some (by kernel_rfl))
  f304 := Tryd.func32.trans (congrArg some (by kernel_rfl))
  f305 := Tryd.func33.trans (congrArg some (by kernel_rfl))
  f306 := Tryd.func34.trans (congrArg some (by kernel_rfl))
  f307 := Tryd.func35.trans (congrArg some (by kernel_rfl))
  f308 := Tryd.func36.trans (congrArg some (by kernel_rfl))
  f309 := Tryd.func37.trans (congrArg some (by kernel_rfl))
  f310 := Tryd.func38.trans (congrArg some (by kernel_rfl))
  f329 := Tryd.func42.trans (congrArg some (by kernel_rfl))
  f330 := Tryd.func43.trans (congrArg some (by kernel_rfl))
  f333 := Tryd.func41.trans (congrArg some (by kernel_rfl))
  f334 := Tryd.func44.trans (congrArg some (by kernel_rfl))
  f335 := Tryd.func45.trans (congrArg some (by kernel_rfl))
  f336 := Tryd.func46.trans (congrArg some (by kernel_rfl))
  f344 := Tryd.func47.trans (congrArg some (by kernel_rfl))
  t0 := Tryd.underlying0
  a0 := Tryd.isAgg0
  z0 := Tryd.sizeOf0
  v0 := Tryd.zeroValue0
  t3 := Tryd.underlying3
  a3 := Tryd.isAgg3
  z3 := Tryd.sizeOf3
  v3 := Tryd.zeroValue3
  t4 := Tryd.underlying4
  a4 := Tryd.isAgg4
  z4 := Tryd.sizeOf4
  v4 := Tryd.zeroValue4
  t5 := Tryd.underlying5
  a5 := Tryd.isAgg5
  z5 := Tryd.sizeOf5
  v5 := Tryd.zeroValue5
  t9 := Tryd.underlying9
  a9 := Tryd.isAgg9
  z9 := Tryd.sizeOf9
  v9 := Tryd.zeroValue9
  t31 := Tryd.underlying26
  a31 := Tryd.isAgg26
  z31 := Tryd.sizeOf26
  v31 := Tryd.zeroValue26
  t46 := Tryd.underlying50
  a46 := Tryd.isAgg50
  z46 := Tryd.sizeOf50
  v46 := Tryd.zeroValue50
  t51 := Tryd.underlying107
  a51 := Tryd.isAgg107
  z51 := Tryd.sizeOf107
  v51 := Tryd.zeroValue107
  t53 := Tryd.underlying60
  a53 := Tryd.isAgg60
  z53 := Tryd.sizeOf60
  v53 := Tryd.zeroValue60
  t131 := Tryd.underlying104
  a131 := Tryd.isAgg104
  z131 := Tryd.sizeOf104
  v131 := Tryd.zeroValue104
  t182 := Tryd.underlying98
  a182 := Tryd.isAgg98
  z182 := Tryd.sizeOf98
  v182 := Tryd.zeroValue98
  t183 := Tryd.underlying99
  a183 := Tryd.isAgg99
  z183 := Tryd.sizeOf99
  v183 := Tryd.zeroValue99
  t218 := Tryd.underlying109
  a218 := Tryd.isAgg109
  z218 := Tryd.sizeOf109
  v218 := Tryd.zeroValue109
  t222 := Tryd.underlying113
  a222 := Tryd.isAgg113
  z222 := Tryd.sizeOf113
  v222 := Tryd.zeroValue113
  t228 := Tryd.underlying115
  a228 := Tryd.isAgg115
  z228 := Tryd.sizeOf115
  v228 := Tryd.zeroValue115
  t229 := Tryd.underlying116
  a229 := Tryd.isAgg116
  z229 := Tryd.sizeOf116
  v229 := Tryd.zeroValue116 }
open Go.Sort Go.RowKit in
theorem Tryd.sort_Strings (blk off cap : Nat) (ss : List (List UInt8)) (w : World) (hH : Holds encStr w blk off ss.toArray) (hblk : blk < w.heap.size) (hsz : ss.length < 4611686018427387904) :
    Calls Tryd.prog 16 #[.slice (some ⟨blk, off, none⟩) ss.length cap] w fun e w' =>
      e = .returned (.tuple #[]) ∧ ∃ n os, w' = grow (putRow encStr (Sort.ahead w n) blk off (ss.mergeSort fun x y => decide (x ≤ y)).toArray) os := Any.sort_Strings Tryd.lays192 blk off cap ss w hH hblk hsz
open Go.RowKit Go.Sort in
/-- .. and plain. (LAID: no walk: one application.) -/
theorem Tryd.slices_Sort_string_none (p : Option Addr) (cap : Nat) (w : World) :
    Calls Tryd.prog 22 #[.slice p 0 cap] w fun e w' => e = .returned (.tuple #[]) ∧ w' = w := Any.slices_Sort_string_none Tryd.lays190 p cap w
open Go.RowKit Go.Sort in
/-- .. and plain. (LAID: no walk: one application.) -/
theorem Tryd.sort_Strings_none (p : Option Addr) (cap : Nat) (w : World) :
    Calls Tryd.prog 16 #[.slice p 0 cap] w fun e w' => e = .returned (.tuple #[]) ∧ w' = w := Any.sort_Strings_none Tryd.lays192 p cap w
def Tryd.lays196_ren : Go.Shelf.Ren := ⟨fun | 196 => 13 | 259 => 18 | n => n, fun | 9 => 9 | 4 => 4 | 3 => 3 | 5 => 5 | 12 => 12 | 119 => 46 | 0 => 0 | 46 => 50 | 139 => 49 | 138 => 48 | 53 => 60 | n => n, fun | 3 => 0 | 4 => 1 | n => n⟩
theorem Tryd.lays196 : Go.Proofs.Lays.n196 Tryd.prog Tryd.lays196_ren := {
  mixed := by kernel_rfl
  f196 := Tryd.func13.trans (congrArg some (by kernel_rfl))
  f259 := Tryd.func18.trans (congrArg some (by kernel_rfl))
  t0 := Tryd.underlying0
  a0 := Tryd.isAgg0
  z0 := Tryd.sizeOf0
  v0 := Tryd.zeroValue0
  t3 := Tryd.underlying3
  a3 := Tryd.isAgg3
  z3 := Tryd.sizeOf3
  v3 := Tryd.zeroValue3
  t4 := Tryd.underlying4
  a4 := Tryd.isAgg4
  z4 := Tryd.sizeOf4
  v4 := Tryd.zeroValue4
  t5 := Tryd.underlying5
  a5 := Tryd.isAgg5
  z5 := Tryd.sizeOf5
  v5 := Tryd.zeroValue5
  t9 := Tryd.underlying9
  a9 := Tryd.isAgg9
  z9 := Tryd.sizeOf9
  v9 := Tryd.zeroValue9
  t12 := Tryd.underlying12
  a12 := Tryd.isAgg12
  z12 := Tryd.sizeOf12
  v12 := Tryd.zeroValue12
  t46 := Tryd.underlying50
  a46 := Tryd.isAgg50
  z46 := Tryd.sizeOf50
  v46 := Tryd.zeroValue50
  t53 := Tryd.underlying60
  a53 := Tryd.isAgg60
  z53 := Tryd.sizeOf60
  v53 := Tryd.zeroValue60
  t119 := Tryd.underlying46
  a119 := Tryd.isAgg46
  z119 := Tryd.sizeOf46
  t138 := Tryd.underlying48
  a138 := Tryd.isAgg48
  z138 := Tryd.sizeOf48
  v138 := Tryd.zeroValue48
  t139 := Tryd.underlying49
  a139 := Tryd.isAgg49
  z139 := Tryd.sizeOf49
  v139 := Tryd.zeroValue49
  g3 := by kernel_rfl
  g4 := by kernel_rfl }
end Go.Proofs
