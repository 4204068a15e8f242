/-
  DERIVED: THE SHELF's CONTRACTS AT THIS DUMP, IN PLAIN WORDS (tools/lay-plain.mjs out of 'TryShelf.lean', which tools/lay-shelf.mjs wrote): THE SAME DECLARATIONS UNDER THE SAME NAMES: 'import', 'namespace', 'open', 'def', 'theorem' AND NOTHING ELSE: no command of the shelf's: FOR A HAND-IN. Each laying: the table of numbers ('.._ren') and one theorem, a field a fact of the dump's own or the kernel's comparison; each contract: ONE APPLICATION.
-/
import Derived.Shelf.Strings.LastIndex
import Derived.Shelf.Strings.LastIndexAll
import Derived.Test.YtkjmbnfchiippaaProg
namespace Go.Proofs
open Go.Shelf
def Try.lays222_ren : Go.Shelf.Ren := ⟨fun | 222 => 43 | n => n, fun | 9 => 9 | 5 => 5 | 3 => 3 | 4 => 4 | n => n, fun | n => n⟩
theorem Try.lays222 : Go.Proofs.Lays.n222 Try.prog Try.lays222_ren := {
  mixed := by kernel_rfl
  f222 := Try.func43.trans (congrArg some (by kernel_rfl))
  t3 := Try.underlying3
  a3 := Try.isAgg3
  z3 := Try.sizeOf3
  v3 := Try.zeroValue3
  t4 := Try.underlying4
  a4 := Try.isAgg4
  z4 := Try.sizeOf4
  v4 := Try.zeroValue4
  t5 := Try.underlying5
  a5 := Try.isAgg5
  z5 := Try.sizeOf5
  v5 := Try.zeroValue5
  t9 := Try.underlying9
  a9 := Try.isAgg9
  z9 := Try.sizeOf9
  v9 := Try.zeroValue9 }
open Go.RowKit Go.Lib in
/-- internal/bytealg.LastIndexByteString: 'for i := len(s) - 1; i >= 0; i-- { if s[i] == c { return i } }; return -1'. (LAID: no walk: one application.) -/
theorem Try.bytealg_LastIndexByteString_nm (s : ByteArray) (c : Int) (hs : s.size < 4611686018427387904) (w : World) :
    Calls Try.prog 43 #[.string s, .int .u8 c] w fun e w' => e = .returned (.int .i64 (Lib.lastIndexByte s c)) ∧ w' = w := Any.bytealg_LastIndexByteString_nm Try.lays222 s c hs w
def Try.lays148_ren : Go.Shelf.Ren := ⟨fun | 148 => 34 | 222 => 43 | 223 => 44 | 269 => 46 | n => n, fun | 9 => 9 | 3 => 3 | 4 => 4 | 5 => 5 | 146 => 141 | 51 => 140 | 46 => 81 | n => n, fun | n => n⟩
theorem Try.lays148 : Go.Proofs.Lays.n148 Try.prog Try.lays148_ren := {
  mixed := by kernel_rfl
  f148 := Try.func34.trans (congrArg some (by kernel_rfl))
  f222 := Try.func43.trans (congrArg some (by kernel_rfl))
  f223 := Try.func44.trans (congrArg some (by kernel_rfl))
  f269 := Try.func46.trans (congrArg some (by kernel_rfl))
  t3 := Try.underlying3
  a3 := Try.isAgg3
  z3 := Try.sizeOf3
  v3 := Try.zeroValue3
  t4 := Try.underlying4
  a4 := Try.isAgg4
  z4 := Try.sizeOf4
  v4 := Try.zeroValue4
  t5 := Try.underlying5
  a5 := Try.isAgg5
  z5 := Try.sizeOf5
  v5 := Try.zeroValue5
  t9 := Try.underlying9
  a9 := Try.isAgg9
  z9 := Try.sizeOf9
  v9 := Try.zeroValue9
  t46 := Try.underlying81
  a46 := Try.isAgg81
  z46 := Try.sizeOf81
  v46 := Try.zeroValue81
  t51 := Try.underlying140
  a51 := Try.isAgg140
  z51 := Try.sizeOf140
  v51 := Try.zeroValue140
  t146 := Try.underlying141
  a146 := Try.isAgg141
  z146 := Try.sizeOf141
  v146 := Try.zeroValue141 }
open Go.RowKit Go.Lib in
/-- strings.LastIndex AT A substr OF ONE BYTE (as in 'strings.LastIndex(path, "/")'): the last place of that byte, or -1. (LAID: no walk: one application.) -/
theorem Try.strings_LastIndex_one (s sub : ByteArray) (h1 : sub.size = 1) (hs : s.size < 4611686018427387904) (w : World) :
    Calls Try.prog 34 #[.string s, .string sub] w fun e w' => e = .returned (.int .i64 (Lib.lastIndexByte s ((sub[0]'(by omega)).toNat : Int))) ∧ w' = w := Any.strings_LastIndex_one Try.lays148 s sub h1 hs w
open Go.RowKit Go.Lib in
/-- .. AT THE EMPTY substr: len(s). (LAID: no walk: one application.) -/
theorem Try.strings_LastIndex_empty (s sub : ByteArray) (h0 : sub.size = 0) (w : World) :
    Calls Try.prog 34 #[.string s, .string sub] w fun e w' => e = .returned (.int .i64 s.size) ∧ w' = w := Any.strings_LastIndex_empty Try.lays148 s sub h0 w
open Go.RowKit Go.Lib in
/-- .. AT A substr LONGER THAN s (and of two bytes or more): -1. (LAID: no walk: one application.) -/
theorem Try.strings_LastIndex_longer (s sub : ByteArray) (h2 : 2 ≤ sub.size) (hl : s.size < sub.size) (w : World) :
    Calls Try.prog 34 #[.string s, .string sub] w fun e w' => e = .returned (.int .i64 (-1)) ∧ w' = w := Any.strings_LastIndex_longer Try.lays148 s sub h2 hl w
open Go.RowKit Go.Lib in
/-- .. AT A substr AS LONG AS s (and of two bytes or more): 0 where the two are one, else -1. (LAID: no walk: one application.) -/
theorem Try.strings_LastIndex_whole (s sub : ByteArray) (h2 : 2 ≤ sub.size) (hl : sub.size = s.size) (w : World) :
    Calls Try.prog 34 #[.string s, .string sub] w fun e w' => e = .returned (.int .i64 (if sub = s then 0 else -1)) ∧ w' = w := Any.strings_LastIndex_whole Try.lays148 s sub h2 hl w
def Try.lays269_ren : Go.Shelf.Ren := ⟨fun | 269 => 46 | n => n, fun | 9 => 9 | 51 => 140 | 3 => 3 | 4 => 4 | 5 => 5 | 46 => 81 | n => n, fun | n => n⟩
theorem Try.lays269 : Go.Proofs.Lays.n269 Try.prog Try.lays269_ren := {
  mixed := by kernel_rfl
  f269 := Try.func46.trans (congrArg some (by kernel_rfl))
  t3 := Try.underlying3
  a3 := Try.isAgg3
  z3 := Try.sizeOf3
  v3 := Try.zeroValue3
  t4 := Try.underlying4
  a4 := Try.isAgg4
  z4 := Try.sizeOf4
  v4 := Try.zeroValue4
  t5 := Try.underlying5
  a5 := Try.isAgg5
  z5 := Try.sizeOf5
  v5 := Try.zeroValue5
  t9 := Try.underlying9
  a9 := Try.isAgg9
  z9 := Try.sizeOf9
  v9 := Try.zeroValue9
  t46 := Try.underlying81
  a46 := Try.isAgg81
  z46 := Try.sizeOf81
  v46 := Try.zeroValue81
  t51 := Try.underlying140
  a51 := Try.isAgg140
  z51 := Try.sizeOf140
  v51 := Try.zeroValue140 }
open Go.RowKit Go.Lib in
/-- internal/bytealg.hashStrRev: the hash of sep REVERSED, and primeRK ^ len(sep). (LAID: no walk: one application.) -/
theorem Try.bytealg_hashStrRev (sep : ByteArray) (hs : sep.size < 4611686018427387904) (w : World) :
    Calls Try.prog 46 #[.string sep] w fun e w' => e = .returned (.tuple #[.int .u32 (RK.H sep.data.toList.reverse % 4294967296), .int .u32 (16777619 ^ sep.size % 4294967296)]) ∧ w' = w := Any.bytealg_hashStrRev Try.lays269 sep hs w
def Try.lays223_ren : Go.Shelf.Ren := ⟨fun | 223 => 44 | 269 => 46 | n => n, fun | 9 => 9 | 3 => 3 | 146 => 141 | 51 => 140 | 4 => 4 | 5 => 5 | 46 => 81 | n => n, fun | n => n⟩
theorem Try.lays223 : Go.Proofs.Lays.n223 Try.prog Try.lays223_ren := {
  mixed := by kernel_rfl
  f223 := Try.func44.trans (congrArg some (by kernel_rfl))
  f269 := Try.func46.trans (congrArg some (by kernel_rfl))
  t3 := Try.underlying3
  a3 := Try.isAgg3
  z3 := Try.sizeOf3
  v3 := Try.zeroValue3
  t4 := Try.underlying4
  a4 := Try.isAgg4
  z4 := Try.sizeOf4
  v4 := Try.zeroValue4
  t5 := Try.underlying5
  a5 := Try.isAgg5
  z5 := Try.sizeOf5
  v5 := Try.zeroValue5
  t9 := Try.underlying9
  a9 := Try.isAgg9
  z9 := Try.sizeOf9
  v9 := Try.zeroValue9
  t46 := Try.underlying81
  a46 := Try.isAgg81
  z46 := Try.sizeOf81
  v46 := Try.zeroValue81
  t51 := Try.underlying140
  a51 := Try.isAgg140
  z51 := Try.sizeOf140
  v51 := Try.zeroValue140
  t146 := Try.underlying141
  a146 := Try.isAgg141
  z146 := Try.sizeOf141
  v146 := Try.zeroValue141 }
open Go.RowKit Go.Lib in
/-- internal/bytealg.LastIndexRabinKarp: "LastIndexRabinKarp uses the Rabin-Karp search algorithm to return the last index of the occurrence of sep in s, or -1 if not present." (LAID: no walk: one application.) -/
theorem Try.bytealg_LastIndexRabinKarp (s sep : ByteArray) (h1 : 1 ≤ sep.size) (h2 : sep.size ≤ s.size) (hs : s.size < 4611686018427387904) (w : World) :
    Calls Try.prog 44 #[.string s, .string sep] w fun e w' => e = .returned (.int .i64 (Lib.lastIndex s.data.toList sep.data.toList)) ∧ w' = w := Any.bytealg_LastIndexRabinKarp Try.lays223 s sep h1 h2 hs w
open Go.RowKit Go.Lib in
/-- strings.LastIndex WHERE THE HASH IS ASKED: 2 bytes or more, shorter than s. (LAID: no walk: one application.) -/
theorem Try.strings_LastIndex_hash (s sub : ByteArray) (h2 : 2 ≤ sub.size) (hl : sub.size < s.size) (hs : s.size < 4611686018427387904) (w : World) :
    Calls Try.prog 34 #[.string s, .string sub] w fun e w' => e = .returned (.int .i64 (Lib.lastIndex s.data.toList sub.data.toList)) ∧ w' = w := Any.strings_LastIndex_hash Try.lays148 s sub h2 hl hs w
open Go.RowKit Go.Lib in
/-- strings.LastIndex: "LastIndex returns the index of the last instance of substr in s, or -1 if substr is not present in s.": AT A substr OF WHATEVER LENGTH. (LAID: no walk: one application.) -/
theorem Try.strings_LastIndex (s sub : ByteArray) (hs : s.size < 4611686018427387904) (w : World) :
    Calls Try.prog 34 #[.string s, .string sub] w fun e w' => e = .returned (.int .i64 (Lib.lastIndex s.data.toList sub.data.toList)) ∧ w' = w := Any.strings_LastIndex Try.lays148 s sub hs w
end Go.Proofs
