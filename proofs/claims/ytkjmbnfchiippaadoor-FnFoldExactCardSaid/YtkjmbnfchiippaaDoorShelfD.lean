/-
  DERIVED: THE SHELF's CONTRACTS AT THIS DUMP, IN PLAIN WORDS (tools/lay-plain.mjs out of 'TrydShelf.lean', which tools/lay-shelf.mjs wrote): THE SAME DECLARATIONS UNDER THE SAME NAMES: 'import', 'namespace', 'open', 'def', 'theorem' AND NOTHING ELSE: no command of the shelf's: FOR A HAND-IN. Each laying: the table of numbers ('.._ren') and one theorem, a field a fact of the dump's own or the kernel's comparison; each contract: ONE APPLICATION.
-/
import Derived.Shelf.Strings.Fold
import Derived.Shelf.Unicode.DecodeSlow
import Derived.Shelf.Unicode.CaseLookup
import Derived.Shelf.Unicode.CaseConvert
import Derived.Test.YtkjmbnfchiippaaDoorProg
namespace Go.Proofs
open Go.Shelf
def Tryd.lays164_ren : Go.Shelf.Ren := ⟨fun | 164 => 13 | 197 => 17 | 239 => 18 | 260 => 20 | 274 => 21 | 275 => 22 | n => n, fun | 9 => 9 | 4 => 4 | 3 => 3 | 5 => 5 | 0 => 0 | 21 => 21 | 105 => 75 | 156 => 83 | 49 => 82 | 157 => 84 | 46 => 85 | 159 => 87 | 162 => 90 | 160 => 88 | 119 => 97 | 139 => 100 | 138 => 99 | 208 => 105 | 51 => 101 | 206 => 103 | n => n, fun | 11 => 0 | 12 => 1 | 13 => 2 | 3 => 3 | 4 => 4 | n => n⟩
theorem Tryd.lays164 : Go.Proofs.Lays.n164 Tryd.prog Tryd.lays164_ren := {
  mixed := by kernel_rfl
  f164 := Tryd.func13.trans (congrArg some (by kernel_rfl))
  f197 := Tryd.func17.trans (congrArg some (by kernel_rfl))
  f239 := Tryd.func18.trans (congrArg some (by kernel_rfl))
  f260 := Tryd.func20.trans (congrArg some (by kernel_rfl))
  f274 := Tryd.func21.trans (congrArg some (by kernel_rfl))
  f275 := Tryd.func22.trans (congrArg some (by kernel_rfl))
  t0 := Tryd.underlying0
  a0 := Tryd.isAgg0
  z0 := Tryd.sizeOf0
  v0 := Tryd.zeroValue0
  t3 := Tryd.underlying3
  a3 := Tryd.isAgg3
  z3 := Tryd.sizeOf3
  v3 := Tryd.zeroValue3
  t4 := Tryd.underlying4
  a4 := Tryd.isAgg4
  z4 := Tryd.sizeOf4
  v4 := Tryd.zeroValue4
  t5 := Tryd.underlying5
  a5 := Tryd.isAgg5
  z5 := Tryd.sizeOf5
  v5 := Tryd.zeroValue5
  t9 := Tryd.underlying9
  a9 := Tryd.isAgg9
  z9 := Tryd.sizeOf9
  v9 := Tryd.zeroValue9
  t21 := Tryd.underlying21
  a21 := Tryd.isAgg21
  z21 := Tryd.sizeOf21
  v21 := Tryd.zeroValue21
  t46 := Tryd.underlying85
  a46 := Tryd.isAgg85
  z46 := Tryd.sizeOf85
  v46 := Tryd.zeroValue85
  t49 := Tryd.underlying82
  a49 := Tryd.isAgg82
  z49 := Tryd.sizeOf82
  v49 := Tryd.zeroValue82
  t51 := Tryd.underlying101
  a51 := Tryd.isAgg101
  z51 := Tryd.sizeOf101
  v51 := Tryd.zeroValue101
  t105 := Tryd.underlying75
  a105 := Tryd.isAgg75
  z105 := Tryd.sizeOf75
  v105 := Tryd.zeroValue75
  t119 := Tryd.underlying97
  a119 := Tryd.isAgg97
  z119 := Tryd.sizeOf97
  t138 := Tryd.underlying99
  a138 := Tryd.isAgg99
  z138 := Tryd.sizeOf99
  v138 := Tryd.zeroValue99
  t139 := Tryd.underlying100
  a139 := Tryd.isAgg100
  z139 := Tryd.sizeOf100
  v139 := Tryd.zeroValue100
  t156 := Tryd.underlying83
  a156 := Tryd.isAgg83
  z156 := Tryd.sizeOf83
  t157 := Tryd.underlying84
  a157 := Tryd.isAgg84
  z157 := Tryd.sizeOf84
  v157 := Tryd.zeroValue84
  t159 := Tryd.underlying87
  a159 := Tryd.isAgg87
  z159 := Tryd.sizeOf87
  v159 := Tryd.zeroValue87
  t160 := Tryd.underlying88
  a160 := Tryd.isAgg88
  z160 := Tryd.sizeOf88
  v160 := Tryd.zeroValue88
  t162 := Tryd.underlying90
  a162 := Tryd.isAgg90
  z162 := Tryd.sizeOf90
  v162 := Tryd.zeroValue90
  t206 := Tryd.underlying103
  a206 := Tryd.isAgg103
  z206 := Tryd.sizeOf103
  v206 := Tryd.zeroValue103
  t208 := Tryd.underlying105
  a208 := Tryd.isAgg105
  z208 := Tryd.sizeOf105
  v208 := Tryd.zeroValue105
  g3 := by kernel_rfl
  g4 := by kernel_rfl
  g11 := by kernel_rfl
  g12 := by kernel_rfl
  g13 := by kernel_rfl }
open Go.RowKit Go.Lib in
theorem Tryd.strings_EqualFold (s t : ByteArray) (w : World) (hs : s.size < 4294967281) (has : ∀ (j : Nat) b, s.data.toList[j]? = some b → b.toNat < 128) (hat : ∀ (j : Nat) b, t.data.toList[j]? = some b → b.toNat < 128) :
    Calls Tryd.prog 13 #[.string s, .string t] w fun e w' => e = .returned (.bool (Lib.equalFold s.data.toList t.data.toList)) ∧ w' = w := Any.strings_EqualFold Tryd.lays164 s t w hs has hat
def Tryd.lays260_ren : Go.Shelf.Ren := ⟨fun | 260 => 20 | n => n, fun | 9 => 9 | 21 => 21 | 3 => 3 | 4 => 4 | 5 => 5 | 119 => 97 | 0 => 0 | 46 => 85 | 139 => 100 | 138 => 99 | n => n, fun | 3 => 3 | 4 => 4 | n => n⟩
theorem Tryd.lays260 : Go.Proofs.Lays.n260 Tryd.prog Tryd.lays260_ren := {
  mixed := by kernel_rfl
  f260 := Tryd.func20.trans (congrArg some (by kernel_rfl))
  t0 := Tryd.underlying0
  a0 := Tryd.isAgg0
  z0 := Tryd.sizeOf0
  v0 := Tryd.zeroValue0
  t3 := Tryd.underlying3
  a3 := Tryd.isAgg3
  z3 := Tryd.sizeOf3
  v3 := Tryd.zeroValue3
  t4 := Tryd.underlying4
  a4 := Tryd.isAgg4
  z4 := Tryd.sizeOf4
  v4 := Tryd.zeroValue4
  t5 := Tryd.underlying5
  a5 := Tryd.isAgg5
  z5 := Tryd.sizeOf5
  v5 := Tryd.zeroValue5
  t9 := Tryd.underlying9
  a9 := Tryd.isAgg9
  z9 := Tryd.sizeOf9
  v9 := Tryd.zeroValue9
  t21 := Tryd.underlying21
  a21 := Tryd.isAgg21
  z21 := Tryd.sizeOf21
  v21 := Tryd.zeroValue21
  t46 := Tryd.underlying85
  a46 := Tryd.isAgg85
  z46 := Tryd.sizeOf85
  v46 := Tryd.zeroValue85
  t119 := Tryd.underlying97
  a119 := Tryd.isAgg97
  z119 := Tryd.sizeOf97
  t138 := Tryd.underlying99
  a138 := Tryd.isAgg99
  z138 := Tryd.sizeOf99
  v138 := Tryd.zeroValue99
  t139 := Tryd.underlying100
  a139 := Tryd.isAgg100
  z139 := Tryd.sizeOf100
  v139 := Tryd.zeroValue100
  g3 := by kernel_rfl
  g4 := by kernel_rfl }
open Go.RowKit Go.Lib in
theorem Tryd.utf8_decodeRuneInStringSlow (s : ByteArray) (w : World) (hT : Lib.Utf8Tabs 3 4 w) :
    Calls Tryd.prog 20 #[.string s] w fun e w' => e = .returned (.tuple #[.int .i32 (Lib.decodeGo s).1, .int .i64 (Lib.decodeGo s).2]) ∧ Below w.heap.size w w' := Any.utf8_decodeRuneInStringSlow Tryd.lays260 s w hT
def Tryd.lays274_ren : Go.Shelf.Ren := ⟨fun | 274 => 21 | n => n, fun | 21 => 21 | 162 => 90 | 160 => 88 | 3 => 3 | 4 => 4 | 46 => 85 | 0 => 0 | 208 => 105 | 51 => 101 | 206 => 103 | n => n, fun | n => n⟩
theorem Tryd.lays274 : Go.Proofs.Lays.n274 Tryd.prog Tryd.lays274_ren := {
  mixed := by kernel_rfl
  f274 := Tryd.func21.trans (congrArg some (by kernel_rfl))
  t0 := Tryd.underlying0
  a0 := Tryd.isAgg0
  z0 := Tryd.sizeOf0
  v0 := Tryd.zeroValue0
  t3 := Tryd.underlying3
  a3 := Tryd.isAgg3
  z3 := Tryd.sizeOf3
  v3 := Tryd.zeroValue3
  t4 := Tryd.underlying4
  a4 := Tryd.isAgg4
  z4 := Tryd.sizeOf4
  v4 := Tryd.zeroValue4
  t21 := Tryd.underlying21
  a21 := Tryd.isAgg21
  z21 := Tryd.sizeOf21
  v21 := Tryd.zeroValue21
  t46 := Tryd.underlying85
  a46 := Tryd.isAgg85
  z46 := Tryd.sizeOf85
  v46 := Tryd.zeroValue85
  t51 := Tryd.underlying101
  a51 := Tryd.isAgg101
  z51 := Tryd.sizeOf101
  v51 := Tryd.zeroValue101
  t160 := Tryd.underlying88
  a160 := Tryd.isAgg88
  z160 := Tryd.sizeOf88
  v160 := Tryd.zeroValue88
  t162 := Tryd.underlying90
  a162 := Tryd.isAgg90
  z162 := Tryd.sizeOf90
  v162 := Tryd.zeroValue90
  t208 := Tryd.underlying105
  a208 := Tryd.isAgg105
  z208 := Tryd.sizeOf105
  v208 := Tryd.zeroValue105 }
open Go.RowKit Go.Lib in
theorem Tryd.unicode_lookupCaseRange (T : Array CaseRow) (R oR cap : Nat) (r : Int) (w : World) (hT : CaseTab R oR T w) (hok : CaseOk T) (hn : T.size ≤ 1000000000) :
    Calls Tryd.prog 21 #[.int .i32 r, .slice (some ⟨R, oR, none⟩) T.size cap] w fun e w' =>
      e = .returned (match lookupIdx T r (T.size + 1) 0 T.size with | some i => .pointer (some ⟨R, oR + i * 5, none⟩) | none => .pointer none) ∧ w' = w := Any.unicode_lookupCaseRange Tryd.lays274 T R oR cap r w hT hok hn
def Tryd.lays275_ren : Go.Shelf.Ren := ⟨fun | 275 => 22 | n => n, fun | 3 => 3 | 21 => 21 | 160 => 88 | 0 => 0 | 208 => 105 | 206 => 103 | 4 => 4 | 51 => 101 | n => n, fun | n => n⟩
theorem Tryd.lays275 : Go.Proofs.Lays.n275 Tryd.prog Tryd.lays275_ren := {
  mixed := by kernel_rfl
  f275 := Tryd.func22.trans (congrArg some (by kernel_rfl))
  t0 := Tryd.underlying0
  a0 := Tryd.isAgg0
  z0 := Tryd.sizeOf0
  v0 := Tryd.zeroValue0
  t3 := Tryd.underlying3
  a3 := Tryd.isAgg3
  z3 := Tryd.sizeOf3
  v3 := Tryd.zeroValue3
  t4 := Tryd.underlying4
  a4 := Tryd.isAgg4
  z4 := Tryd.sizeOf4
  v4 := Tryd.zeroValue4
  t21 := Tryd.underlying21
  a21 := Tryd.isAgg21
  z21 := Tryd.sizeOf21
  v21 := Tryd.zeroValue21
  t51 := Tryd.underlying101
  a51 := Tryd.isAgg101
  z51 := Tryd.sizeOf101
  v51 := Tryd.zeroValue101
  t160 := Tryd.underlying88
  a160 := Tryd.isAgg88
  z160 := Tryd.sizeOf88
  v160 := Tryd.zeroValue88
  t206 := Tryd.underlying103
  a206 := Tryd.isAgg103
  z206 := Tryd.sizeOf103
  v206 := Tryd.zeroValue103
  t208 := Tryd.underlying105
  a208 := Tryd.isAgg105
  z208 := Tryd.sizeOf105
  v208 := Tryd.zeroValue105 }
open Go.RowKit Go.Lib in
theorem Tryd.unicode_convertCase (c : Nat) (hc : c < 3) (r : Int) (A o : Nat) (x : CaseRow) (w : World) (hlo : (x.1 : Int) ≤ r) (hhi : r ≤ (x.2.1 : Int)) (hH : x.2.1 < 2147483647) (c0 : w.cell? ⟨A, o, none⟩ = some (.int .u32 x.1)) (cD : w.cell? ⟨A, o + 2 + c, none⟩ = some (.int .i32 (x.delta c))) :
    Calls Tryd.prog 22 #[.int .i64 c, .int .i32 r, .pointer (some ⟨A, o, none⟩)] w fun e w' => e = .returned (.int .i32 (wrap32 (convertR c r x))) ∧ ∃ q, w' = w.drewN q := Any.unicode_convertCase Tryd.lays275 c hc r A o x w hlo hhi hH c0 cD
end Go.Proofs
