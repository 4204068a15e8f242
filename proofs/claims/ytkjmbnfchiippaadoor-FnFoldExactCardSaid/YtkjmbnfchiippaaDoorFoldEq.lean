/- strings.EqualFold by its contract; builtinEqualsIgnoreCase; PartEqualsIgnoreCase; TextEqualsIgnoreCase. -/
import Derived.Test.YtkjmbnfchiippaaDoorFlat
import Derived.Test.YtkjmbnfchiippaaDoorFolded
import Derived.Test.YtkjmbnfchiippaaDoorUtfRunes
import Derived.Test.YtkjmbnfchiippaaDoorShelfD
namespace Go.Proofs.YtkjmbnfchiippaaDoor
open Go.RowKit

theorem as_bool1 (v : Value) (w : World) : (Instr.typeAssert (.iface 64 v) 35 64 false).run Tryd.prog w = .ok v w := by kernel_rfl
attribute [local go_sem] as_bool1

theorem makeBool' (b : Bool) (w : World) :
    Calls Tryd.prog 12 #[.bool b] w fun e w' => ∃ r, e = .returned (.pointer (some r)) ∧ w'.cell? r = some (.bool b) ∧ Below w.heap.size w w' := by
  go_enter Tryd.func12, Tryd.ntmps12
  go_wp2
  go_ret
  exact ⟨_, rfl, World.cell?_alloc_mark w _ _ (0, 0) 0, (Below.refl _ _).alloc (Nat.le_refl _) _⟩
theorem boolOf_any (p : Addr) (b : Bool) (w : World) (hp : w.cell? p = some (.bool b)) :
    Calls Tryd.prog 8 #[.iface 64 (.pointer (some p)), .nilIface] w fun e w' => e = .returned (.tuple #[.bool b, .nilIface]) ∧ w = w' := by
  go_enter Tryd.func8, Tryd.ntmps8
  go_wp2
  go_ret2
  exact ⟨rfl, rfl⟩
theorem truth_any (b : Bool) (w : World) :
    Calls Tryd.prog 6 #[.bool b, .nilIface] w fun e w' => e = .returned (.tuple #[.bool b, .bool true]) ∧ w = w' := by
  go_enter Tryd.func6, Tryd.ntmps6
  go_wp2
  go_ret2
  exact ⟨rfl, rfl⟩

theorem fold_any (a b : ByteArray) (v : Bool) (w : World) (hs : a.size ≤ 2000) (ha : Asc a) (hb : Asc b) (hv : decide (lowS a = lowS b) = v) :
    Calls Tryd.prog 13 #[.string a, .string b] w fun e w' => e = .returned (.bool v) ∧ w = w' :=
  (Go.Proofs.Tryd.strings_EqualFold a b w (by omega) ha hb).mono fun e w' ⟨he, hw⟩ => ⟨by rw [he, ← hv, lowS_eq, equalFold_eq _ _ ha.mem hb.mem], hw.symm⟩

theorem goString_asc (s : ByteArray) (r : Addr) (w : World) (h : FlatS w r (runesOf s)) (ha : Asc s) :
    Calls Tryd.prog 47 #[.pointer (some r)] w fun e w' => e = .returned (.string s) ∧ w = w' :=
  (goString_any r _ w h).mono fun e w' ⟨he, hw⟩ => ⟨by rw [he, runesBytes_valid s (valid_of_ascii _ ha.mem)], hw⟩

set_option maxRecDepth 100000 in
theorem eqFold_any (i : Value) (r1 r2 : Addr) (a b : ByteArray) (v : Bool) (w : World) (h1 : FlatS w r1 (runesOf a)) (h2 : FlatS w r2 (runesOf b)) (hs : a.size ≤ 2000) (ha : Asc a) (hb : Asc b) (hv : decide (lowS a = lowS b) = v) :
    Calls Tryd.prog 9 #[i, .iface 73 (.pointer (some r1)), .iface 73 (.pointer (some r2))] w fun e w' => ∃ r, e = .returned (.tuple #[.iface 64 (.pointer (some r)), .nilIface]) ∧ w'.cell? r = some (.bool v) ∧ Below w.heap.size w w' := by
  have C1 := Lib.hid (goString_asc a r1 w h1 ha)
  have C2 := Lib.hid (goString_asc b r2 w h2 hb)
  have C3 := Lib.hid (fold_any a b v w hs ha hb hv)
  clear h1 h2 ha hb hv hs
  go_enter Tryd.func9, Tryd.ntmps9
  go_wp2_with (go_at_call 11; refine (getString_any _ _ _).mono ?_; rintro e w' ⟨rfl, rfl⟩)
  refine C1.out.mono ?_
  rintro e w' ⟨rfl, rfl⟩
  go_wp2_with fail
  refine C2.out.mono ?_
  rintro e w' ⟨rfl, rfl⟩
  go_wp2_with fail
  refine C3.out.mono ?_
  rintro e w' ⟨rfl, rfl⟩
  go_wp2_with fail
  refine (makeBool' v w).mono ?_
  rintro e w1 ⟨r, rfl, hc, hb⟩
  go_wp2_with fail
  go_ret2
  exact ⟨r, rfl, hc, hb⟩

set_option maxRecDepth 100000 in
theorem partFold (a b : ByteArray) (v : Bool) (w : World) (hs : a.size ≤ 2000) (hs2 : b.size ≤ 2000) (ha : Asc a) (hb : Asc b) (hv : decide (lowS a = lowS b) = v) :
    Calls Tryd.prog 7 #[.string a, .string b] w fun e w' => e = .returned (.tuple #[.bool v, .nilIface]) ∧ Below w.heap.size w w' := by
  have HA := Lib.hid ha
  have HB := Lib.hid hb
  have HV := Lib.hid hv
  clear ha hb hv
  go_enter Tryd.func7, Tryd.ntmps7
  go_wp2_with fail
  refine (str_any a _ (by omega)).mono ?_
  rintro e w1 ⟨r1, rfl, hf1, hb1⟩
  go_wp2_with fail
  refine (str_any b _ (by omega)).mono ?_
  rintro e w2 ⟨r2, rfl, hf2, hb2⟩
  go_wp2_with fail
  refine (eqFold_any _ r1 r2 a b v _ (hf1.below hb2) hf2 hs HA.out HB.out HV.out).mono ?_
  rintro e w3 ⟨r3, rfl, hc3, hb3⟩
  go_wp2_with fail
  refine (boolOf_any r3 _ _ hc3).mono ?_
  rintro e w4 ⟨rfl, rfl⟩
  go_wp2_with fail
  go_ret2
  have hs := hb1.size
  have hs2 := hb2.size
  simp at hs
  exact ⟨rfl, (((Below.refl _ _).alloc (Nat.le_refl _) _).trans (hb1.mono (by simp))).trans ((hb2.mono (by omega)).trans (hb3.mono (by omega)))⟩

theorem textFold (a b : ByteArray) (v : Bool) (w : World) (hs : a.size ≤ 2000) (hs2 : b.size ≤ 2000) (ha : Asc a) (hb : Asc b) (hv : decide (lowS a = lowS b) = v) :
    Calls Tryd.prog 5 #[.string a, .string b] w fun e w' => e = .returned (.tuple #[.bool v, .bool true]) ∧ Below w.heap.size w w' := by
  have C := Lib.hid (partFold a b v w hs hs2 ha hb hv)
  clear ha hb hv
  go_enter Tryd.func5, Tryd.ntmps5
  go_wp2_with fail
  refine C.out.mono ?_
  rintro e w1 ⟨rfl, hb1⟩
  go_wp2_with fail
  refine (truth_any _ _).mono ?_
  rintro e w2 ⟨rfl, rfl⟩
  go_wp2_with fail
  go_ret2
  exact ⟨rfl, hb1⟩
end Go.Proofs.YtkjmbnfchiippaaDoor
