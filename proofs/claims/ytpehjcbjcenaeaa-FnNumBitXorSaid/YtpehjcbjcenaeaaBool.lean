/- Contracts of the package's functions on booleans: makeValueBoolean, getBoolean, builtinXor, builtinXnor, boolOf, truth. -/
import Derived.Test.YtpehjcbjcenaeaaRows
import Derived.Test.YtpehjcbjcenaeaaWords
import Derived.WalkKit
import Derived.WalkLawsBesides
import Derived.WalkSpells
import Derived.Lib.Hide
import Derived.Deep.RegionHeld3
namespace Go.Proofs.Ytpehjcbjcenaeaa
open Go.RowKit

theorem as_bool (v : Value) (w : World) : (Instr.typeAssert (.iface 89 v) 65 89 true).run Try.prog w = .ok (.tuple #[v, .bool true]) w := by kernel_rfl
theorem as_bool1 (v : Value) (w : World) : (Instr.typeAssert (.iface 89 v) 65 89 false).run Try.prog w = .ok v w := by kernel_rfl
attribute [local go_sem] as_bool as_bool1

theorem getBoolean_any (i v : Value) (w : World) :
    Calls Try.prog 60 #[i, .iface 89 v] w fun e w' => e = .returned (.tuple #[v, .nilIface]) ∧ w = w' := by
  go_enter Try.func60, Try.ntmps60
  go_wp2
  go_ret2
  exact ⟨rfl, rfl⟩

theorem makeBool_any (b : Bool) (w : World) :
    Calls Try.prog 43 #[.bool b] w fun e w' => e = .returned (.pointer (some ⟨w.heap.size, 0, none⟩)) ∧ w' = w.alloc (.cells #[.bool b] 108) := by
  go_enter Try.func43, Try.ntmps43
  go_wp2
  go_ret
  exact ⟨rfl, rfl⟩

theorem makeBool' (b : Bool) (w : World) :
    Calls Try.prog 43 #[.bool b] w fun e w' => ∃ r, e = .returned (.pointer (some r)) ∧ w'.cell? r = some (.bool b) ∧ Below w.heap.size w w' :=
  (makeBool_any b w).mono fun e w' ⟨he, hw⟩ => ⟨_, he, by rw [hw]; exact World.cell?_alloc_mark w _ _ (0, 0) 0, by rw [hw]; exact (Below.refl _ _).alloc (Nat.le_refl _) _⟩

theorem boolOf_any (p : Addr) (b : Bool) (w : World) (hp : w.cell? p = some (.bool b)) :
    Calls Try.prog 41 #[.iface 89 (.pointer (some p)), .nilIface] w fun e w' => e = .returned (.tuple #[.bool b, .nilIface]) ∧ w = w' := by
  go_enter Try.func41, Try.ntmps41
  go_wp2
  go_ret2
  exact ⟨rfl, rfl⟩

theorem truth_any (b : Bool) (w : World) :
    Calls Try.prog 25 #[.bool b, .nilIface] w fun e w' => e = .returned (.tuple #[.bool b, .bool true]) ∧ w = w' := by
  go_enter Try.func25, Try.ntmps25
  go_wp2
  go_ret2
  exact ⟨rfl, rfl⟩

/-- A new boolean is handed back. -/
def BoolRes (w : World) (b : Bool) (e : Ending) (w' : World) : Prop :=
  ∃ r, e = .returned (.tuple #[.iface 89 (.pointer (some r)), .nilIface]) ∧ w'.cell? r = some (.bool b) ∧ Below w.heap.size w w'

theorem bxor_any (i : Value) (p q : Addr) (a b : Bool) (w : World) (hp : w.cell? p = some (.bool a)) (hq : w.cell? q = some (.bool b)) :
    Calls Try.prog 42 #[i, .iface 89 (.pointer (some p)), .iface 89 (.pointer (some q))] w (BoolRes w (a != b)) := by
  go_enter Try.func42, Try.ntmps42
  go_wp2_with (go_at_call 60; refine (getBoolean_any _ _ _).mono ?_; rintro e w' ⟨rfl, rfl⟩)
  go_region_held3 (fun w' => w'.cell? p = some (.bool a) ∧ w'.cell? q = some (.bool b)) (go_keep) ((go_at_call 43; refine (makeBool_any _ _).mono ?_; rintro e w' ⟨rfl, rfl⟩))
  all_goals
    go_wp2
    go_ret2
    exact ⟨_, rfl, World.cell?_alloc_mark w _ _ (0, 0) 0, ((Below.refl _ _).alloc (Nat.le_refl _) _).drew⟩

set_option maxRecDepth 100000 in
theorem partxor_any (a b : Bool) (w : World) :
    Calls Try.prog 26 #[.bool a, .bool b] w fun e w' => e = .returned (.tuple #[.bool (a != b), .nilIface]) ∧ Below w.heap.size w w' := by
  go_enter Try.func26, Try.ntmps26
  go_wp2_with fail
  refine (makeBool' a _).mono ?_
  rintro e w1 ⟨r1, rfl, hc1, hb1⟩
  go_wp2_with fail
  refine (makeBool' b _).mono ?_
  rintro e w2 ⟨r2, rfl, hc2, hb2⟩
  have hc1' := keeps hb2 hc1
  go_wp2_with fail
  refine (bxor_any _ r1 r2 a b _ hc1' hc2).mono ?_
  rintro e w3 ⟨r3, rfl, hc3, hb3⟩
  go_wp2_with fail
  refine (boolOf_any r3 _ _ hc3).mono ?_
  rintro e w4 ⟨rfl, rfl⟩
  go_wp2_with fail
  go_ret2
  have hs := hb1.size
  have hs2 := hb2.size
  simp at hs
  exact ⟨rfl, (((Below.refl _ _).alloc (Nat.le_refl _) _).trans (hb1.mono (by simp))).trans ((hb2.mono (by omega)).trans (hb3.mono (by omega)))⟩

theorem logicXor (a b : Bool) (w : World) :
    Calls Try.prog 9 #[.bool a, .bool b] w fun e w' => e = .returned (.tuple #[.bool (a != b), .bool true]) ∧ Below w.heap.size w w' := by
  go_enter Try.func9, Try.ntmps9
  go_wp2_with fail
  refine (partxor_any a b _).mono ?_
  rintro e w1 ⟨rfl, hb1⟩
  go_wp2_with fail
  refine (truth_any _ _).mono ?_
  rintro e w2 ⟨rfl, rfl⟩
  go_wp2_with fail
  go_ret2
  exact ⟨rfl, hb1⟩

theorem bxnor_any (i : Value) (p q : Addr) (a b : Bool) (w : World) (hp : w.cell? p = some (.bool a)) (hq : w.cell? q = some (.bool b)) :
    Calls Try.prog 44 #[i, .iface 89 (.pointer (some p)), .iface 89 (.pointer (some q))] w (BoolRes w (a == b)) := by
  go_enter Try.func44, Try.ntmps44
  go_wp2_with (go_at_call 60; refine (getBoolean_any _ _ _).mono ?_; rintro e w' ⟨rfl, rfl⟩)
  go_region_held3 (fun w' => w'.cell? p = some (.bool a) ∧ w'.cell? q = some (.bool b)) (go_keep) ((go_at_call 43; refine (makeBool_any _ _).mono ?_; rintro e w' ⟨rfl, rfl⟩))
  all_goals
    go_wp2
    go_ret2
    exact ⟨_, rfl, World.cell?_alloc_mark w _ _ (0, 0) 0, ((Below.refl _ _).alloc (Nat.le_refl _) _).drew⟩

set_option maxRecDepth 100000 in
theorem partxnor_any (a b : Bool) (w : World) :
    Calls Try.prog 27 #[.bool a, .bool b] w fun e w' => e = .returned (.tuple #[.bool (a == b), .nilIface]) ∧ Below w.heap.size w w' := by
  go_enter Try.func27, Try.ntmps27
  go_wp2_with fail
  refine (makeBool' a _).mono ?_
  rintro e w1 ⟨r1, rfl, hc1, hb1⟩
  go_wp2_with fail
  refine (makeBool' b _).mono ?_
  rintro e w2 ⟨r2, rfl, hc2, hb2⟩
  have hc1' := keeps hb2 hc1
  go_wp2_with fail
  refine (bxnor_any _ r1 r2 a b _ hc1' hc2).mono ?_
  rintro e w3 ⟨r3, rfl, hc3, hb3⟩
  go_wp2_with fail
  refine (boolOf_any r3 _ _ hc3).mono ?_
  rintro e w4 ⟨rfl, rfl⟩
  go_wp2_with fail
  go_ret2
  have hs := hb1.size
  have hs2 := hb2.size
  simp at hs
  exact ⟨rfl, (((Below.refl _ _).alloc (Nat.le_refl _) _).trans (hb1.mono (by simp))).trans ((hb2.mono (by omega)).trans (hb3.mono (by omega)))⟩

theorem logicXnor (a b : Bool) (w : World) :
    Calls Try.prog 10 #[.bool a, .bool b] w fun e w' => e = .returned (.tuple #[.bool (a == b), .bool true]) ∧ Below w.heap.size w w' := by
  go_enter Try.func10, Try.ntmps10
  go_wp2_with fail
  refine (partxnor_any a b _).mono ?_
  rintro e w1 ⟨rfl, hb1⟩
  go_wp2_with fail
  refine (truth_any _ _).mono ?_
  rintro e w2 ⟨rfl, rfl⟩
  go_wp2_with fail
  go_ret2
  exact ⟨rfl, hb1⟩

theorem law_logic (a b : Bool) (w : World) :
    Calls Try.prog 3 #[.bool a, .bool b] w fun e w' => e = .returned (.bool true) ∧ Below w.heap.size w w' := by
  go_enter Try.func3, Try.ntmps3
  go_wp2_with fail
  refine (logicXor a b _).mono ?_
  rintro e w1 ⟨rfl, hb1⟩
  go_wp2_with fail
  refine (logicXnor a b _).mono ?_
  rintro e w2 ⟨rfl, hb2⟩
  have hb := hb1.trans (hb2.mono hb1.size)
  cases a
  all_goals cases b
  all_goals
    go_wp2_with fail
    go_ret
    exact ⟨rfl, hb⟩
end Go.Proofs.Ytpehjcbjcenaeaa
