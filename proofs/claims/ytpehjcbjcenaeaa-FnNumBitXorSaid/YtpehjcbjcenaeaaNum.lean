/- Contracts of the package's functions on numbers. -/
import Derived.Test.YtpehjcbjcenaeaaBool
import Derived.Test.YtpehjcbjcenaeaaF64
import Derived.Laws.FloatArith
namespace Go.Proofs.Ytpehjcbjcenaeaa
open Go.RowKit

theorem toBits (x : Nat) (w : World) : (callFunc 34 #[.float .f64 x]).run Try.prog w = .ok (.value (.int .u64 x)) w := by kernel_rfl
theorem ofBits (n : Int) (w : World) : (callFunc 33 #[.int .u64 n]).run Try.prog w = .ok (.value (.float .f64 n.toNat)) w := by kernel_rfl
attribute [local go_sem] toBits ofBits andNot_abs
set_option maxRecDepth 100000 in
theorem abs_any (x : Nat) (w : World) :
    Calls Try.prog 16 #[.float .f64 x] w fun e w' => e = .returned (.float .f64 (absW x)) ∧ w = w' := by
  go_enter Try.func16, Try.ntmps16
  go_wp2
  go_ret
  exact ⟨rfl, rfl⟩

theorem isNaN_any (x : Nat) (w : World) :
    Calls Try.prog 48 #[.float .f64 x] w fun e w' => e = .returned (.bool (nanW x)) ∧ w = w' := by
  have h := order_self x
  have H := Lib.hid h
  clear h
  go_enter Try.func48, Try.ntmps48
  go_wp2
  go_ret
  exact ⟨by rw [← H.out]; rfl, rfl⟩

set_option maxRecDepth 100000 in
theorem isInf_any (x : Nat) (w : World) :
    Calls Try.prog 49 #[.float .f64 x, .int .i64 0] w fun e w' => e = .returned (.bool (infW x)) ∧ w = w' := by
  have h := order_max x
  have H := Lib.hid h
  clear h
  go_enter Try.func49, Try.ntmps49
  go_wp2_with (go_at_call 16; refine (abs_any _ _).mono ?_; rintro e w' ⟨rfl, rfl⟩)
  go_ret
  exact ⟨by rw [← H.out]; rfl, rfl⟩

theorem finite_any (x : Nat) (w : World) :
    Calls Try.prog 30 #[.float .f64 x] w fun e w' => e = .returned (.bool (finW x)) ∧ w = w' := by
  rcases three x with ⟨h1, h2, h3⟩ | ⟨h1, h2, h3⟩ | ⟨h1, h2, h3⟩
  all_goals
    go_enter Try.func30, Try.ntmps30
    go_wp2_with (first | (go_at_call 48; refine (isNaN_any _ _).mono ?_; rintro e w' ⟨rfl, rfl⟩) | (go_at_call 49; refine (isInf_any _ _).mono ?_; rintro e w' ⟨rfl, rfl⟩))
    go_ret
    exact ⟨by rw [h1]; rfl, rfl⟩

theorem as_num (v : Value) (w : World) : (Instr.typeAssert (.iface 103 v) 65 103 true).run Try.prog w = .ok (.tuple #[v, .bool true]) w := by kernel_rfl
theorem as_num1 (v : Value) (w : World) : (Instr.typeAssert (.iface 103 v) 65 103 false).run Try.prog w = .ok v w := by kernel_rfl
attribute [local go_sem] as_num as_num1

theorem getNumber_any (i v : Value) (w : World) :
    Calls Try.prog 61 #[i, .iface 103 v] w fun e w' => e = .returned (.tuple #[v, .nilIface]) ∧ w = w' := by
  go_enter Try.func61, Try.ntmps61
  go_wp2
  go_ret2
  exact ⟨rfl, rfl⟩

/-- A new number is handed back. -/
theorem makeNum (x : Nat) (w : World) :
    Calls Try.prog 63 #[.float .f64 x] w fun e w' => ∃ r, e = .returned (.pointer (some r)) ∧ w'.cell? r = some (.float .f64 x) ∧ Below w.heap.size w w' := by
  go_enter Try.func63, Try.ntmps63
  go_wp2
  go_ret
  exact ⟨_, rfl, World.cell?_alloc_mark w _ _ (0, 0) 0, (Below.refl _ _).alloc (Nat.le_refl _) _⟩

theorem num_any (x : Nat) (w : World) :
    Calls Try.prog 47 #[.float .f64 x] w fun e w' => ∃ r, e = .returned (.iface 103 (.pointer (some r))) ∧ w'.cell? r = some (.float .f64 x) ∧ Below w.heap.size w w' := by
  go_enter Try.func47, Try.ntmps47
  go_wp2_with fail
  refine (makeNum x _).mono ?_
  rintro e w1 ⟨r, rfl, hc, hb⟩
  go_wp2_with fail
  go_ret
  exact ⟨_, rfl, hc, hb⟩

theorem numOf_yes (p : Addr) (x : Nat) (w : World) (hp : w.cell? p = some (.float .f64 x)) :
    Calls Try.prog 45 #[.iface 103 (.pointer (some p)), .nilIface] w fun e w' => e = .returned (.tuple #[.float .f64 x, .nilIface]) ∧ w = w' := by
  go_enter Try.func45, Try.ntmps45
  go_wp2
  go_ret2
  exact ⟨rfl, rfl⟩
theorem numOf_no (t : TypeId) (u : Value) (v : Value) (w : World) :
    Calls Try.prog 45 #[v, .iface t u] w fun e w' => e = .returned (.tuple #[.float .f64 0, .iface t u]) ∧ w = w' := by
  go_enter Try.func45, Try.ntmps45
  go_wp2
  go_ret2
  exact ⟨rfl, rfl⟩

theorem number_yes (x : Nat) (w : World) :
    Calls Try.prog 28 #[.float .f64 x, .nilIface] w fun e w' => e = .returned (.tuple #[.float .f64 x, .bool true]) ∧ w = w' := by
  go_enter Try.func28, Try.ntmps28
  go_wp2
  go_ret2
  exact ⟨rfl, rfl⟩
theorem number_no (x : Nat) (t : TypeId) (u : Value) (w : World) :
    Calls Try.prog 28 #[.float .f64 x, .iface t u] w fun e w' => e = .returned (.tuple #[.float .f64 0, .bool false]) ∧ w = w' := by
  go_enter Try.func28, Try.ntmps28
  go_wp2
  go_ret2
  exact ⟨rfl, rfl⟩
end Go.Proofs.Ytpehjcbjcenaeaa
