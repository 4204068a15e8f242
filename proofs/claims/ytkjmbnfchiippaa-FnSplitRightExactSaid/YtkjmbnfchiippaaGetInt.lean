/- Contracts of the interpreter's getNumber and getInt, at a number that is a small integer. -/
import Derived.Test.YtkjmbnfchiippaaRows
import Derived.Test.YtkjmbnfchiippaaWords
import Derived.Test.YtkjmbnfchiippaaF64
import Derived.WalkKit
import Derived.WalkLawsBesides
import Derived.WalkSpells
import Derived.Lib.Hide
import Derived.Laws.FloatArith
import Derived.Deep.RegionHeld3
namespace Go.Proofs.Ytkjmbnfchiippaa
open Go.RowKit

theorem as_numI (v : Value) (w : World) : (Instr.typeAssert (.iface 109 v) 53 109 true).run Try.prog w = .ok (.tuple #[v, .bool true]) w := by kernel_rfl
attribute [local go_sem] as_numI
theorem getNumberI (i v : Value) (w : World) :
    Calls Try.prog 40 #[i, .iface 109 v] w fun e w' => e = .returned (.tuple #[v, .nilIface]) ∧ w = w' := by
  go_enter Try.func40, Try.ntmps40
  go_wp2
  go_ret2
  exact ⟨rfl, rfl⟩

theorem small_word : ∀ k : Fin 600, floatToIntVal .f64 (floatOfInt .f64 ((k.val : Nat) : Int)) .i32 = some ((k.val : Nat) : Int) ∧ nanW (floatOfInt .f64 ((k.val : Nat) : Int)) = false := by decide +kernel

set_option maxRecDepth 100000 in
set_option maxHeartbeats 800000 in
theorem getInt_any (i : Value) (q k x : Nat) (w : World) (hk : k < 600) (hx : floatOfInt .f64 (k : Int) = x) (hq : w.cell? ⟨q, 0, none⟩ = some (.float .f64 x)) :
    Calls Try.prog 31 #[i, .iface 109 (.pointer (some ⟨q, 0, none⟩))] w fun e w' => e = .returned (.tuple #[.int .i64 k, .nilIface]) ∧ Below w.heap.size w w' := by
  obtain ⟨h1, h2⟩ := small_word ⟨k, hk⟩
  simp only [hx] at h1 h2
  have hc : ∀ w, (convert 32 21 (.float .f64 x)).run Try.prog w = .ok (.int .i32 k) w := fun w => run_convert_float_int w 32 21 .f64 .i32 x k (by rw [Try.underlying32]; rfl) Try.underlying21 h1
  have ho : (FloatKind.f64.format.order x x != some .eq) = false := by rw [order_self]; exact h2
  clear h1 h2
  go_enter Try.func31, Try.ntmps31
  go_wp2_with fail
  refine (getNumberI _ _ _).mono ?_
  rintro e w1 ⟨rfl, rfl⟩
  go_wp2_with fail
  go_ret2
  exact ⟨rfl, Below.refl _ _⟩
end Go.Proofs.Ytkjmbnfchiippaa
