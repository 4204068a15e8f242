/- math.Trunc, math.Floor, spec.Whole. -/
import Derived.Test.YtpehjcbjcenaeaaMinusLaw
import Derived.Test.YtpehjcbjcenaeaaFArith
namespace Go.Proofs.Ytpehjcbjcenaeaa
open Go.RowKit

theorem trunc_step (x : Nat) (w : World) : (callFunc 72 #[.float .f64 x]).run Try.prog w = ((Extern.MathFloor.toIntegral "math.archTrunc" .zero #[.float .f64 x]).bind fun v => .pure (Next.value v)).run Try.prog w := by kernel_rfl
theorem floor_step (x : Nat) (w : World) : (callFunc 86 #[.float .f64 x]).run Try.prog w = ((Extern.MathFloor.toIntegral "math.archFloor" .down #[.float .f64 x]).bind fun v => .pure (Next.value v)).run Try.prog w := by kernel_rfl

/-- What the whole part of a word is, by what the word stands for: a NaN comes back as it is or made quiet. -/
def wholeOf (way : Ieee.Toward) (x : Nat) : Ieee.Datum → Sem Value
  | .number s m i => .pure (.float .f64 (FloatKind.f64.encode ((Ieee.Datum.number s m i).integral way)))
  | .infinity s => .pure (.float .f64 (FloatKind.f64.encode ((Ieee.Datum.infinity s).integral way)))
  | .nan s t => if FloatKind.f64.format.quiet t = t then .pure (.float .f64 x)
    else .choose (Question.extern "math.Floor,Ceil,Trunc,RoundToEven.signallingNaN kept" 2) fun n => .pure (.float .f64 (if n == 1 then x else FloatKind.f64.encode (.nan s (FloatKind.f64.format.quiet t))))
theorem wholeOf_eq (name : String) (way : Ieee.Toward) (x : Nat) : Extern.MathFloor.toIntegral name way #[.float .f64 x] = wholeOf way x (FloatKind.f64.decode x) := by
  show (match FloatKind.f64.decode x with | .nan s t => _ | d => _) = _
  generalize FloatKind.f64.decode x = d
  cases d with
  | nan s t =>
    show (if FloatKind.f64.format.quiet t = t then _ else _) = (if FloatKind.f64.format.quiet t = t then _ else _)
    split <;> rfl
  | infinity s => rfl
  | number s m i => rfl
theorem integral_some {P : Program} (name : String) (way : Ieee.Toward) (x : Nat) (w : World) (h : nanW x = false) :
    ((Extern.MathFloor.toIntegral name way #[.float .f64 x]).bind fun v => .pure (Next.value v)).run P w = .ok (.value (.float .f64 (FloatKind.f64.encode ((FloatKind.f64.decode x).integral way)))) w := by
  unfold nanW at h
  have hd : FloatKind.f64.decode x = FloatKind.f64.format.read x := rfl
  rw [wholeOf_eq, hd]
  cases hr : FloatKind.f64.format.read x with
  | nan s t => rw [hr] at h; cases h
  | infinity s => rfl
  | number s m i => rfl
theorem integral_none {P : Program} (name : String) (way : Ieee.Toward) (x : Nat) (w : World) (h : nanW x = true) :
    ∃ t w', ((Extern.MathFloor.toIntegral name way #[.float .f64 x]).bind fun v => .pure (Next.value v)).run P w = .ok (.value (.float .f64 t)) w' ∧ (w' = w ∨ w' = w.drew) := by
  unfold nanW at h
  have hd : FloatKind.f64.decode x = FloatKind.f64.format.read x := rfl
  rw [wholeOf_eq, hd]
  cases hr : FloatKind.f64.format.read x with
  | nan s t =>
    by_cases hq : FloatKind.f64.format.quiet t = t
    · exact ⟨x, w, by simp only [wholeOf, if_pos hq]; rfl, .inl rfl⟩
    · exact ⟨_, w.drew, by simp only [wholeOf, if_neg hq]; rfl, .inr rfl⟩
  | infinity s => rw [hr] at h; cases h
  | number s m i => rw [hr] at h; cases h

theorem trunc_num (x : Nat) (w : World) (h : nanW x = false) :
    Calls Try.prog 54 #[.float .f64 x] w fun e w' => e = .returned (.float .f64 (truncW x)) ∧ w = w' := by
  have hstep : ∀ w, (callFunc 72 #[.float .f64 x]).run Try.prog w = .ok (.value (.float .f64 (truncW x))) w := fun w => (trunc_step x w).trans (integral_some _ _ _ _ h)
  clear h
  go_enter Try.func54, Try.ntmps54
  go_wp2_with (simp only [hstep])
  go_ret
  exact ⟨rfl, rfl⟩
theorem floor_num (x : Nat) (w : World) (h : nanW x = false) :
    Calls Try.prog 71 #[.float .f64 x] w fun e w' => e = .returned (.float .f64 (floorW x)) ∧ w = w' := by
  have hstep : ∀ w, (callFunc 86 #[.float .f64 x]).run Try.prog w = .ok (.value (.float .f64 (floorW x))) w := fun w => (floor_step x w).trans (integral_some _ _ _ _ h)
  clear h
  go_enter Try.func71, Try.ntmps71
  go_wp2_with (simp only [hstep])
  go_ret
  exact ⟨rfl, rfl⟩
set_option maxRecDepth 100000 in
theorem trunc_nan (x : Nat) (w : World) (h : nanW x = true) :
    Calls Try.prog 54 #[.float .f64 x] w fun e w' => ∃ t, e = .returned (.float .f64 t) ∧ (w' = w ∨ w' = w.drew) := by
  obtain ⟨t, w', h1, h2⟩ := integral_none (P := Try.prog) "math.archTrunc" .zero x w h
  have hstep : (callFunc 72 #[.float .f64 x]).run Try.prog w = .ok (.value (.float .f64 t)) w' := (trunc_step x w).trans h1
  clear h1 h
  go_enter Try.func54, Try.ntmps54
  go_wp2_with (simp only [hstep])
  go_ret
  exact ⟨t, rfl, h2⟩
set_option maxRecDepth 100000 in
theorem floor_nan (x : Nat) (w : World) (h : nanW x = true) :
    Calls Try.prog 71 #[.float .f64 x] w fun e w' => ∃ t, e = .returned (.float .f64 t) ∧ (w' = w ∨ w' = w.drew) := by
  obtain ⟨t, w', h1, h2⟩ := integral_none (P := Try.prog) "math.archFloor" .down x w h
  have hstep : (callFunc 86 #[.float .f64 x]).run Try.prog w = .ok (.value (.float .f64 t)) w' := (floor_step x w).trans h1
  clear h1 h
  go_enter Try.func71, Try.ntmps71
  go_wp2_with (simp only [hstep])
  go_ret
  exact ⟨t, rfl, h2⟩

/-- The word is an integer of less than 2^53. -/
def WholeAt (x : Nat) (z : Int) : Prop := finW x = true ∧ valW x = z * T ∧ z.natAbs < 9007199254740992
theorem nan_of_fin {x : Nat} (h : finW x = true) : nanW x = false := by
  rcases three x with ⟨_, h1, _⟩ | ⟨h1, _, _⟩ | ⟨_, h1, _⟩
  · exact h1
  · rw [h1] at h; cases h
  · exact h1
theorem mul_T_lt {a b : Int} : a * T < b * T ↔ a < b := Int.mul_lt_mul_right (by have := T_pos; omega)
theorem mul_T_le {a b : Int} : a * T ≤ b * T ↔ a ≤ b := Int.mul_le_mul_right (by have := T_pos; omega)

theorem fin_between {x : Nat} (h1 : (FloatKind.f64.format.order x 14069245235905429504 == some .gt) = true) (h2 : (FloatKind.f64.format.order x 4845873199050653696 == some .lt) = true) : finW x = true := by
  have r1 : FloatKind.f64.format.read 14069245235905429504 = .number true 4503599627370496 1 := by decide +kernel
  have r2 : FloatKind.f64.format.read 4845873199050653696 = .number false 4503599627370496 1 := by decide +kernel
  unfold Ieee.Format.order at h1 h2
  rw [r1] at h1
  rw [r2] at h2
  unfold finW
  cases hr : FloatKind.f64.format.read x with
  | nan s t => rw [hr] at h1; cases h1
  | infinity s => cases s <;> rw [hr] at h1 h2 <;> first | (cases h1; done) | (cases h2; done)
  | number s m i => rfl

theorem integer_yes (x : Nat) (z : Int) (w : World) (h : WholeAt x z) :
    Calls Try.prog 37 #[.float .f64 x] w fun e w' => e = .returned (.tuple #[.int .i64 z, .bool true]) ∧ w = w' := by
  obtain ⟨hf, hv, hz⟩ := h
  obtain ⟨q, ht, htv, hi, hq, _⟩ := trunc_fin x hf
  have hqz := hq z hv
  subst hqz
  have g1 : (FloatKind.f64.format.order x 14069245235905429504 == some .gt) = true := by
    rw [gt_fin hf val_under.1, hv, val_under.2, decide_eq_true_eq, mul_T_lt]; omega
  have g2 : (FloatKind.f64.format.order x 4845873199050653696 == some .lt) = true := by
    rw [lt_fin hf val_over.1, hv, val_over.2, decide_eq_true_eq, mul_T_lt]; omega
  have g3 : (FloatKind.f64.format.order x (truncW x) != some .eq) = false := by
    rw [ne_fin hf ht, hv, htv]; simp
  have hc : floatToIntVal .f64 x .i64 = some q := by
    unfold floatToIntVal
    rw [hi]
    show (if IntKind.min .i64 ≤ q ∧ q ≤ IntKind.max .i64 then some q else none) = _
    have m1 : IntKind.min .i64 = -9223372036854775808 := by decide +kernel
    have m2 : IntKind.max .i64 = 9223372036854775807 := by decide +kernel
    rw [m1, m2, if_pos (by omega)]
  have hcv : ∀ w, (convert 25 2 (.float .f64 x)).run Try.prog w = .ok (.int .i64 q) w := fun w => run_convert_float_int w 25 2 .f64 .i64 x q (by rw [Try.underlying25]; rfl) Try.underlying2 hc
  have hn := Lib.hid (nan_of_fin hf)
  clear hf hv hz ht htv hi hq hc
  go_enter Try.func37, Try.ntmps37
  go_wp2_with (go_at_call 54; refine (trunc_num _ _ hn.out).mono ?_; rintro e w' ⟨rfl, rfl⟩)
  go_ret2
  exact ⟨rfl, rfl⟩
end Go.Proofs.Ytpehjcbjcenaeaa
