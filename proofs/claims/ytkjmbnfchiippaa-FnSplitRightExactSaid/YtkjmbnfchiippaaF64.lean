/- Plain facts on float64 words: what is finite, absolute values, comparison of a word with itself, subtraction of finite words. No program. -/
import Derived.Laws.FloatArith
import Derived.Laws.BitsAllLaws
import Derived.Laws.BitsLemmas
namespace Go.Proofs.Ytkjmbnfchiippaa
open Ieee

/-- A word without its sign. -/
def absW (x : Nat) : Nat := x % 9223372036854775808
theorem bits_mod (x : Nat) (b : Int) : bits .andNot .u64 (x : Int) b = bits .andNot .u64 ((x % 18446744073709551616 : Nat) : Int) b := by
  have : BitVec.ofInt 64 (x : Int) = BitVec.ofInt 64 ((x % 18446744073709551616 : Nat) : Int) := by
    rw [BitVec.ofInt_natCast, BitVec.ofInt_natCast]
    apply BitVec.eq_of_toNat_eq
    simp
  show IntKind.u64.wrap ((BitVec.ofInt 64 (x : Int) &&& ~~~ BitVec.ofInt 64 b).toNat : Int) = IntKind.u64.wrap ((BitVec.ofInt 64 _ &&& ~~~ BitVec.ofInt 64 b).toNat : Int)
  rw [this]
theorem andNot_abs (x : Nat) : bits .andNot .u64 (x : Int) 9223372036854775808 = ((absW x : Nat) : Int) := by
  rw [bits_mod]
  have h := u64_andNot_nat (x % 18446744073709551616) 9223372036854775808 (by omega) (by omega)
  have e : ((9223372036854775808 : Nat) : Int) = 9223372036854775808 := rfl
  rw [e] at h
  rw [h]
  have h2 : (18446744073709551615 - 9223372036854775808 : Nat) = 2 ^ 63 - 1 := rfl
  rw [h2, Nat.and_two_pow_sub_one_eq_mod]
  unfold absW
  congr 1
  omega

/-- The word is a NaN, an infinity, a number. -/
def nanW (x : Nat) : Bool := (FloatKind.f64.format.read x).isNaN
def finW (x : Nat) : Bool := match FloatKind.f64.format.read x with | .number .. => true | _ => false
def infW (x : Nat) : Bool := (FloatKind.f64.format.read x).isInfinity
theorem three (x : Nat) : (finW x = true ∧ nanW x = false ∧ infW x = false) ∨ (finW x = false ∧ nanW x = true ∧ infW x = false) ∨ (finW x = false ∧ nanW x = false ∧ infW x = true) := by
  unfold finW nanW infW
  cases FloatKind.f64.format.read x <;> simp [Datum.isNaN, Datum.isInfinity]

theorem order_self (x : Nat) : (FloatKind.f64.format.order x x != some .eq) = nanW x := by
  unfold Format.order nanW
  cases h : FloatKind.f64.format.read x with
  | nan s t => rfl
  | infinity s => simp [Datum.order, Datum.isNaN, Std.ReflCmp.compare_self]
  | number s m i => simp [Datum.order, Datum.isNaN, Std.ReflCmp.compare_self]

theorem order_eq_self (x : Nat) (h : nanW x = false) : (FloatKind.f64.format.order x x == some .eq) = true := by
  have := order_self x
  rw [h] at this
  simpa using this

theorem sw : FloatKind.f64.format.signWeight = 9223372036854775808 := by decide +kernel
theorem bi : FloatKind.f64.format.binade = 4503599627370496 := by decide +kernel
theorem ir : FloatKind.f64.format.infRung = 9218868437227405312 := by decide +kernel
theorem lp : FloatKind.f64.format.leastPlace = -1074 := by decide +kernel

/-- What a word stands for, by its rung. -/
theorem read_def (x : Nat) : FloatKind.f64.format.read x =
    if x % 9223372036854775808 < 4503599627370496 then .number (x / 9223372036854775808 % 2 == 1) (x % 9223372036854775808) (-1074)
    else if x % 9223372036854775808 < 9218868437227405312 then .number (x / 9223372036854775808 % 2 == 1) (4503599627370496 + x % 9223372036854775808 % 4503599627370496) (-1074 + (x % 9223372036854775808 / 4503599627370496 - 1 : Nat))
    else if x % 9223372036854775808 = 9218868437227405312 then .infinity (x / 9223372036854775808 % 2 == 1)
    else .nan (x / 9223372036854775808 % 2 == 1) (x % 9223372036854775808 - 9218868437227405312) := by
  unfold Format.read
  simp only [sw, bi, ir, lp]

theorem read_bd {x : Nat} {s : Bool} {m : Nat} {i : Int} (h : FloatKind.f64.format.read x = .number s m i) : m < 9007199254740992 ∧ -1074 ≤ i ∧ i ≤ 971 := by
  rw [read_def] at h
  by_cases h1 : x % 9223372036854775808 < 4503599627370496
  · rw [if_pos h1] at h
    cases h
    omega
  · rw [if_neg h1] at h
    by_cases h2 : x % 9223372036854775808 < 9218868437227405312
    · rw [if_pos h2] at h
      cases h
      omega
    · rw [if_neg h2] at h
      split at h <;> cases h

theorem absW_mod (x : Nat) : absW x % 9223372036854775808 = x % 9223372036854775808 := by unfold absW; omega
theorem absW_div (x : Nat) : (absW x / 9223372036854775808 % 2 == 1) = false := by
  have : absW x / 9223372036854775808 = 0 := by unfold absW; omega
  rw [this]; rfl
theorem read_abs (x : Nat) : FloatKind.f64.format.read (absW x) = match FloatKind.f64.format.read x with | .number _ m i => .number false m i | .infinity _ => .infinity false | .nan _ t => .nan false t := by
  rw [read_def, read_def, absW_mod, absW_div]
  by_cases h1 : x % 9223372036854775808 < 4503599627370496
  · simp only [if_pos h1]
  · simp only [if_neg h1]
    by_cases h2 : x % 9223372036854775808 < 9218868437227405312
    · simp only [if_pos h2]
    · simp only [if_neg h2]
      by_cases h3 : x % 9223372036854775808 = 9218868437227405312
      · simp only [if_pos h3]
      · simp only [if_neg h3]

theorem read_max : FloatKind.f64.format.read 9218868437227405311 = .number false 9007199254740991 971 := by decide +kernel

/-- '|x| is greater than the greatest number': x is an infinity. -/
theorem order_max (x : Nat) : (FloatKind.f64.format.order (absW x) 9218868437227405311 == some .gt) = infW x := by
  unfold Format.order infW
  rw [read_abs, read_max]
  cases h : FloatKind.f64.format.read x with
  | nan s t => simp [Datum.order, Datum.isInfinity]
  | infinity s => simp [Datum.order, Datum.isInfinity]
  | number s m i =>
    obtain ⟨h1, h2, h3⟩ := read_bd h
    have hm : min i 971 = i := by omega
    simp only [Datum.order, Datum.isInfinity, hm, signed]
    have e0 : (i - i).toNat = 0 := by omega
    rw [e0]
    have hle : m ≤ 9007199254740991 <<< (971 - i).toNat := by
      rw [Nat.shiftLeft_eq]
      have : 0 < 2 ^ (971 - i).toNat := Nat.two_pow_pos _
      have := Nat.le_mul_of_pos_right 9007199254740991 this
      omega
    have hc : compare ((m <<< 0 : Nat) : Int) ((9007199254740991 <<< (971 - i).toNat : Nat) : Int) ≠ .gt := by
      intro hgt
      rw [Int.compare_eq_gt] at hgt
      simp only [Nat.shiftLeft_zero] at hgt
      omega
    simpa using hc

theorem nan_word (neg : Bool) (rung : Nat) (h : rung ≤ 9218868437227405312) : nanW (FloatKind.f64.format.word neg rung) = false := by
  have h1 : FloatKind.f64.format.word neg rung % 9223372036854775808 = rung := by
    unfold Format.word
    rw [sw]
    split <;> omega
  unfold nanW
  rw [read_def, h1]
  split
  · rfl
  · split
    · rfl
    · split
      · rfl
      · omega
theorem nan_write (s : Bool) (m : Nat) (i : Int) : nanW (FloatKind.f64.format.write (.number s m i)) = false := by
  show nanW (FloatKind.f64.format.nearest s m i) = false
  unfold Format.nearest
  split
  · exact nan_word _ _ (by omega)
  · refine nan_word _ _ ?_
    rw [ir]
    exact Nat.min_le_right _ _
/-- The difference of two numbers is no NaN. -/
theorem sub_fin (x y : Nat) (hx : finW x = true) (hy : finW y = true) : ∃ r, floatBits .sub .f64 x y = some r ∧ nanW r = false := by
  unfold finW at hx hy
  show ∃ r, FloatKind.f64.format.sub x y = some r ∧ nanW r = false
  unfold Format.sub
  cases h : FloatKind.f64.format.read x with
  | nan s t => rw [h] at hx; cases hx
  | infinity s => rw [h] at hx; cases hx
  | number s m i =>
    cases h' : FloatKind.f64.format.read y with
    | nan s t => rw [h'] at hy; cases hy
    | infinity s => rw [h'] at hy; cases hy
    | number s' m' i' => exact ⟨_, rfl, nan_write _ _ _⟩
/-- What the tape answers where a NaN is made is a NaN. -/
theorem nan_cut (x y t : Nat) : nanW ((Question.nanBits .f64 x y).cut t) = true := by
  have e : (Question.nanBits .f64 x y).cut t = (t % 2) * 9223372036854775808 + 9218868437227405312 + 1 + (t / 2) % 4503599627370495 := rfl
  have h1 : (Question.nanBits .f64 x y).cut t % 9223372036854775808 = 9218868437227405312 + 1 + (t / 2) % 4503599627370495 := by rw [e]; omega
  unfold nanW
  rw [read_def, h1, if_neg (by omega), if_neg (by omega), if_neg (by omega)]
  rfl
theorem run_sub_some {P : Program} (t : TypeId) (x y r : Nat) (h : floatBits .sub .f64 x y = some r) (w : World) : (binOp .sub t (.float .f64 x) (.float .f64 y)).run P w = .ok (.float .f64 r) w :=
  run_float_arith w .sub t .f64 x y r h
theorem run_sub_none {P : Program} (t : TypeId) (x y : Nat) (h : floatBits .sub .f64 x y = none) (w : World) : (binOp .sub t (.float .f64 x) (.float .f64 y)).run P w = .ok (.float .f64 ((Question.nanBits .f64 x y).cut (w.tape w.drawn (.nanBits .f64 x y)))) w.drew := by
  have h' : FloatKind.f64.format.sub x y = none := h
  simp [binOp, Op.floatArith, h', Question.forced]
end Go.Proofs.Ytkjmbnfchiippaa
