/- Plain facts: comparisons of finite float64 words by their values, x + 1, x - trunc x, words of integers, copysign. No program. -/
import Derived.Test.YtpehjcbjcenaeaaFWhole
namespace Go.Proofs.Ytpehjcbjcenaeaa
open Ieee

theorem eq_fin {x y : Nat} (hx : finW x = true) (hy : finW y = true) : (FloatKind.f64.format.order x y == some .eq) = decide (valW x = valW y) := by
  rw [order_fin x y hx hy]
  by_cases h : valW x = valW y
  · simp [h]
  · simp [h]
theorem ne_fin {x y : Nat} (hx : finW x = true) (hy : finW y = true) : (FloatKind.f64.format.order x y != some .eq) = !decide (valW x = valW y) := by
  rw [← eq_fin hx hy]; rfl
theorem lt_fin {x y : Nat} (hx : finW x = true) (hy : finW y = true) : (FloatKind.f64.format.order x y == some .lt) = decide (valW x < valW y) := by
  rw [order_fin x y hx hy]
  by_cases h : valW x < valW y
  · simp [Int.compare_eq_lt.2 h, h]
  · have : compare (valW x) (valW y) ≠ .lt := fun e => h (Int.compare_eq_lt.1 e)
    simp [this, h]
theorem gt_fin {x y : Nat} (hx : finW x = true) (hy : finW y = true) : (FloatKind.f64.format.order x y == some .gt) = decide (valW y < valW x) := by
  rw [order_fin x y hx hy]
  by_cases h : valW y < valW x
  · simp [Int.compare_eq_gt.2 h, h]
  · have : compare (valW x) (valW y) ≠ .gt := fun e => h (Int.compare_eq_gt.1 e)
    simp [this, h]
theorem le_fin {x y : Nat} (hx : finW x = true) (hy : finW y = true) : (FloatKind.f64.format.order x y == some .lt || FloatKind.f64.format.order x y == some .eq) = decide (valW x ≤ valW y) := by
  rw [lt_fin hx hy, eq_fin hx hy, ← Bool.decide_or]
  exact decide_eq_decide.2 (by omega)
theorem ge_fin {x y : Nat} (hx : finW x = true) (hy : finW y = true) : (FloatKind.f64.format.order x y == some .gt || FloatKind.f64.format.order x y == some .eq) = decide (valW y ≤ valW x) := by
  rw [gt_fin hx hy, eq_fin hx hy, ← Bool.decide_or]
  exact decide_eq_decide.2 (by omega)

theorem val_const {x : Nat} {s : Bool} {m : Nat} (i : Nat) (h : FloatKind.f64.format.read x = .number s m i) : finW x = true ∧ valW x = sg s * ((m * 2 ^ i : Nat) : Int) * T := by
  unfold finW valW
  rw [h]
  refine ⟨rfl, ?_⟩
  have e : ((i : Int) + 1074).toNat = i + E := by rw [E_def]; omega
  rw [valD_num, e, Nat.pow_add, ← Nat.mul_assoc, Int.natCast_mul, T_def, Int.mul_assoc]

theorem val_most : finW 4845873199050653695 = true ∧ valW 4845873199050653695 = 9007199254740991 * T := val_const (s := false) (m := 9007199254740991) 0 (by decide +kernel)
theorem val_least : finW 14069245235905429503 = true ∧ valW 14069245235905429503 = -9007199254740991 * T := val_const (s := true) (m := 9007199254740991) 0 (by decide +kernel)
theorem val_over : finW 4845873199050653696 = true ∧ valW 4845873199050653696 = 9007199254740992 * T := val_const (s := false) (m := 4503599627370496) 1 (by decide +kernel)
theorem val_under : finW 14069245235905429504 = true ∧ valW 14069245235905429504 = -9007199254740992 * T := val_const (s := true) (m := 4503599627370496) 1 (by decide +kernel)
theorem val_null : finW 0 = true ∧ valW 0 = 0 := by
  have h : FloatKind.f64.format.read 0 = .number false 0 (-1074) := by decide +kernel
  unfold finW valW
  rw [h]
  exact ⟨rfl, by simp [valD]⟩

theorem val_abs (x : Nat) : finW (absW x) = finW x ∧ valW (absW x) = (valW x).natAbs := by
  unfold finW valW
  rw [read_abs]
  cases FloatKind.f64.format.read x with
  | nan s t => exact ⟨rfl, rfl⟩
  | infinity s => exact ⟨rfl, rfl⟩
  | number s m i =>
    refine ⟨rfl, ?_⟩
    have hs : (sg s).natAbs = 1 := by cases s <;> rfl
    simp only [valD_num]
    rw [Int.natAbs_mul, Int.natAbs_natCast, hs, Nat.one_mul]
    show (1 : Int) * _ = _
    rw [Int.one_mul]

/-- The word of an integer. -/
theorem int_word (n : Int) (h : n.natAbs ≤ 9007199254740992) : finW (floatOfInt .f64 n) = true ∧ valW (floatOfInt .f64 n) = n * T := by
  have key : ∃ k d : Nat, n.natAbs = k * 2 ^ d ∧ k < 9007199254740992 ∧ d ≤ 53 := by
    by_cases h1 : n.natAbs < 9007199254740992
    · exact ⟨_, 0, by simp, h1, by omega⟩
    · exact ⟨1, 53, by omega, by omega, by omega⟩
  obtain ⟨k, d, hk, hk', hd⟩ := key
  have hn := nearest_val (n < 0) n.natAbs 0 k d (by omega) hk hk' (by omega)
  rw [pow_zero_1074] at hn
  refine ⟨hn.1, hn.2.trans ?_⟩
  rw [Int.natCast_mul, ← Int.mul_assoc]
  congr 1
  by_cases h1 : n < 0
  · simp [h1, sg]; omega
  · simp [h1, sg]; omega

theorem scaled_eq {a q : Int} {base : Int} (hb : base ≤ 0) (hb' : -1074 ≤ base) (h : a * ((2 ^ (base + 1074).toNat : Nat) : Int) = q * T) : a = q * ((2 ^ (-base).toNat : Nat) : Int) := by
  have e : E = (-base).toNat + (base + 1074).toNat := by rw [E_def]; omega
  have e3 : T = 2 ^ (-base).toNat * 2 ^ (base + 1074).toNat := by rw [T_def, ← Nat.pow_add, ← e]
  rw [e3, Int.natCast_mul, ← Int.mul_assoc] at h
  have hp : 0 < 2 ^ (base + 1074).toNat := Nat.two_pow_pos _
  exact Int.eq_of_mul_eq_mul_right (by omega) h

theorem add_one (x : Nat) (q : Int) (h : finW x = true) (hq : valW x = q * T) (hb : q.natAbs < 9007199254740992) :
    ∃ r, floatBits .add .f64 x 4607182418800017408 = some r ∧ finW r = true ∧ valW r = (q + 1) * T := by
  obtain ⟨s, m, i, hr, hm, hi, hi'⟩ := fin_read h
  have h1 : FloatKind.f64.format.read 4607182418800017408 = .number false 4503599627370496 (-52) := by decide +kernel
  have hv1 : valD (.number false 4503599627370496 (-52)) = T := by
    rw [valD_num]
    have e : E = 52 + ((-52 : Int) + 1074).toNat := by rw [E_def]; rfl
    rw [T_def, e, Nat.pow_add]
    generalize ((-52 : Int) + 1074).toNat = g
    have e2 : (2 : Nat) ^ 52 = 4503599627370496 := rfl
    rw [e2]
    show (1 : Int) * _ = _
    rw [Int.one_mul]
  have hvx : valD (.number s m i) = q * T := by rw [← hr]; exact hq
  have hsum : (Ieee.signed s m (i - min i (-52)).toNat + Ieee.signed false 4503599627370496 (-52 - min i (-52)).toNat) * ((2 ^ (min i (-52) + 1074).toNat : Nat) : Int) = (q + 1) * T := by
    rw [Int.add_mul, scale_val _ _ _ _ (by omega) (by omega), scale_val _ _ _ _ (by omega) (by omega), hvx, hv1, Int.add_mul, Int.one_mul]
  have htot := scaled_eq (by omega) (by omega) hsum
  have key : ∃ k d : Nat, (Ieee.signed s m (i - min i (-52)).toNat + Ieee.signed false 4503599627370496 (-52 - min i (-52)).toNat).natAbs = k * 2 ^ d ∧ k < 9007199254740992 ∧ d + min i (-52) ≤ 53 := by
    rw [htot, Int.natAbs_mul, Int.natAbs_natCast]
    by_cases h2 : (q + 1).natAbs < 9007199254740992
    · exact ⟨_, _, rfl, h2, by omega⟩
    · refine ⟨1, 53 + (-min i (-52)).toNat, ?_, by omega, by omega⟩
      have h3 : (q + 1).natAbs = 9007199254740992 := by omega
      rw [h3, Nat.pow_add, Nat.one_mul]
  obtain ⟨k, d, hk, hk', hd⟩ := key
  obtain ⟨r, e1, e2, e3⟩ := sum_val s false m 4503599627370496 i (-52) k d hi (by omega) hk hk' (by omega)
  refine ⟨r, ?_, e2, by rw [e3, hvx, hv1, Int.add_mul, Int.one_mul]⟩
  show FloatKind.f64.format.add x 4607182418800017408 = some r
  unfold Format.add
  rw [hr, h1]
  exact e1

/-- What is left over the whole part. -/
theorem sub_trunc (x : Nat) (h : finW x = true) : ∃ r, floatBits .sub .f64 x (truncW x) = some r ∧ finW r = true ∧ (valW r = 0 ↔ ∃ z : Int, valW x = z * T) := by
  obtain ⟨q, ht, htv, _, hz, _⟩ := trunc_fin x h
  obtain ⟨s, m, i, M, c, R, hr, hm, hi, hi', hv, hM, hR, hc, hz', _, _, ⟨k, hk, hk'⟩⟩ := parts x h
  obtain ⟨t, n, j, hr', hn, hj, hj'⟩ := fin_read ht
  have hvx : valD (.number s m i) = valW x := by rw [← hr]; rfl
  have hvt : valD (.number (!t) n j) = -(q * T) := by
    have : valD (.number t n j) = q * T := by rw [← hr']; exact htv
    rw [← this, valD_num, valD_num]
    cases t <;> simp [sg]
  have hq : valW x - q * T = sg s * R := by
    obtain ⟨q', _, htv', h3, _⟩ := trunc_fin x h
    have e : q = sg s * c := by
      have h4 : (FloatKind.f64.decode x).toInt .zero = some (sg s * (c : Int)) := by
        unfold Datum.toInt
        have e1 : (FloatKind.f64.decode x).integral .zero = .number s c 0 := by
          show (FloatKind.f64.format.read x).integral .zero = _
          rw [hr]
          show Datum.number s (Toward.zero.cut s (m <<< i.toNat) (-i).toNat) 0 = _
          rw [cut_zero, hc]
        rw [e1]
        show some (Ieee.signed s c 0) = _
        rw [signed_eq, Nat.pow_zero, Nat.mul_one]
      rw [h4] at h3
      have h5 : sg s * (c : Int) = q' := by simpa using h3
      have h6 : q * T = q' * T := by rw [← htv, ← htv']
      have hT := T_pos
      rw [h5]
      exact Int.eq_of_mul_eq_mul_right (by omega) h6
    rw [e, hv, hM, Int.natCast_add, Int.natCast_mul, Int.mul_add, Int.mul_assoc]
    omega
  have hsum : (Ieee.signed s m (i - min i j).toNat + Ieee.signed (!t) n (j - min i j).toNat) * ((2 ^ (min i j + 1074).toNat : Nat) : Int) = sg s * R := by
    rw [Int.add_mul, scale_val _ _ _ _ (by omega) (by omega), scale_val _ _ _ _ (by omega) (by omega), hvx, hvt, ← hq]
    omega
  have htot : (Ieee.signed s m (i - min i j).toNat + Ieee.signed (!t) n (j - min i j).toNat).natAbs = k * 2 ^ (i - min i j).toNat := by
    have h1 := congrArg Int.natAbs hsum
    have hs : (sg s).natAbs = 1 := by cases s <;> rfl
    rw [Int.natAbs_mul, Int.natAbs_mul, Int.natAbs_natCast, Int.natAbs_natCast, hs, Nat.one_mul, hk] at h1
    have e : (i + 1074).toNat = (i - min i j).toNat + (min i j + 1074).toNat := by omega
    rw [e, Nat.pow_add, ← Nat.mul_assoc] at h1
    exact Nat.eq_of_mul_eq_mul_right (Nat.two_pow_pos _) h1
  obtain ⟨r, e1, e2, e3⟩ := sum_val s (!t) m n i j k (i - min i j).toNat hi hj htot hk' (by omega)
  refine ⟨r, ?_, e2, ?_⟩
  · show FloatKind.f64.format.sub x (truncW x) = some r
    unfold Format.sub
    rw [hr, hr']
    exact e1
  · rw [e3, hvx, hvt]
    constructor
    · intro h0; exact ⟨q, by omega⟩
    · rintro ⟨z, h0⟩
      have h1 := hz z h0
      subst h1
      omega

theorem and_sign (y : Nat) : ∃ b : Bool, bits .and .u64 (y : Int) 9223372036854775808 = (if b then 9223372036854775808 else 0 : Int) := by
  have h0 : BitVec.ofInt 64 (y : Int) = BitVec.ofInt 64 ((y % 18446744073709551616 : Nat) : Int) := by
    rw [BitVec.ofInt_natCast, BitVec.ofInt_natCast]
    apply BitVec.eq_of_toNat_eq
    simp
  have h1 : bits .and .u64 (y : Int) 9223372036854775808 = bits .and .u64 ((y % 18446744073709551616 : Nat) : Int) ((9223372036854775808 : Nat) : Int) := by
    show IntKind.u64.wrap ((BitVec.ofInt 64 (y : Int) &&& BitVec.ofInt 64 9223372036854775808).toNat : Int) = IntKind.u64.wrap ((BitVec.ofInt 64 _ &&& BitVec.ofInt 64 _).toNat : Int)
    rw [h0]
    rfl
  rw [h1, u64_and_nat _ _ (by omega) (by omega)]
  refine ⟨(y % 18446744073709551616).testBit 63, ?_⟩
  generalize y % 18446744073709551616 = Y
  have h2 : Y &&& 2 ^ 63 = if Y.testBit 63 then 2 ^ 63 else 0 := by
    apply Nat.eq_of_testBit_eq
    intro j
    rw [Nat.testBit_and, Nat.testBit_two_pow]
    by_cases h : 63 = j
    · subst h
      cases hb : Y.testBit 63
      · rfl
      · show _ = Nat.testBit (2 ^ 63) 63
        rw [Nat.testBit_two_pow]
        rfl
    · cases hb : Y.testBit 63
      · show _ = Nat.testBit 0 j
        simp [h]
      · show _ = Nat.testBit (2 ^ 63) j
        rw [Nat.testBit_two_pow]
        simp [h]
  have h3 : (2 : Nat) ^ 63 = 9223372036854775808 := rfl
  rw [h3] at h2
  rw [h2]
  cases Y.testBit 63 <;> rfl
theorem copysign_word (x y : Nat) : ∃ z : Nat, bits .or .u64 (bits .andNot .u64 (x : Int) 9223372036854775808) (bits .and .u64 (y : Int) 9223372036854775808) = (z : Int) ∧ absW z = absW x := by
  obtain ⟨b, hb⟩ := and_sign y
  rw [hb, andNot_abs]
  have hlt : absW x < 9223372036854775808 := Nat.mod_lt _ (by omega)
  cases b
  · refine ⟨absW x, ?_, ?_⟩
    · have := u64_or_nat (absW x) 0 (by omega) (by omega)
      simpa using this
    · unfold absW at hlt ⊢
      omega
  · refine ⟨absW x + 9223372036854775808, ?_, ?_⟩
    · have h1 := u64_or_nat (absW x) 9223372036854775808 (by omega) (by omega)
      have h2 : absW x ||| 9223372036854775808 = absW x + 9223372036854775808 := by
        have h3 := Nat.two_pow_add_eq_or_of_lt (i := 63) (b := absW x) hlt 1
        have h4 : (2 : Nat) ^ 63 * 1 = 9223372036854775808 := rfl
        rw [h4] at h3
        rw [Nat.or_comm, ← h3, Nat.add_comm]
      rw [h2] at h1
      exact h1
    · unfold absW at hlt ⊢
      omega
theorem same_abs {x z : Nat} (h : absW z = absW x) : finW z = finW x ∧ (valW z = 0 ↔ valW x = 0) := by
  have h1 := val_abs x
  have h2 := val_abs z
  rw [h] at h2
  refine ⟨by rw [← h1.1, ← h2.1], ?_⟩
  have h3 : (valW z).natAbs = (valW x).natAbs := by
    have := h2.2.symm.trans h1.2
    omega
  omega
end Go.Proofs.Ytpehjcbjcenaeaa
