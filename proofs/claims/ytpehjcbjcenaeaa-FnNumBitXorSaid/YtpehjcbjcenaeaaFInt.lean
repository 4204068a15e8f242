/- Plain facts on float64 words and integers: the value of a word in units of 2^-1074, order by values, rounding that is exact, whole parts. No program. -/
import Derived.Test.YtpehjcbjcenaeaaF64
namespace Go.Proofs.Ytpehjcbjcenaeaa
open Ieee

/-- A sign; the unit. -/
def sg (s : Bool) : Int := if s then -1 else 1
def E : Nat := 1074
def T : Nat := 2 ^ E
theorem T_pos : 0 < T := Nat.two_pow_pos _
theorem T_def : T = 2 ^ E := rfl
theorem E_def : E = 1074 := rfl
attribute [irreducible] T E
theorem signed_eq (s : Bool) (m k : Nat) : Ieee.signed s m k = sg s * ((m * 2 ^ k : Nat) : Int) := by
  cases s <;> simp [Ieee.signed, sg, Nat.shiftLeft_eq]

/-- The size and the value of a finite word, in units of 2^-1074. -/
def valD : Datum → Int
  | .number s m i => sg s * ((m * 2 ^ (i + 1074).toNat : Nat) : Int)
  | _ => 0
theorem valD_num (s : Bool) (m : Nat) (i : Int) : valD (.number s m i) = sg s * ((m * 2 ^ (i + 1074).toNat : Nat) : Int) := rfl
def valW (x : Nat) : Int := valD (FloatKind.f64.format.read x)

theorem compare_scale (a b : Int) (c : Nat) (hc : 0 < c) : compare (a * c) (b * c) = compare a b := by
  have hc' : (0 : Int) < c := by omega
  have h1 : a * c < b * c ↔ a < b := Int.mul_lt_mul_right hc'
  have h2 : a * c = b * c ↔ a = b := ⟨Int.eq_of_mul_eq_mul_right (by omega), fun h => by rw [h]⟩
  show compareOfLessAndEq _ _ = compareOfLessAndEq _ _
  unfold compareOfLessAndEq
  simp only [h1, h2]

theorem scale_val (s : Bool) (m : Nat) (i base : Int) (h : base ≤ i) (hb : -1074 ≤ base) : Ieee.signed s m (i - base).toNat * ((2 ^ (base + 1074).toNat : Nat) : Int) = valD (.number s m i) := by
  rw [signed_eq, valD_num]
  have e : (i + 1074).toNat = (i - base).toNat + (base + 1074).toNat := by omega
  rw [e, Nat.pow_add, Int.mul_assoc, ← Int.natCast_mul, Nat.mul_assoc]

theorem fin_read {x : Nat} (h : finW x = true) : ∃ s m i, FloatKind.f64.format.read x = .number s m i ∧ m < 9007199254740992 ∧ -1074 ≤ i ∧ i ≤ 971 := by
  unfold finW at h
  cases hr : FloatKind.f64.format.read x with
  | number s m i => exact ⟨s, m, i, rfl, read_bd hr⟩
  | _ => rw [hr] at h; cases h

theorem order_fin (x y : Nat) (hx : finW x = true) (hy : finW y = true) : FloatKind.f64.format.order x y = some (compare (valW x) (valW y)) := by
  obtain ⟨s, m, i, hr, _, hi, _⟩ := fin_read hx
  obtain ⟨t, n, j, hr', _, hj, _⟩ := fin_read hy
  unfold Format.order valW
  rw [hr, hr']
  show some (compare (Ieee.signed s m (i - min i j).toNat) (Ieee.signed t n (j - min i j).toNat)) = _
  rw [← scale_val s m i (min i j) (by omega) (by omega), ← scale_val t n j (min i j) (by omega) (by omega), compare_scale _ _ _ (Nat.two_pow_pos _)]

theorem cut_exact (way : Toward) (s : Bool) (n drop : Nat) (hn : n ≠ 0) (h : 2 ^ drop ∣ n) : way.cut s n drop = n / 2 ^ drop := by
  have h1 : 2 ^ drop ≤ n := Nat.le_of_dvd (by omega) h
  have h2 : drop ≤ n.log2 := (Nat.le_log2 hn).2 h1
  have h3 : min drop (n.log2 + 2) = drop := by omega
  have h4 : n % 2 ^ drop = 0 := Nat.mod_eq_zero_of_dvd h
  have h5 : 0 < 2 ^ drop := Nat.two_pow_pos _
  have e : 1 <<< drop = 2 ^ drop := by rw [Nat.shiftLeft_eq, Nat.one_mul]
  unfold Toward.cut
  simp only [h3, e, h4]
  have h6 : (2 ^ drop == 0) = false := by simp
  cases way <;> simp [h6]

theorem cut_zero (s : Bool) (n drop : Nat) : Toward.zero.cut s n drop = n / 2 ^ drop := by
  unfold Toward.cut
  simp only [Nat.shiftLeft_eq, Nat.one_mul]
  show n / 2 ^ min drop (n.log2 + 2) + 0 = _
  by_cases h : drop ≤ n.log2 + 2
  · rw [Nat.min_eq_left h, Nat.add_zero]
  · have h1 : n < 2 ^ (n.log2 + 1) := Nat.lt_log2_self
    have h2 : 2 ^ (n.log2 + 1) ≤ 2 ^ (n.log2 + 2) := Nat.pow_le_pow_right (by omega) (by omega)
    have h3 : 2 ^ (n.log2 + 1) ≤ 2 ^ drop := Nat.pow_le_pow_right (by omega) (by omega)
    rw [Nat.min_eq_right (by omega), Nat.div_eq_of_lt (by omega), Nat.div_eq_of_lt (by omega)]
theorem cut_down (s : Bool) (n drop : Nat) : Toward.down.cut s n drop = n / 2 ^ drop + (s && n % 2 ^ drop != 0).toNat := by
  unfold Toward.cut
  simp only [Nat.shiftLeft_eq, Nat.one_mul]
  by_cases h : drop ≤ n.log2 + 2
  · rw [Nat.min_eq_left h]
  · have h1 : n < 2 ^ (n.log2 + 1) := Nat.lt_log2_self
    have h2 : 2 ^ (n.log2 + 1) ≤ 2 ^ (n.log2 + 2) := Nat.pow_le_pow_right (by omega) (by omega)
    have h3 : 2 ^ (n.log2 + 1) ≤ 2 ^ drop := Nat.pow_le_pow_right (by omega) (by omega)
    rw [Nat.min_eq_right (by omega), Nat.div_eq_of_lt (a := n) (b := 2 ^ (n.log2 + 2)) (by omega), Nat.div_eq_of_lt (a := n) (b := 2 ^ drop) (by omega), Nat.mod_eq_of_lt (a := n) (b := 2 ^ (n.log2 + 2)) (by omega), Nat.mod_eq_of_lt (a := n) (b := 2 ^ drop) (by omega)]

/-- The word of a rung, read. -/
theorem read_rung (s : Bool) (e kept : Nat) (hk : kept < 9007199254740992) (he : e ≤ 2045) (hn : e = 0 ∨ 4503599627370496 ≤ kept) :
    FloatKind.f64.format.read (FloatKind.f64.format.word s (min (e * 4503599627370496 + kept) 9218868437227405312)) = .number s kept (-1074 + (e : Int)) := by
  have h0 : min (e * 4503599627370496 + kept) 9218868437227405312 = e * 4503599627370496 + kept := by omega
  rw [h0, read_def]
  have hw : FloatKind.f64.format.word s (e * 4503599627370496 + kept) % 9223372036854775808 = e * 4503599627370496 + kept := by
    unfold Format.word
    rw [sw]
    split <;> omega
  have hs : (FloatKind.f64.format.word s (e * 4503599627370496 + kept) / 9223372036854775808 % 2 == 1) = s := by
    unfold Format.word
    rw [sw]
    cases s
    · have : (e * 4503599627370496 + kept) / 9223372036854775808 = 0 := by omega
      simp [this]
    · have : (9223372036854775808 + (e * 4503599627370496 + kept)) / 9223372036854775808 = 1 := by omega
      simp [this]
  rw [hw, hs]
  by_cases h1 : e * 4503599627370496 + kept < 4503599627370496
  · rw [if_pos h1]
    have e0 : e = 0 := by omega
    subst e0
    simp
  · rw [if_neg h1, if_pos (by omega)]
    rcases hn with rfl | hn
    · have a1 : (0 * 4503599627370496 + kept) / 4503599627370496 = 1 := by omega
      have a2 : 4503599627370496 + (0 * 4503599627370496 + kept) % 4503599627370496 = kept := by omega
      rw [a1, a2]
    · have a1 : (e * 4503599627370496 + kept) / 4503599627370496 - 1 = e := by omega
      have a2 : 4503599627370496 + (e * 4503599627370496 + kept) % 4503599627370496 = kept := by omega
      rw [a1, a2]

theorem fb : FloatKind.f64.format.fractionBits = 52 := rfl
/-- A number that the format has is written as what it is. -/
theorem nearest_val (s : Bool) (mag : Nat) (p : Int) (k d : Nat) (hp : -1074 ≤ p) (hm : mag = k * 2 ^ d) (hk : k < 9007199254740992) (hd : d + p ≤ 971) :
    finW (FloatKind.f64.format.nearest s mag p) = true ∧ valW (FloatKind.f64.format.nearest s mag p) = sg s * ((mag * 2 ^ (p + 1074).toNat : Nat) : Int) := by
  unfold Format.nearest
  by_cases h0 : mag = 0
  · rw [if_pos h0, h0]
    have hr : FloatKind.f64.format.read (FloatKind.f64.format.word s 0) = .number s 0 (-1074) := read_rung s 0 0 (by omega) (by omega) (.inl rfl)
    unfold finW valW
    rw [hr]
    simp [valD]
  · rw [if_neg h0, fb, lp, bi, ir]
    have hL1 : 2 ^ mag.log2 ≤ mag := Nat.log2_self_le h0
    have hL2 : mag < 2 ^ (mag.log2 + 1) := Nat.lt_log2_self
    have hLd : mag.log2 < 53 + d := by
      rw [Nat.log2_lt h0, hm, Nat.pow_add]
      exact Nat.mul_lt_mul_of_pos_right hk (Nat.two_pow_pos _)
    generalize hL : mag.log2 = L at *
    obtain ⟨q, hq⟩ : ∃ q : Nat, p = q - 1074 := ⟨(p + 1074).toNat, by omega⟩
    have hq' : (p + 1074).toNat = q := by omega
    have key : ∃ e kept : Nat, (max (p + (L : Int) - (52 : Nat)) (-1074) - (-1074)).toNat = e ∧ Toward.even.cut s (mag <<< (p - max (p + (L : Int) - (52 : Nat)) (-1074)).toNat) (max (p + (L : Int) - (52 : Nat)) (-1074) - p).toNat = kept ∧ kept < 9007199254740992 ∧ e ≤ 2045 ∧ (e = 0 ∨ 4503599627370496 ≤ kept) ∧ kept * 2 ^ e = mag * 2 ^ q := by
      by_cases hA : L + q ≤ 52
      · have hl : max (p + (L : Int) - (52 : Nat)) (-1074) = -1074 := by omega
        rw [hl]
        have e1 : (p - -1074).toNat = q := by omega
        have e2 : ((-1074 : Int) - p).toNat = 0 := by omega
        rw [e1, e2, cut_exact _ _ _ _ (by rw [Nat.shiftLeft_eq]; exact Nat.mul_ne_zero h0 (Nat.pos_iff_ne_zero.1 (Nat.two_pow_pos _))) (by simp)]
        refine ⟨0, mag * 2 ^ q, by omega, by simp [Nat.shiftLeft_eq], ?_, by omega, .inl rfl, by simp⟩
        have h1 : mag * 2 ^ q < 2 ^ (L + 1) * 2 ^ q := Nat.mul_lt_mul_of_pos_right hL2 (Nat.two_pow_pos _)
        rw [← Nat.pow_add] at h1
        have h2 : 2 ^ (L + 1 + q) ≤ 2 ^ 53 := Nat.pow_le_pow_right (by omega) (by omega)
        have h3 : (2 : Nat) ^ 53 = 9007199254740992 := rfl
        omega
      · have hl : max (p + (L : Int) - (52 : Nat)) (-1074) = p + L - 52 := by omega
        rw [hl]
        by_cases hB : L ≤ 52
        · have e1 : (p - (p + L - 52)).toNat = 52 - L := by omega
          have e2 : (p + L - 52 - p).toNat = 0 := by omega
          rw [e1, e2, cut_exact _ _ _ _ (by rw [Nat.shiftLeft_eq]; exact Nat.mul_ne_zero h0 (Nat.pos_iff_ne_zero.1 (Nat.two_pow_pos _))) (by simp)]
          refine ⟨q + L - 52, mag * 2 ^ (52 - L), by omega, by simp [Nat.shiftLeft_eq], ?_, by omega, .inr ?_, ?_⟩
          · have h1 : mag * 2 ^ (52 - L) < 2 ^ (L + 1) * 2 ^ (52 - L) := Nat.mul_lt_mul_of_pos_right hL2 (Nat.two_pow_pos _)
            rw [← Nat.pow_add, show L + 1 + (52 - L) = 53 from by omega] at h1
            exact h1
          · have h1 : 2 ^ L * 2 ^ (52 - L) ≤ mag * 2 ^ (52 - L) := Nat.mul_le_mul_right _ hL1
            rw [← Nat.pow_add, show L + (52 - L) = 52 from by omega] at h1
            exact h1
          · rw [Nat.mul_assoc, ← Nat.pow_add, show 52 - L + (q + L - 52) = q from by omega]
        · have e1 : (p - (p + L - 52)).toNat = 0 := by omega
          have e2 : (p + L - 52 - p).toNat = L - 52 := by omega
          have hdv : 2 ^ (L - 52) ∣ mag := by
            rw [hm]
            exact Nat.dvd_trans (Nat.pow_dvd_pow 2 (by omega : L - 52 ≤ d)) (Nat.dvd_mul_left _ _)
          rw [e1, e2, Nat.shiftLeft_zero, cut_exact _ _ _ _ h0 hdv]
          refine ⟨q + L - 52, mag / 2 ^ (L - 52), by omega, rfl, ?_, by omega, .inr ?_, ?_⟩
          · rw [Nat.div_lt_iff_lt_mul (Nat.two_pow_pos _), show 9007199254740992 = 2 ^ 53 from rfl, ← Nat.pow_add, show 53 + (L - 52) = L + 1 from by omega]
            exact hL2
          · rw [Nat.le_div_iff_mul_le (Nat.two_pow_pos _), show 4503599627370496 = 2 ^ 52 from rfl, ← Nat.pow_add, show 52 + (L - 52) = L from by omega]
            exact hL1
          · rw [show q + L - 52 = (L - 52) + q from by omega, Nat.pow_add, ← Nat.mul_assoc, Nat.div_mul_cancel hdv]
    obtain ⟨e, kept, he, hkept, h1, h2, h3, h4⟩ := key
    simp only [he, hkept]
    have hr := read_rung s e kept h1 h2 h3
    unfold finW valW
    rw [hr]
    refine ⟨rfl, ?_⟩
    rw [valD_num, hq', ← h4, show (-1074 + (e : Int) + 1074).toNat = e from by omega]
end Go.Proofs.Ytpehjcbjcenaeaa
