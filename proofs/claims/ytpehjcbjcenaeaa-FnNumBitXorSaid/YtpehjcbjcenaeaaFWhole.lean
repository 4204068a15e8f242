/- Plain facts: the whole part of a float64 word, the greatest integer below it, exact sums, words of integers. No program. -/
import Derived.Test.YtpehjcbjcenaeaaFInt
namespace Go.Proofs.Ytpehjcbjcenaeaa
open Ieee

/-- A finite word: its size is m * 2^e; its whole size and its rest. -/
theorem parts (x : Nat) (h : finW x = true) : ∃ (s : Bool) (m : Nat) (i : Int) (M c R : Nat), FloatKind.f64.format.read x = .number s m i ∧ m < 9007199254740992 ∧ -1074 ≤ i ∧ i ≤ 971 ∧
    valW x = sg s * (M : Int) ∧ M = c * T + R ∧ R < T ∧
    (m <<< i.toNat) / 2 ^ (-i).toNat = c ∧ ((m <<< i.toNat) % 2 ^ (-i).toNat = 0 ↔ R = 0) ∧
    (∃ k d, c = k * 2 ^ d ∧ k < 9007199254740992 ∧ d ≤ 971) ∧ (0 < R → c < 4503599627370496) ∧ (∃ k, R = k * 2 ^ (i + 1074).toNat ∧ k < 9007199254740992) := by
  obtain ⟨s, m, i, hr, hm, hi, hi'⟩ := fin_read h
  have hE := E_def
  have hT := T_pos
  refine ⟨s, m, i, m * 2 ^ (i + 1074).toNat, (m * 2 ^ (i + 1074).toNat) / T, (m * 2 ^ (i + 1074).toNat) % T, hr, hm, hi, hi', ?_, ?_, Nat.mod_lt _ hT, ?_⟩
  · unfold valW; rw [hr, valD_num]
  · rw [Nat.mul_comm (_ / _)]; exact (Nat.div_add_mod _ _).symm
  by_cases hn : 0 ≤ i
  · have e1 : (-i).toNat = 0 := by omega
    have e2 : (i + 1074).toNat = i.toNat + E := by omega
    have e3 : m * 2 ^ (i + 1074).toNat = m * 2 ^ i.toNat * T := by rw [e2, Nat.pow_add, ← Nat.mul_assoc, T_def]
    rw [e3, Nat.mul_div_cancel _ hT, Nat.mul_mod_left, e1]
    simp only [Nat.shiftLeft_eq, Nat.pow_zero, Nat.div_one, Nat.mod_one]
    exact ⟨trivial, trivial, ⟨m, i.toNat, rfl, hm, by omega⟩, by omega, ⟨0, by simp, by omega⟩⟩
  · have e1 : i.toNat = 0 := by omega
    have e2 : E = (-i).toNat + (i + 1074).toNat := by omega
    have e3 : T = 2 ^ (-i).toNat * 2 ^ (i + 1074).toNat := by rw [T_def, ← Nat.pow_add, ← e2]
    have hp : 0 < 2 ^ (i + 1074).toNat := Nat.two_pow_pos _
    rw [e3, Nat.mul_div_mul_right _ _ hp, Nat.mul_mod_mul_right, e1, Nat.shiftLeft_zero]
    have h1 : m / 2 ^ (-i).toNat ≤ m := Nat.div_le_self _ _
    have h2 : m % 2 ^ (-i).toNat ≤ m := Nat.mod_le _ _
    refine ⟨rfl, ?_, ⟨_, 0, (Nat.mul_one _).symm, by omega, by omega⟩, fun _ => ?_, ⟨_, rfl, by omega⟩⟩
    · constructor
      · intro h; rw [h, Nat.zero_mul]
      · intro h
        rcases Nat.mul_eq_zero.1 h with h | h
        · exact h
        · omega
    · have h3 : 2 ^ 1 ≤ 2 ^ (-i).toNat := Nat.pow_le_pow_right (by omega) (by omega)
      rw [Nat.div_lt_iff_lt_mul (by omega)]
      omega

def truncW (x : Nat) : Nat := FloatKind.f64.encode ((FloatKind.f64.decode x).integral .zero)
def floorW (x : Nat) : Nat := FloatKind.f64.encode ((FloatKind.f64.decode x).integral .down)

theorem pow_zero_1074 : 2 ^ ((0 : Int) + 1074).toNat = T := by
  rw [T_def]
  have : ((0 : Int) + 1074).toNat = E := by rw [E_def]; rfl
  rw [this]

/-- The whole part. -/
theorem trunc_fin (x : Nat) (h : finW x = true) : ∃ q : Int, finW (truncW x) = true ∧ valW (truncW x) = q * T ∧ (FloatKind.f64.decode x).toInt .zero = some q ∧
    (∀ z : Int, valW x = z * T → q = z) ∧ (∀ b : Nat, -(b * T) < valW x → valW x < b * T → -(b : Int) < q ∧ q < b) := by
  obtain ⟨s, m, i, M, c, R, hr, hm, hi, hi', hv, hM, hR, hc, hz, ⟨k, d, hk, hk', hd⟩, _, _⟩ := parts x h
  have hT := T_pos
  have e1 : (FloatKind.f64.decode x).integral .zero = .number s c 0 := by
    show (FloatKind.f64.format.read x).integral .zero = _
    rw [hr]
    show Datum.number s (Toward.zero.cut s (m <<< i.toNat) (-i).toNat) 0 = _
    rw [cut_zero, hc]
  have hn := nearest_val s c 0 k d (by omega) hk hk' (by omega)
  rw [pow_zero_1074] at hn
  have e2 : truncW x = FloatKind.f64.format.nearest s c 0 := by unfold truncW; rw [e1]; rfl
  refine ⟨sg s * c, ?_, ?_, ?_, ?_, ?_⟩
  · rw [e2]; exact hn.1
  · rw [e2, hn.2, Int.natCast_mul, Int.mul_assoc]
  · unfold Datum.toInt
    rw [e1]
    show some (Ieee.signed s c 0) = _
    rw [signed_eq, Nat.pow_zero, Nat.mul_one]
  · intro z hz
    rw [hv] at hz
    have h1 : M = z.natAbs * T := by
      have := congrArg Int.natAbs hz
      rw [Int.natAbs_mul, Int.natAbs_mul] at this
      have hs : (sg s).natAbs = 1 := by cases s <;> rfl
      rw [hs] at this
      simpa using this
    have h2 : c = z.natAbs := by
      have a1 : M / T = c := by rw [hM, Nat.mul_comm, Nat.mul_add_div hT, Nat.div_eq_of_lt hR, Nat.add_zero]
      have a2 : M / T = z.natAbs := by rw [h1, Nat.mul_div_cancel _ hT]
      omega
    have h3 : c * T = M := by rw [h2, h1]
    have h4 : sg s * (c : Int) * T = z * T := by rw [← hz, Int.mul_assoc, ← Int.natCast_mul, h3]
    exact Int.eq_of_mul_eq_mul_right (by omega) h4
  · intro b h1 h2
    have h3 : c < b := by
      have a1 : M < b * T := by
        have : (M : Int) < ((b * T : Nat) : Int) := by
          rw [Int.natCast_mul]
          cases s <;> simp only [sg, hv] at h1 h2 ⊢ <;> simp at h1 h2 <;> omega
        omega
      have a2 : c * T ≤ M := by omega
      exact Nat.lt_of_mul_lt_mul_right (Nat.lt_of_le_of_lt a2 a1)
    cases s <;> simp only [sg] <;> simp <;> omega

/-- The greatest integer that is not greater. -/
theorem floor_fin (x : Nat) (h : finW x = true) : ∃ q : Int, finW (floorW x) = true ∧ valW (floorW x) = q * T ∧ q * T ≤ valW x ∧ valW x < (q + 1) * T := by
  obtain ⟨s, m, i, M, c, R, hr, hm, hi, hi', hv, hM, hR, hc, hz, ⟨k, d, hk, hk', hd⟩, hsmall, _⟩ := parts x h
  have hT := T_pos
  have e1 : (FloatKind.f64.decode x).integral .down = .number s (c + (s && (m <<< i.toNat) % 2 ^ (-i).toNat != 0).toNat) 0 := by
    show (FloatKind.f64.format.read x).integral .down = _
    rw [hr]
    show Datum.number s (Toward.down.cut s (m <<< i.toNat) (-i).toNat) 0 = _
    rw [cut_down, hc]
  have e2 : floorW x = FloatKind.f64.format.nearest s (c + (s && (m <<< i.toNat) % 2 ^ (-i).toNat != 0).toNat) 0 := by unfold floorW; rw [e1]; rfl
  by_cases hs : (s && (m <<< i.toNat) % 2 ^ (-i).toNat != 0) = true
  · obtain ⟨rfl, h1⟩ : s = true ∧ (m <<< i.toNat) % 2 ^ (-i).toNat ≠ 0 := by simpa using hs
    have h2 : 0 < R := by
      rcases Nat.eq_zero_or_pos R with h | h
      · exact absurd (hz.2 h) h1
      · exact h
    have h3 := hsmall h2
    rw [hs] at e2
    have hn := nearest_val true (c + 1) 0 (c + 1) 0 (by omega) (by omega) (by omega) (by omega)
    rw [pow_zero_1074] at hn
    refine ⟨-((c : Int) + 1), ?_, ?_, ?_, ?_⟩
    · rw [e2]; exact hn.1
    · rw [e2]
      show valW (FloatKind.f64.format.nearest true (c + 1) 0) = _
      rw [hn.2]
      simp [sg, Int.neg_mul]
    · rw [hv, hM]
      simp only [sg]
      rw [Int.neg_mul, Int.add_mul]
      simp
      omega
    · rw [hv, hM]
      simp only [sg]
      have : (-((c : Int) + 1) + 1) * T = -(c * T) := by
        rw [show -((c : Int) + 1) + 1 = -(c : Int) from by omega, Int.neg_mul]
      rw [this]
      simp
      omega
  · have hs' : (s && (m <<< i.toNat) % 2 ^ (-i).toNat != 0) = false := by simpa using hs
    rw [hs'] at e2
    have hn := nearest_val s c 0 k d (by omega) hk hk' (by omega)
    rw [pow_zero_1074] at hn
    refine ⟨sg s * c, ?_, ?_, ?_, ?_⟩
    · rw [e2]; exact hn.1
    · rw [e2]
      show valW (FloatKind.f64.format.nearest s c 0) = _
      rw [hn.2, Int.natCast_mul, Int.mul_assoc]
    · rw [hv, hM]
      cases s
      · simp [sg]
        omega
      · have h0 : R = 0 := hz.1 (by simpa using hs')
        simp [sg, h0, Int.neg_mul]
    · rw [hv, hM, Int.add_mul]
      cases s
      · simp [sg]
        omega
      · have h0 : R = 0 := hz.1 (by simpa using hs')
        simp [sg, h0, Int.neg_mul]
        omega

/-- A number of 2^52 or more is an integer. -/
theorem big_whole (x : Nat) (h : finW x = true) (hb : 4503599627370496 * (T : Int) ≤ valW x ∨ valW x ≤ -(4503599627370496 * (T : Int))) : ∃ z : Int, valW x = z * T := by
  obtain ⟨s, m, i, M, c, R, hr, hm, hi, hi', hv, hM, hR, hc, hz, ⟨k, d, hk, hk', hd⟩, hsmall, _⟩ := parts x h
  rcases Nat.eq_zero_or_pos R with h0 | h0
  · exact ⟨sg s * c, by rw [hv, hM, h0, Nat.add_zero, Int.natCast_mul, Int.mul_assoc]⟩
  · exfalso
    have h1 := hsmall h0
    have h2 : 4503599627370496 * (T : Int) ≤ (M : Int) := by
      rw [hv] at hb
      cases s <;> simp [sg] at hb <;> omega
    have h3 : 4503599627370496 * T ≤ M := by omega
    have h4 : M < (c + 1) * T := by rw [Nat.add_mul]; omega
    have h5 : (c + 1) * T ≤ 4503599627370496 * T := Nat.mul_le_mul_right _ (by omega)
    omega

/-- Sums that the format has. -/
theorem sum_val (s t : Bool) (m n : Nat) (i j : Int) (k d : Nat) (hi : -1074 ≤ i) (hj : -1074 ≤ j)
    (htot : (Ieee.signed s m (i - min i j).toNat + Ieee.signed t n (j - min i j).toNat).natAbs = k * 2 ^ d) (hk : k < 9007199254740992) (hd : d + min i j ≤ 971) :
    ∃ r, ((Datum.number s m i).sum (.number t n j)).map FloatKind.f64.format.write = some r ∧ finW r = true ∧ valW r = valD (.number s m i) + valD (.number t n j) := by
  refine ⟨_, rfl, ?_⟩
  show finW (FloatKind.f64.format.nearest _ _ _) = true ∧ valW (FloatKind.f64.format.nearest _ _ _) = _
  rw [← scale_val s m i (min i j) (by omega) (by omega), ← scale_val t n j (min i j) (by omega) (by omega), ← Int.add_mul]
  generalize Ieee.signed s m (i - min i j).toNat + Ieee.signed t n (j - min i j).toNat = total at *
  have hn := nearest_val (if total = 0 then s && t else total < 0) total.natAbs (min i j) k d (by omega) htot hk hd
  refine ⟨hn.1, ?_⟩
  rw [hn.2, Int.natCast_mul, ← Int.mul_assoc]
  congr 1
  by_cases h0 : total = 0
  · subst h0; simp
  · rw [if_neg h0]
    by_cases h1 : total < 0
    · simp [h1, sg]; omega
    · simp [h1, sg]; omega
end Go.Proofs.Ytpehjcbjcenaeaa
