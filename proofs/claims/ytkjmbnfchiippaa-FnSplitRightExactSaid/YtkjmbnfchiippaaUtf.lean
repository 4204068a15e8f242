/- Plain: what is decoded of the bytes of a rune is the rune. No program. -/
import Derived.Lib.ValidLaws
import Derived.Lib.RuneBytes
namespace Go.Proofs.Ytkjmbnfchiippaa

theorem toNat_u8 (n : Nat) (h : n < 256) : (n.toUInt8).toNat = n := by
  simp [Nat.toUInt8, h]

/-- A rune that stands for itself. -/
def GoodRune (r : Nat) : Prop := r < 55296 ∨ (57344 ≤ r ∧ r ≤ 1114111)

set_option maxHeartbeats 1000000 in
theorem decode_encode (r : Nat) (h : GoodRune r) (x : List UInt8) : Lib.decodeL (Lib.encodeRune (r : Int) ++ x) = (r, (Lib.encodeRune (r : Int)).length) := by
  unfold GoodRune at h
  have hc : r < 128 ∨ (128 ≤ r ∧ r < 2048) ∨ ((2048 ≤ r ∧ r < 55296) ∨ (57344 ≤ r ∧ r < 65536)) ∨ (65536 ≤ r ∧ r ≤ 1114111) := by omega
  rw [Lib.decodeL_N]
  rcases hc with hc | hc | hc | hc
  · have e : Lib.encodeRune (r : Int) = [r.toUInt8] := by
      unfold Lib.encodeRune; rw [Lib.encodeRuneZ_one (by omega) (by omega)]; simp
    rw [e]
    simp only [List.cons_append, List.nil_append, List.getD_cons_zero, List.length_cons, List.length_nil]
    rw [toNat_u8 r (by omega)]
    unfold Lib.decodeN
    rw [if_pos hc]
  · have e : Lib.encodeRune (r : Int) = [(192 + r / 64).toUInt8, (128 + r % 64).toUInt8] := by
      unfold Lib.encodeRune; rw [Lib.encodeRuneZ_two (by omega) (by omega)]
      simp only [List.map_cons, List.map_nil]
      rw [show (192 + (r : Int) / 64).toNat = 192 + r / 64 by omega, show (128 + (r : Int) % 64).toNat = 128 + r % 64 by omega]
    rw [e]
    simp only [List.cons_append, List.nil_append, List.getD_cons_zero, List.getD_cons_succ, List.length_cons, List.length_nil]
    rw [toNat_u8 _ (by omega), toNat_u8 _ (by omega)]
    unfold Lib.decodeN
    rw [if_neg (by omega), if_pos (by omega), if_pos (by omega)]
    refine Prod.ext ?_ rfl
    show _ = r
    omega
  · have e : Lib.encodeRune (r : Int) = [(224 + r / 4096).toUInt8, (128 + r / 64 % 64).toUInt8, (128 + r % 64).toUInt8] := by
      unfold Lib.encodeRune; rw [Lib.encodeRuneZ_three (by omega)]
      simp only [List.map_cons, List.map_nil]
      rw [show (224 + (r : Int) / 4096).toNat = 224 + r / 4096 by omega, show (128 + (r : Int) / 64 % 64).toNat = 128 + r / 64 % 64 by omega, show (128 + (r : Int) % 64).toNat = 128 + r % 64 by omega]
    rw [e]
    simp only [List.cons_append, List.nil_append, List.getD_cons_zero, List.getD_cons_succ, List.length_cons, List.length_nil]
    rw [toNat_u8 _ (by omega), toNat_u8 _ (by omega), toNat_u8 _ (by omega)]
    unfold Lib.decodeN
    rw [if_neg (by omega), if_neg (by omega), if_pos (by omega), if_pos (by omega)]
    refine Prod.ext ?_ rfl
    show _ = r
    omega
  · have e : Lib.encodeRune (r : Int) = [(240 + r / 262144).toUInt8, (128 + r / 4096 % 64).toUInt8, (128 + r / 64 % 64).toUInt8, (128 + r % 64).toUInt8] := by
      unfold Lib.encodeRune; rw [Lib.encodeRuneZ_four (by omega) (by omega)]
      simp only [List.map_cons, List.map_nil]
      rw [show (240 + (r : Int) / 262144).toNat = 240 + r / 262144 by omega, show (128 + (r : Int) / 4096 % 64).toNat = 128 + r / 4096 % 64 by omega, show (128 + (r : Int) / 64 % 64).toNat = 128 + r / 64 % 64 by omega, show (128 + (r : Int) % 64).toNat = 128 + r % 64 by omega]
    rw [e]
    simp only [List.cons_append, List.nil_append, List.getD_cons_zero, List.getD_cons_succ, List.length_cons, List.length_nil]
    rw [toNat_u8 _ (by omega), toNat_u8 _ (by omega), toNat_u8 _ (by omega), toNat_u8 _ (by omega)]
    unfold Lib.decodeN
    rw [if_neg (by omega), if_neg (by omega), if_neg (by omega), if_pos (by omega), if_pos (by omega)]
    refine Prod.ext ?_ rfl
    show _ = r
    omega

/-- What is decoded is a good rune. -/
theorem decode_good (l : List UInt8) : GoodRune (Lib.decodeL l).1 := by
  rw [Lib.decodeL_N]
  have hb : ∀ i : Nat, (l.getD i 0).toNat < 256 := fun i => (l.getD i 0).toNat_lt
  have h0 := hb 0
  have h1 := hb 1
  have h2 := hb 2
  have h3 := hb 3
  unfold Lib.decodeN GoodRune
  repeat' split
  all_goals simp only
  all_goals omega

theorem encode_head (r : Nat) (h : GoodRune r) : ∃ b t, Lib.encodeRune (r : Int) = b :: t ∧ (r < 128 → b.toNat = r) ∧ (128 ≤ r → 128 ≤ b.toNat) := by
  unfold GoodRune at h
  have hc : r < 128 ∨ (128 ≤ r ∧ r < 2048) ∨ ((2048 ≤ r ∧ r < 55296) ∨ (57344 ≤ r ∧ r < 65536)) ∨ (65536 ≤ r ∧ r ≤ 1114111) := by omega
  unfold Lib.encodeRune
  rcases hc with hc | hc | hc | hc
  · rw [Lib.encodeRuneZ_one (by omega) (by omega)]
    exact ⟨_, _, rfl, fun _ => by rw [toNat_u8 _ (by omega)]; omega, fun h => by omega⟩
  · rw [Lib.encodeRuneZ_two (by omega) (by omega)]
    exact ⟨_, _, rfl, fun h => by omega, fun _ => by rw [toNat_u8 _ (by omega)]; omega⟩
  · rw [Lib.encodeRuneZ_three (by omega)]
    exact ⟨_, _, rfl, fun h => by omega, fun _ => by rw [toNat_u8 _ (by omega)]; omega⟩
  · rw [Lib.encodeRuneZ_four (by omega) (by omega)]
    exact ⟨_, _, rfl, fun h => by omega, fun _ => by rw [toNat_u8 _ (by omega)]; omega⟩
end Go.Proofs.Ytkjmbnfchiippaa
