/- spec.point: the code point at a place, as the model's decoder reads it. -/
import Derived.Test.YtkjmbnfchiippaaFlat
import Derived.Test.YtkjmbnfchiippaaUtfRunes
namespace Go.Proofs.Ytkjmbnfchiippaa
open Go.RowKit

theorem get_eq (s : ByteArray) (i : Nat) (h : i < s.size) : s[i] = s.get! i := by
  have hd : i < s.data.size := h
  show s.data[i] = s.data[i]!
  rw [getElem!_pos s.data i hd]
theorem at_eq {s : ByteArray} {i : Nat} {c : UInt8} {h : i < s.size} (hc : s[i] = c) : (s.get! i).toNat = c.toNat := by rw [← get_eq s i h, hc]

theorem decode_1 {s : ByteArray} {i c : Nat} (h0 : (s.get! i).toNat = c) (h : c < 128) : Utf8.decode s i = (c, 1) := by
  unfold Utf8.decode
  simp only [Nat.add_zero, h0]
  rw [if_pos h]
theorem decode_2 {s : ByteArray} {i c d r : Nat} (hi : i + 1 < s.size) (h0 : (s.get! i).toNat = c) (h1 : (s.get! (i + 1)).toNat = d) (hc1 : 192 ≤ c) (hc2 : c < 224) (hd1 : 128 ≤ d) (hd2 : d < 192)
    (hr : r = (c - 192) * 64 + (d - 128)) (hr1 : 128 ≤ r) : Utf8.decode s i = (r, 2) := by
  unfold Utf8.decode
  simp only [Nat.add_zero, h0, h1]
  have e0 : ¬ c < 128 := by omega
  have e1 : c / 32 = 6 := by omega
  have e2 : d / 64 = 2 := by omega
  have e3 : c % 32 * 64 + d % 64 = r := by omega
  simp [e0, e1, e2, e3, hi, hr1]
theorem decode_3 {s : ByteArray} {i c d e r : Nat} (hi : i + 2 < s.size) (h0 : (s.get! i).toNat = c) (h1 : (s.get! (i + 1)).toNat = d) (h2 : (s.get! (i + 2)).toNat = e) (hc1 : 224 ≤ c) (hc2 : c < 240) (hd1 : 128 ≤ d) (hd2 : d < 192) (he1 : 128 ≤ e) (he2 : e < 192)
    (hr : r = (c - 224) * 4096 + (d - 128) * 64 + (e - 128)) (hr1 : 2048 ≤ r) (hv : r < 55296 ∨ 57344 ≤ r) : Utf8.decode s i = (r, 3) := by
  unfold Utf8.decode
  simp only [Nat.add_zero, h0, h1, h2]
  have e0 : ¬ c < 128 := by omega
  have e1 : ¬ c / 32 = 6 := by omega
  have e1' : c / 16 = 14 := by omega
  have e2 : d / 64 = 2 := by omega
  have e2' : e / 64 = 2 := by omega
  have e3 : c % 16 * 4096 + d % 64 * 64 + e % 64 = r := by omega
  have hi1 : i + 1 < s.size := by omega
  have hval : Utf8.valid (r : Int) = true := by simp [Utf8.valid]; omega
  simp only [e3]
  simp [e0, e1, e1', e2, e2', hi, hi1, hr1, hval]
theorem decode_4 {s : ByteArray} {i c d e f r : Nat} (hi : i + 3 < s.size) (h0 : (s.get! i).toNat = c) (h1 : (s.get! (i + 1)).toNat = d) (h2 : (s.get! (i + 2)).toNat = e) (h3 : (s.get! (i + 3)).toNat = f) (hc1 : 240 ≤ c) (hc2 : c < 248) (hd1 : 128 ≤ d) (hd2 : d < 192) (he1 : 128 ≤ e) (he2 : e < 192) (hf1 : 128 ≤ f) (hf2 : f < 192)
    (hr : r = (c - 240) * 262144 + (d - 128) * 4096 + (e - 128) * 64 + (f - 128)) (hr1 : 65536 ≤ r) (hv : r ≤ 1114111) : Utf8.decode s i = (r, 4) := by
  unfold Utf8.decode
  simp only [Nat.add_zero, h0, h1, h2, h3]
  have e0 : ¬ c < 128 := by omega
  have e1 : ¬ c / 32 = 6 := by omega
  have e1' : ¬ c / 16 = 14 := by omega
  have e1'' : c / 8 = 30 := by omega
  have e2 : d / 64 = 2 := by omega
  have e2' : e / 64 = 2 := by omega
  have e2'' : f / 64 = 2 := by omega
  have e3 : c % 8 * 262144 + d % 64 * 4096 + e % 64 * 64 + f % 64 = r := by omega
  have hi1 : i + 1 < s.size := by omega
  have hi2 : i + 2 < s.size := by omega
  have hval : Utf8.valid (r : Int) = true := by simp [Utf8.valid]; omega
  simp only [e3]
  simp [e0, e1, e1', e1'', e2, e2', e2'', hi, hi1, hi2, hr1, hval]

/-- What point hands back: 0 bytes, or the code point that the model's decoder reads there. -/
def PointOk (s : ByteArray) (i : Nat) (w : World) (e : Ending) (w' : World) : Prop :=
  ∃ (r : Int) (n : Nat), e = .returned (.tuple #[.int .i64 r, .int .i64 n]) ∧ (n = 0 ∨ (∃ k : Nat, r = k ∧ Utf8.decode s i = (k, n) ∧ Utf8.valid r = true) ∧ 0 < n ∧ n ≤ 4 ∧ i + n ≤ s.size ∧ (n = 1 → r < 128)) ∧ w = w'

theorem wrap_byte (c : UInt8) : wrap64 (c.toNat : Int) = c.toNat := by have := c.toNat_lt; simp [wrap64]; omega

set_option maxRecDepth 100000 in
theorem point_ascii (s : ByteArray) (i : Nat) (w : World) (hi : i < s.size) (c : UInt8) (hc : s[i] = c) (h1 : c.toNat < 128) :
    Calls Try.prog 19 #[.string s, .int .i64 i] w (PointOk s i w) := by
  have hi' : (i : Int) < s.size := by omega
  have hw := wrap_byte c
  have HK := Lib.hid (decode_1 (at_eq hc) h1)
  go_enter Try.func19, Try.ntmps19
  go_wp2
  go_ret2
  exact ⟨_, 1, rfl, .inr ⟨⟨_, rfl, HK.out, by simp [Utf8.valid]; omega⟩, by omega, by omega, by omega, by omega⟩, rfl⟩
set_option maxRecDepth 100000 in
theorem point_bad (s : ByteArray) (i : Nat) (w : World) (hi : i < s.size) (c : UInt8) (hc : s[i] = c) (h1 : 128 ≤ c.toNat) (h2 : c.toNat < 192 ∨ 248 ≤ c.toNat) :
    Calls Try.prog 19 #[.string s, .int .i64 i] w (PointOk s i w) := by
  have hi' : (i : Int) < s.size := by omega
  have hw := wrap_byte c
  rcases h2 with h2 | h2
  all_goals
    go_enter Try.func19, Try.ntmps19
    go_wp2
    go_ret2
    exact ⟨_, 0, rfl, .inl rfl, rfl⟩
set_option maxRecDepth 100000 in
theorem point_short (s : ByteArray) (i : Nat) (w : World) (hi : i < s.size) (c : UInt8) (hc : s[i] = c) (h : (192 ≤ c.toNat ∧ c.toNat < 224 ∧ s.size < i + 2) ∨ (224 ≤ c.toNat ∧ c.toNat < 240 ∧ s.size < i + 3) ∨ (240 ≤ c.toNat ∧ c.toNat < 248 ∧ s.size < i + 4)) :
    Calls Try.prog 19 #[.string s, .int .i64 i] w (PointOk s i w) := by
  have hi' : (i : Int) < s.size := by omega
  have hw := wrap_byte c
  rcases h with ⟨h1, h2, h3⟩ | ⟨h1, h2, h3⟩ | ⟨h1, h2, h3⟩
  · have hsh : (s.size : Int) - i < 2 := by omega
    go_enter Try.func19, Try.ntmps19
    go_wp2
    go_ret2
    exact ⟨_, 0, rfl, .inl rfl, rfl⟩
  · have hsh : (s.size : Int) - i < 3 := by omega
    go_enter Try.func19, Try.ntmps19
    go_wp2
    go_ret2
    exact ⟨_, 0, rfl, .inl rfl, rfl⟩
  · have hsh : (s.size : Int) - i < 4 := by omega
    go_enter Try.func19, Try.ntmps19
    go_wp2
    go_ret2
    exact ⟨_, 0, rfl, .inl rfl, rfl⟩

set_option maxRecDepth 100000 in
set_option maxHeartbeats 1000000 in
theorem point_two (s : ByteArray) (i : Nat) (w : World) (hs : s.size ≤ 2000) (hi : i + 1 < s.size) (c d : UInt8) (hc : s[i] = c) (hd : s[i + 1] = d) (h1 : 192 ≤ c.toNat) (h2 : c.toNat < 224) :
    Calls Try.prog 19 #[.string s, .int .i64 i] w (PointOk s i w) := by
  have hi' : (i : Int) + 1 < s.size := by omega
  have hw := wrap_byte c
  have hw2 := wrap_byte d
  have hsh : (2 : Int) ≤ s.size - i := by omega
  have H0 := Lib.hid (at_eq hc)
  have H1 := Lib.hid (at_eq hd)
  go_enter Try.func19, Try.ntmps19
  go_wp2
  refine wp_loop_rounds 2 ?_
  rw [rounds_succ]
  go_wp2
  all_goals first | (rw [rounds_succ]; go_wp2) | skip
  all_goals go_ret2
  all_goals first
    | exact ⟨_, 0, rfl, .inl rfl, rfl⟩
    | exact ⟨_, 2, rfl, .inr ⟨⟨((c.toNat - 192) * 64 + (d.toNat - 128) : Nat), by omega, decode_2 hi H0.out H1.out h1 h2 (by omega) (by omega) rfl (by omega), by simp [Utf8.valid]; omega⟩, by omega, by omega, by omega, by omega⟩, rfl⟩
end Go.Proofs.Ytkjmbnfchiippaa
