/- Plain: the code points of valid UTF-8, written out again, are the string. No program. -/
import Derived.Test.YtkjmbnfchiippaaUtf
import Derived.Test.YtkjmbnfchiippaaRunes
import Derived.Laws.Cover4
namespace Go.Proofs.Ytkjmbnfchiippaa

theorem u8_of (n : Nat) : UInt8.ofNat n = n.toUInt8 := rfl
theorem enc_valid (r : Nat) (h : GoodRune r) : Utf8.valid (r : Int) = true := by
    unfold GoodRune at h
    unfold Utf8.valid
    simp only [Bool.or_eq_true, Bool.and_eq_true, decide_eq_true_eq]
    omega
theorem enc1 (r : Nat) (hv : Utf8.valid (r : Int) = true) (hc : r < 128) : (Utf8.encode (r : Int)).data.toList = [r.toUInt8] := by
  unfold Utf8.encode
  simp only [hv, if_true, Int.toNat_natCast, u8_of, if_pos hc]
theorem enc2 (r : Nat) (hv : Utf8.valid (r : Int) = true) (hc : 128 ≤ r) (h2 : r < 2048) : (Utf8.encode (r : Int)).data.toList = [(192 + r / 64).toUInt8, (128 + r % 64).toUInt8] := by
  unfold Utf8.encode
  simp only [hv, if_true, Int.toNat_natCast, u8_of, if_neg (show ¬ r < 128 by omega), if_pos h2]
theorem enc3 (r : Nat) (hv : Utf8.valid (r : Int) = true) (hc : 2048 ≤ r) (h2 : r < 65536) : (Utf8.encode (r : Int)).data.toList = [(224 + r / 4096).toUInt8, (128 + r / 64 % 64).toUInt8, (128 + r % 64).toUInt8] := by
  unfold Utf8.encode
  simp only [hv, if_true, Int.toNat_natCast, u8_of, if_neg (show ¬ r < 128 by omega), if_neg (show ¬ r < 2048 by omega), if_pos h2]
theorem enc4 (r : Nat) (hv : Utf8.valid (r : Int) = true) (hc : 65536 ≤ r) : (Utf8.encode (r : Int)).data.toList = [(240 + r / 262144).toUInt8, (128 + r / 4096 % 64).toUInt8, (128 + r / 64 % 64).toUInt8, (128 + r % 64).toUInt8] := by
  unfold Utf8.encode
  simp only [hv, if_true, Int.toNat_natCast, u8_of, if_neg (show ¬ r < 128 by omega), if_neg (show ¬ r < 2048 by omega), if_neg (show ¬ r < 65536 by omega)]
theorem encode_eq (r : Nat) (h : GoodRune r) : (Utf8.encode (r : Int)).data.toList = Lib.encodeRune (r : Int) := by
  have hv := enc_valid r h
  unfold GoodRune at h
  have hc : r < 128 ∨ (128 ≤ r ∧ r < 2048) ∨ ((2048 ≤ r ∧ r < 55296) ∨ (57344 ≤ r ∧ r < 65536)) ∨ (65536 ≤ r ∧ r ≤ 1114111) := by omega
  unfold Lib.encodeRune
  rcases hc with hc | hc | hc | hc
  · rw [enc1 r hv hc, Lib.encodeRuneZ_one (by omega) (by omega)]
    simp only [List.map_cons, List.map_nil, Int.toNat_natCast]
  · rw [enc2 r hv hc.1 hc.2, Lib.encodeRuneZ_two (by omega) (by omega)]
    simp only [List.map_cons, List.map_nil]
    rw [show (192 + (r : Int) / 64).toNat = 192 + r / 64 by omega, show (128 + (r : Int) % 64).toNat = 128 + r % 64 by omega]
  · rw [enc3 r hv (by omega) (by omega), Lib.encodeRuneZ_three (by omega)]
    simp only [List.map_cons, List.map_nil]
    rw [show (224 + (r : Int) / 4096).toNat = 224 + r / 4096 by omega, show (128 + (r : Int) / 64 % 64).toNat = 128 + r / 64 % 64 by omega, show (128 + (r : Int) % 64).toNat = 128 + r % 64 by omega]
  · rw [enc4 r hv (by omega), Lib.encodeRuneZ_four (by omega) (by omega)]
    simp only [List.map_cons, List.map_nil]
    rw [show (240 + (r : Int) / 262144).toNat = 240 + r / 262144 by omega, show (128 + (r : Int) / 4096 % 64).toNat = 128 + r / 4096 % 64 by omega, show (128 + (r : Int) / 64 % 64).toNat = 128 + r / 64 % 64 by omega, show (128 + (r : Int) % 64).toNat = 128 + r % 64 by omega]

theorem foldl_bytes : ∀ (ns : List Int) (s : ByteArray), (ns.foldl (fun r n => r ++ Utf8.encode n) s).data.toList = s.data.toList ++ ns.flatMap fun n => (Utf8.encode n).data.toList
  | [], s => by simp
  | n :: ns, s => by
    rw [List.foldl_cons, foldl_bytes ns]
    simp
theorem runesBytes_list (ns : List Int) : (runesBytes ns).data.toList = ns.flatMap fun n => (Utf8.encode n).data.toList := by
  unfold runesBytes
  rw [foldl_bytes]
  rfl

theorem valid_step {l : List UInt8} (h : l ≠ []) (hv : Lib.validD l = true) : l = Lib.encodeRune ((Lib.decodeL l).1 : Int) ++ l.drop (Lib.decodeL l).2 ∧ Lib.validD (l.drop (Lib.decodeL l).2) = true := by
  rw [Lib.validD_step l h] at hv
  split at hv
  · cases hv
  · rename_i hb
    exact ⟨by rw [Lib.encode_decode l h hb, List.take_append_drop], hv⟩

theorem runesL_bytes (s : ByteArray) : ∀ (b k : Nat), s.size ≤ k + b → Lib.validD (s.data.toList.drop k) = true → ((runesL s b k).flatMap fun n => (Utf8.encode n).data.toList) = s.data.toList.drop k
  | 0, k, hk, _ => by
    rw [List.drop_of_length_le (by simp; omega)]
    rfl
  | b + 1, k, hk, hv => by
    rw [runesL]
    by_cases hlt : k < s.size
    · rw [if_pos hlt]
      have hne : s.data.toList.drop k ≠ [] := by
        intro e
        have := congrArg List.length e
        simp at this
        omega
      obtain ⟨e1, v1⟩ := valid_step hne hv
      have w1 := Lib.decodeL_width (s.data.toList.drop k)
      rw [Lib.decodeL_drop] at e1 v1 w1
      rw [List.drop_drop] at e1 v1
      have hg := decode_good (s.data.toList.drop k)
      rw [Lib.decodeL_drop] at hg
      rw [List.flatMap_cons, runesL_bytes s b _ (by omega) v1, encode_eq _ hg]
      exact e1.symm
    · rw [if_neg hlt, List.drop_of_length_le (by simp; omega)]
      rfl

theorem runesBytes_valid (s : ByteArray) (h : Lib.validD s.data.toList = true) : runesBytes (runesOf s) = s := by
  have := runesL_bytes s s.size 0 (by omega) (by simpa using h)
  apply ByteArray.ext
  apply Array.toList_inj.1
  rw [runesBytes_list]
  exact this.trans (by simp)

theorem valid_of_ascii (l : List UInt8) (h : ∀ b ∈ l, b.toNat < 128) : Lib.validD l = true := by
  rw [Lib.validD_ascii l.length l (fun b hb => h b (List.mem_of_mem_take hb)), List.drop_length]
  rfl
end Go.Proofs.Ytkjmbnfchiippaa
