/- spec.encoded: the bytes of a code point. -/
import Derived.Test.YtkjmbnfchiippaaRightS
namespace Go.Proofs.Ytkjmbnfchiippaa
open Go.RowKit

theorem and_63 (x : Int) (h0 : 0 ≤ x) (h1 : x < 9223372036854775808) : bits BinOp.and IntKind.i64 x 63 = x % 64 := by
  obtain ⟨i, rfl⟩ : ∃ i : Nat, x = i := ⟨x.toNat, by omega⟩
  have hi : i < 18446744073709551616 := by omega
  have h2 : (BitVec.ofInt 64 (i : Int)).toNat = i := by
    rw [BitVec.ofInt_natCast, BitVec.toNat_ofNat]; exact Nat.mod_eq_of_lt (by omega)
  have h3 : (BitVec.ofInt 64 (63 : Int)).toNat = 63 := by decide
  have h4 : i &&& 63 = i % 64 := Nat.and_two_pow_sub_one_eq_mod i 6
  show IntKind.i64.wrap ((BitVec.ofInt 64 (i : Int) &&& BitVec.ofInt 64 (63 : Int)).toNat : Int) = _
  rw [BitVec.toNat_and, h2, h3, h4, IntWalk.i64_in _ ⟨by omega, by omega⟩]
  omega

/-- A block of bytes as a string. -/
theorem conv_bytes (w : World) (l : List UInt8) (vs : Array Value) (n : Nat) (hn : n = l.length) (hvs : vs.toList = l.map fun b => Value.int .u8 (b.toNat : Int)) :
    (convert 79 9 (.slice (some ⟨w.heap.size, 0, none⟩) n n)).run Try.prog (w.alloc (.cells vs 5)) = .ok (.string ⟨l.toArray⟩) (w.alloc (.cells vs 5)) := by
  subst hn
  refine run_convert_bytes_back (P := Try.prog) _ 79 9 5 ⟨w.heap.size, 0, none⟩ l.length l Try.underlying79 Try.underlying5 Try.underlying9 fun j hj => ?_
  rw [show (⟨w.heap.size, 0, none⟩ : Addr).add j = ⟨w.heap.size, j, none⟩ by unfold Addr.add; split <;> simp_all]
  rw [cell_of_row _ w.heap.size j _ _ (0, 0) (heap_alloc_new w (.cells vs 5)), ← Array.getElem?_toList, hvs, List.getElem?_map, List.getElem?_eq_getElem hj]
  rfl

theorem conv_bytes' (w : World) (l : List UInt8) (vs : Array Value) (n : Nat) (hn : n = l.length) (hvs : vs.toList = l.map fun b => Value.int .u8 (b.toNat : Int)) :
    ∃ s : ByteArray, (convert 79 9 (.slice (some ⟨w.heap.size, 0, none⟩) n n)).run Try.prog (w.alloc (.cells vs 5)) = .ok (.string s) (w.alloc (.cells vs 5)) ∧ s.data.toList = l := ⟨_, conv_bytes w l vs n hn hvs, rfl⟩

/-- What encoded hands back. -/
def EncOk (r : Int) (w : World) (e : Ending) (w' : World) : Prop := ∃ s : ByteArray, e = .returned (.string s) ∧ s.data.toList = enc r ∧ Below w.heap.size w w'

def EncB (l : List UInt8) (w : World) (e : Ending) (w' : World) : Prop := ∃ s : ByteArray, e = .returned (.string s) ∧ s.data.toList = l ∧ Below w.heap.size w w'
theorem u8_val {n : Nat} {x : Int} (h : n < 256) (hx : x = n) : Value.int .u8 x = .int .u8 (((n.toUInt8).toNat : Nat) : Int) := by
  rw [toNat_u8 n h, hx]

set_option maxRecDepth 100000 in
theorem encoded_1 (k : Nat) (w : World) (h2 : k < 128) :
    Calls Try.prog 27 #[.int .i64 k] w (EncB [k.toUInt8] w) := by
  obtain ⟨s, hcv, hsl⟩ := conv_bytes' w [k.toUInt8] #[.int .u8 k] 1 rfl (by rw [u8_val (n := k) (x := (k : Int)) (by omega) rfl]; rfl)
  have HS := Lib.hid hsl
  have HCV := Lib.hid hcv
  clear hsl hcv
  go_enter Try.func27, Try.ntmps27
  go_wp2
  rw [HCV.out]
  go_wp2
  go_ret
  exact ⟨_, rfl, HS.out, (Below.refl _ _).alloc (Nat.le_refl _) _⟩

set_option maxRecDepth 100000 in
theorem encoded_2 (k : Nat) (w : World) (h1 : 128 ≤ k) (h2 : k < 2048) :
    Calls Try.prog 27 #[.int .i64 k] w (EncB [(192 + k / 64).toUInt8, (128 + k % 64).toUInt8] w) := by
  obtain ⟨s, hcv, hsl⟩ := conv_bytes' w [(192 + k / 64).toUInt8, (128 + k % 64).toUInt8] #[.int .u8 (192 + (k : Int) / 64), .int .u8 (128 + (k : Int) % 64)] 2 rfl (by rw [u8_val (n := 192 + k / 64) (x := 192 + (k : Int) / 64) (by omega) (by omega), u8_val (n := 128 + k % 64) (x := 128 + (k : Int) % 64) (by omega) (by omega)]; rfl)
  have e1 := and_63 k (by omega) (by omega)
  have HS := Lib.hid hsl
  have HCV := Lib.hid hcv
  clear hsl hcv
  go_enter Try.func27, Try.ntmps27
  go_wp2
  rw [HCV.out]
  go_wp2
  go_ret
  exact ⟨_, rfl, HS.out, (Below.refl _ _).alloc (Nat.le_refl _) _⟩

set_option maxRecDepth 100000 in
theorem encoded_3r (r : Int) (s : ByteArray) (w : World) (h1 : 2048 ≤ r) (h2 : r < 65536) (hcv : (convert 79 9 (.slice (some ⟨w.heap.size, 0, none⟩) 3 3)).run Try.prog (w.alloc (.cells #[.int .u8 (224 + r / 4096), .int .u8 (128 + r / 64 % 64), .int .u8 (128 + r % 64)] 5)) = .ok (.string s) (w.alloc (.cells #[.int .u8 (224 + r / 4096), .int .u8 (128 + r / 64 % 64), .int .u8 (128 + r % 64)] 5))) :
    Calls Try.prog 27 #[.int .i64 r] w fun e w' => e = .returned (.string s) ∧ Below w.heap.size w w' := by
  have e1 := and_63 r (by omega) (by omega)
  have e2 := and_63 (r / 64) (by omega) (by omega)
  have HCV := Lib.hid hcv
  clear hcv
  go_enter Try.func27, Try.ntmps27
  go_wp2
  rw [HCV.out]
  go_wp2
  go_ret
  exact ⟨rfl, (Below.refl _ _).alloc (Nat.le_refl _) _⟩
set_option maxRecDepth 100000 in
theorem encoded_3 (k : Nat) (w : World) (h1 : 2048 ≤ k) (h2 : k < 65536) :
    Calls Try.prog 27 #[.int .i64 k] w (EncB [(224 + k / 4096).toUInt8, (128 + k / 64 % 64).toUInt8, (128 + k % 64).toUInt8] w) := by
  obtain ⟨s, hcv, hsl⟩ := conv_bytes' w [(224 + k / 4096).toUInt8, (128 + k / 64 % 64).toUInt8, (128 + k % 64).toUInt8] #[.int .u8 (224 + (k : Int) / 4096), .int .u8 (128 + (k : Int) / 64 % 64), .int .u8 (128 + (k : Int) % 64)] 3 rfl
    (by rw [u8_val (n := 224 + k / 4096) (x := 224 + (k : Int) / 4096) (by omega) (by omega), u8_val (n := 128 + k / 64 % 64) (x := 128 + (k : Int) / 64 % 64) (by omega) (by omega), u8_val (n := 128 + k % 64) (x := 128 + (k : Int) % 64) (by omega) (by omega)]; rfl)
  refine (encoded_3r k s w (by omega) (by omega) hcv).mono ?_
  rintro e w' ⟨he, hb⟩
  exact ⟨s, he, hsl, hb⟩

set_option maxRecDepth 100000 in
theorem encoded_4r (r : Int) (s : ByteArray) (w : World) (h1 : 65536 ≤ r) (h2 : r ≤ 1114111) (hcv : (convert 79 9 (.slice (some ⟨w.heap.size, 0, none⟩) 4 4)).run Try.prog (w.alloc (.cells #[.int .u8 (240 + r / 262144), .int .u8 (128 + r / 4096 % 64), .int .u8 (128 + r / 64 % 64), .int .u8 (128 + r % 64)] 5)) = .ok (.string s) (w.alloc (.cells #[.int .u8 (240 + r / 262144), .int .u8 (128 + r / 4096 % 64), .int .u8 (128 + r / 64 % 64), .int .u8 (128 + r % 64)] 5))) :
    Calls Try.prog 27 #[.int .i64 r] w fun e w' => e = .returned (.string s) ∧ Below w.heap.size w w' := by
  have e1 := and_63 r (by omega) (by omega)
  have e2 := and_63 (r / 64) (by omega) (by omega)
  have e3 := and_63 (r / 4096) (by omega) (by omega)
  have HCV := Lib.hid hcv
  clear hcv
  go_enter Try.func27, Try.ntmps27
  go_wp2
  rw [HCV.out]
  go_wp2
  go_ret
  exact ⟨rfl, (Below.refl _ _).alloc (Nat.le_refl _) _⟩
set_option maxRecDepth 100000 in
theorem encoded_4 (k : Nat) (w : World) (h1 : 65536 ≤ k) (h2 : k ≤ 1114111) :
    Calls Try.prog 27 #[.int .i64 k] w (EncB [(240 + k / 262144).toUInt8, (128 + k / 4096 % 64).toUInt8, (128 + k / 64 % 64).toUInt8, (128 + k % 64).toUInt8] w) := by
  obtain ⟨s, hcv, hsl⟩ := conv_bytes' w [(240 + k / 262144).toUInt8, (128 + k / 4096 % 64).toUInt8, (128 + k / 64 % 64).toUInt8, (128 + k % 64).toUInt8] #[.int .u8 (240 + (k : Int) / 262144), .int .u8 (128 + (k : Int) / 4096 % 64), .int .u8 (128 + (k : Int) / 64 % 64), .int .u8 (128 + (k : Int) % 64)] 4 rfl
    (by rw [u8_val (n := 240 + k / 262144) (x := 240 + (k : Int) / 262144) (by omega) (by omega), u8_val (n := 128 + k / 4096 % 64) (x := 128 + (k : Int) / 4096 % 64) (by omega) (by omega), u8_val (n := 128 + k / 64 % 64) (x := 128 + (k : Int) / 64 % 64) (by omega) (by omega), u8_val (n := 128 + k % 64) (x := 128 + (k : Int) % 64) (by omega) (by omega)]; rfl)
  refine (encoded_4r k s w (by omega) (by omega) hcv).mono ?_
  rintro e w' ⟨he, hb⟩
  exact ⟨s, he, hsl, hb⟩

theorem encoded_any (r : Int) (w : World) (hv : Utf8.valid r = true) : Calls Try.prog 27 #[.int .i64 r] w (EncOk r w) := by
  obtain ⟨k, rfl, hg⟩ := valid_good hv
  have hc : k < 128 ∨ (128 ≤ k ∧ k < 2048) ∨ (2048 ≤ k ∧ k < 65536) ∨ (65536 ≤ k ∧ k ≤ 1114111) := by
    unfold GoodRune at hg
    omega
  rcases hc with h | h | h | h
  · refine (encoded_1 k w h).mono ?_
    rintro e w' ⟨s, he, hl, hb⟩
    exact ⟨s, he, by rw [hl, enc_def, enc1 k hv h], hb⟩
  · refine (encoded_2 k w h.1 h.2).mono ?_
    rintro e w' ⟨s, he, hl, hb⟩
    exact ⟨s, he, by rw [hl, enc_def, enc2 k hv h.1 h.2], hb⟩
  · refine (encoded_3 k w h.1 h.2).mono ?_
    rintro e w' ⟨s, he, hl, hb⟩
    exact ⟨s, he, by rw [hl, enc_def, enc3 k hv h.1 h.2], hb⟩
  · refine (encoded_4 k w h.1 h.2).mono ?_
    rintro e w' ⟨s, he, hl, hb⟩
    exact ⟨s, he, by rw [hl, enc_def, enc4 k hv h.1], hb⟩
end Go.Proofs.Ytkjmbnfchiippaa
