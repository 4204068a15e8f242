/- spec.point: three bytes, four bytes; any place of a string. -/
import Derived.Test.YtkjmbnfchiippaaPointS
namespace Go.Proofs.Ytkjmbnfchiippaa
open Go.RowKit

set_option maxRecDepth 100000 in
set_option maxHeartbeats 2000000 in
theorem point_three (s : ByteArray) (i : Nat) (w : World) (hs : s.size ≤ 2000) (hi : i + 2 < s.size) (c d f : UInt8) (hc : s[i] = c) (hd : s[i + 1] = d) (hf : s[i + 2] = f) (h1 : 224 ≤ c.toNat) (h2 : c.toNat < 240) :
    Calls Try.prog 19 #[.string s, .int .i64 i] w (PointOk s i w) := by
  have hi' : (i : Int) + 2 < s.size := by omega
  have hw := wrap_byte c
  have hw2 := wrap_byte d
  have hw3 := wrap_byte f
  have hsh : (3 : Int) ≤ s.size - i := by omega
  have H0 := Lib.hid (at_eq hc)
  have H1 := Lib.hid (at_eq hd)
  have H2 := Lib.hid (at_eq hf)
  go_enter Try.func19, Try.ntmps19
  go_wp2
  refine wp_loop_rounds 3 ?_
  rw [rounds_succ]
  go_wp2
  all_goals first | (rw [rounds_succ]; go_wp2) | skip
  all_goals first | (rw [rounds_succ]; go_wp2) | skip
  all_goals go_ret2
  all_goals first
    | exact ⟨_, 0, rfl, .inl rfl, rfl⟩
    | exact ⟨_, 3, rfl, .inr ⟨⟨((c.toNat - 224) * 4096 + (d.toNat - 128) * 64 + (f.toNat - 128) : Nat), by omega, decode_3 hi H0.out H1.out H2.out h1 h2 (by omega) (by omega) (by omega) (by omega) rfl (by omega) (by omega), by simp [Utf8.valid]; omega⟩, by omega, by omega, by omega, by omega⟩, rfl⟩

set_option maxRecDepth 100000 in
set_option maxHeartbeats 2000000 in
theorem point_four (s : ByteArray) (i : Nat) (w : World) (hs : s.size ≤ 2000) (hi : i + 3 < s.size) (c d f g : UInt8) (hc : s[i] = c) (hd : s[i + 1] = d) (hf : s[i + 2] = f) (hg : s[i + 3] = g) (h1 : 240 ≤ c.toNat) (h2 : c.toNat < 248) :
    Calls Try.prog 19 #[.string s, .int .i64 i] w (PointOk s i w) := by
  have hi' : (i : Int) + 3 < s.size := by omega
  have hw := wrap_byte c
  have hw2 := wrap_byte d
  have hw3 := wrap_byte f
  have hw4 := wrap_byte g
  have hsh : (4 : Int) ≤ s.size - i := by omega
  have H0 := Lib.hid (at_eq hc)
  have H1 := Lib.hid (at_eq hd)
  have H2 := Lib.hid (at_eq hf)
  have H3 := Lib.hid (at_eq hg)
  go_enter Try.func19, Try.ntmps19
  go_wp2
  refine wp_loop_rounds 4 ?_
  rw [rounds_succ]
  go_wp2
  all_goals first | (rw [rounds_succ]; go_wp2) | skip
  all_goals first | (rw [rounds_succ]; go_wp2) | skip
  all_goals first | (rw [rounds_succ]; go_wp2) | skip
  all_goals go_ret2
  all_goals first
    | exact ⟨_, 0, rfl, .inl rfl, rfl⟩
    | exact ⟨_, 4, rfl, .inr ⟨⟨((c.toNat - 240) * 262144 + (d.toNat - 128) * 4096 + (f.toNat - 128) * 64 + (g.toNat - 128) : Nat), by omega, decode_4 hi H0.out H1.out H2.out H3.out h1 h2 (by omega) (by omega) (by omega) (by omega) (by omega) (by omega) rfl (by omega) (by omega), by simp [Utf8.valid]; omega⟩, by omega, by omega, by omega, by omega⟩, rfl⟩

theorem point_any (s : ByteArray) (i : Nat) (w : World) (hs : s.size ≤ 2000) (hi : i < s.size) :
    Calls Try.prog 19 #[.string s, .int .i64 i] w (PointOk s i w) := by
  have hlt := (s[i]).toNat_lt
  by_cases h1 : (s[i]).toNat < 128
  · exact point_ascii s i w hi _ rfl h1
  by_cases h2 : (s[i]).toNat < 192 ∨ 248 ≤ (s[i]).toNat
  · exact point_bad s i w hi _ rfl (by omega) h2
  by_cases h3 : (s[i]).toNat < 224
  · by_cases hn : i + 1 < s.size
    · exact point_two s i w hs hn _ _ rfl rfl (by omega) h3
    · exact point_short s i w hi _ rfl (.inl ⟨by omega, h3, by omega⟩)
  by_cases h4 : (s[i]).toNat < 240
  · by_cases hn : i + 2 < s.size
    · exact point_three s i w hs hn _ _ _ rfl rfl rfl (by omega) h4
    · exact point_short s i w hi _ rfl (.inr (.inl ⟨by omega, h4, by omega⟩))
  · by_cases hn : i + 3 < s.size
    · exact point_four s i w hs hn _ _ _ _ rfl rfl rfl rfl (by omega) (by omega)
    · exact point_short s i w hi _ rfl (.inr (.inr ⟨by omega, by omega, by omega⟩))
end Go.Proofs.Ytkjmbnfchiippaa
