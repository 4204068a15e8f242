/- The walk of FnCompareOrder. -/
import Derived.Test.YtkjmbnfchiippaaUnits
namespace Go.Proofs.Ytkjmbnfchiippaa
open Go.RowKit

theorem text_cmp' (a b : ByteArray) (v : Int) (hv : cmpS a b = v) (ha : a.size ≤ 2147483647) (hb : b.size ≤ 2147483647) (w : World) :
    Calls Try.prog 6 #[.string a, .string b] w fun e w' => e = .returned (.int .i64 v) ∧ Below w.heap.size w w' := by
  subst hv
  exact text_cmp a b w ha hb
theorem units9_b (s : ByteArray) (hs : s.size ≤ 2147483647) (w : World) :
    Calls Try.prog 5 #[.string s] w fun e w' => ∃ u b, e = .returned (.tuple #[u, .bool b]) ∧ Below w.heap.size w w' :=
  (units9_any s w hs).mono fun _ _ ⟨⟨_, _, _, b, h1, h2, _⟩, _⟩ => ⟨_, b, h1, h2⟩

set_option maxRecDepth 100000 in
theorem order_big (a b c : ByteArray) (w : World) (h : 2147483647 < a.size ∨ (a.size ≤ 2147483647 ∧ 2147483647 < b.size) ∨ (a.size ≤ 2147483647 ∧ b.size ≤ 2147483647 ∧ 2147483647 < c.size)) :
    Calls Try.prog 3 #[.string a, .string b, .string c] w fun e w' => e = .returned (.bool true) ∧ Below w.heap.size w w' := by
  rcases h with h1 | ⟨h1, h2⟩ | ⟨h1, h2, h3⟩
  · have k1 : (2147483647 : Int) < a.size := by omega
    go_enter Try.func3, Try.ntmps3
    go_wp2
    go_ret
    exact ⟨rfl, Below.refl _ _⟩
  · have k1 : ¬ (2147483647 : Int) < a.size := by omega
    have k2 : (2147483647 : Int) < b.size := by omega
    go_enter Try.func3, Try.ntmps3
    go_wp2
    go_ret
    exact ⟨rfl, Below.refl _ _⟩
  · have k1 : ¬ (2147483647 : Int) < a.size := by omega
    have k2 : ¬ (2147483647 : Int) < b.size := by omega
    have k3 : (2147483647 : Int) < c.size := by omega
    go_enter Try.func3, Try.ntmps3
    go_wp2
    go_ret
    exact ⟨rfl, Below.refl _ _⟩

set_option maxRecDepth 100000 in
set_option maxHeartbeats 4000000 in
theorem order_small (a b c : ByteArray) (w : World) (h1 : a.size ≤ 2147483647) (h2 : b.size ≤ 2147483647) (h3 : c.size ≤ 2147483647) (n m k : Int) (hn : cmpS a b = n) (hm : cmpS b c = m) (hk : cmpS a c = k)
    (h : n = 1 ∨ ((n = 0 ∨ n = -1) ∧ m = 1) ∨ (n = 0 ∧ m = 0 ∧ k = 0) ∨ ((n = 0 ∨ n = -1) ∧ (m = 0 ∨ m = -1) ∧ k = -1)) :
    Calls Try.prog 3 #[.string a, .string b, .string c] w fun e w' => e = .returned (.bool true) ∧ Below w.heap.size w w' := by
  have k1 : ¬ (2147483647 : Int) < a.size := by omega
  have k2 : ¬ (2147483647 : Int) < b.size := by omega
  have k3 : ¬ (2147483647 : Int) < c.size := by omega
  have U1 := Lib.hid (units9_b a h1)
  have U2 := Lib.hid (units9_b b h2)
  have U3 := Lib.hid (units9_b c h3)
  have C1 := Lib.hid (text_cmp' a b n hn h1 h2)
  have C2 := Lib.hid (text_cmp' b c m hm h2 h3)
  have C3 := Lib.hid (text_cmp' a c k hk h1 h3)
  have C4 := Lib.hid (text_cmp' b a (-n) (by rw [← hn]; exact cmpL_neg _ _) h2 h1)
  have E1 := Lib.hid (fun w => text_eq a b (decide (n = 0)) w h1 h2 (by rw [hn]))
  have E2 := Lib.hid (fun w => text_eq a a true w h1 h1 (by rw [decide_eq_true_eq]; exact (cmpL_eq _ _).2 rfl))
  clear hn hm hk h1 h2 h3
  rcases h with rfl | ⟨rfl | rfl, rfl⟩ | ⟨rfl, rfl, rfl⟩ | ⟨rfl | rfl, rfl | rfl, rfl⟩
  all_goals
    go_enter Try.func3, Try.ntmps3
    go_wp2_with fail
    refine (U1.out _).mono ?_
    rintro e w1 ⟨u1, x, rfl, hb1⟩
    go_wp2_with fail
    refine (U2.out _).mono ?_
    rintro e w2 ⟨u2, y, rfl, hb2⟩
    go_wp2_with fail
    refine (U3.out _).mono ?_
    rintro e w3 ⟨u3, z, rfl, hb3⟩
    have hs1 := hb1.size
    have hs2 := hb2.size
    have hs3 := hb3.size
    have hall : Below w.heap.size w w3 := (hb1.trans (hb2.mono hs1)).trans (hb3.mono (by omega))
    cases x
    · go_wp2
      go_ret
      exact ⟨rfl, hall⟩
    cases y
    · go_wp2
      go_ret
      exact ⟨rfl, hall⟩
    cases z
    · go_wp2
      go_ret
      exact ⟨rfl, hall⟩
    go_wp2_with fail
    refine (C1.out _).mono ?_
    rintro e w4 ⟨rfl, hb4⟩
    go_wp2_with fail
    refine (C2.out _).mono ?_
    rintro e w5 ⟨rfl, hb5⟩
    go_wp2_with fail
    refine (C3.out _).mono ?_
    rintro e w6 ⟨rfl, hb6⟩
    go_wp2_with fail
    refine (C4.out _).mono ?_
    rintro e w7 ⟨rfl, hb7⟩
    go_wp2_with fail
    refine (E1.out _).mono ?_
    rintro e w8 ⟨rfl, hb8⟩
    go_wp2_with fail
    refine (E2.out _).mono ?_
    rintro e w9 ⟨rfl, hb9⟩
    go_wp2
    go_ret
    have hs4 := hb4.size
    have hs5 := hb5.size
    have hs6 := hb6.size
    have hs7 := hb7.size
    have hs8 := hb8.size
    exact ⟨rfl, ((((((hall.trans (hb4.mono (by omega))).trans (hb5.mono (by omega))).trans (hb6.mono (by omega))).trans (hb7.mono (by omega))).trans (hb8.mono (by omega))).trans (hb9.mono (by omega)))⟩

theorem law_order (a b c : ByteArray) (w : World) :
    Calls Try.prog 3 #[.string a, .string b, .string c] w fun e w' => e = .returned (.bool true) ∧ Below w.heap.size w w' := by
  by_cases h1 : 2147483647 < a.size
  · exact order_big a b c w (.inl h1)
  by_cases h2 : 2147483647 < b.size
  · exact order_big a b c w (.inr (.inl ⟨by omega, h2⟩))
  by_cases h3 : 2147483647 < c.size
  · exact order_big a b c w (.inr (.inr ⟨by omega, by omega, h3⟩))
  refine order_small a b c w (by omega) (by omega) (by omega) _ _ _ rfl rfl rfl ?_
  have v1 : cmpS a b = -1 ∨ cmpS a b = 0 ∨ cmpS a b = 1 := cmpL_vals _ _
  have v2 : cmpS b c = -1 ∨ cmpS b c = 0 ∨ cmpS b c = 1 := cmpL_vals _ _
  have v3 : cmpS a c = -1 ∨ cmpS a c = 0 ∨ cmpS a c = 1 := cmpL_vals _ _
  have t : cmpS a b ≤ 0 → cmpS b c ≤ 0 → cmpS a c ≤ 0 ∧ (cmpS a c < 0 ∨ cmpS a b = 0 ∧ cmpS b c = 0) := cmpL_three _ _ _
  generalize cmpS a b = n at *
  generalize cmpS b c = m at *
  generalize cmpS a c = k at *
  omega
end Go.Proofs.Ytkjmbnfchiippaa
