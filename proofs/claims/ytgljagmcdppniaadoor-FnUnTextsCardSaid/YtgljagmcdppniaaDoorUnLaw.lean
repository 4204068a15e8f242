/- The walk of FnUnTexts: for every operator and every text it returns true, and turns nothing that was there. -/
import Derived.Test.YtgljagmcdppniaaDoorUn
import Derived.Deep.RegionWith
namespace Go.Proofs.YtgljagmcdppniaaDoor
open Go.RowKit

set_option maxHeartbeats 400000 in
theorem law_big (n : Int) (s : ByteArray) (hs : 2147483647 < s.size) (w : World) :
    Calls Tryd.prog 3 #[.int .i64 n, .string s] w fun e w' => e = .returned (.bool true) ∧ Below w.heap.size w w' := by
  go_enter Tryd.func3, Tryd.ntmps3
  go_wp2_with fail
  go_ret
  exact ⟨rfl, Below.refl _ _⟩

theorem unText_1 (w : World) (hu : UT w) : Calls Tryd.prog 5 #[.int .i64 1] w fun e w' => e = .returned (.string ⟨#[33]⟩) ∧ w = w' :=
  unText_yes 1 (by omega) (by omega) w hu
theorem signS_ne (n : Int) (h1 : 1 ≤ n) (h4 : n ≤ 4) : (signS n).toList.isEmpty = false := by
  obtain rfl | rfl | rfl | rfl : n = 1 ∨ n = 2 ∨ n = 3 ∨ n = 4 := by omega
  all_goals decide +kernel

set_option maxHeartbeats 400000 in
theorem law_yes (n : Int) (h1 : 1 ≤ n) (h4 : n ≤ 4) (s : ByteArray) (k : Int) (h : Un5 s k) (hs : s.size ≤ 2147483647) (w : World) (hu : UT w) :
    Calls Tryd.prog 3 #[.int .i64 n, .string s] w fun e w' => e = .returned (.bool true) ∧ Below w.heap.size w w' := by
  have hne := signS_ne n h1 h4
  have h0k := h.le
  go_enter Tryd.func3, Tryd.ntmps3
  go_wp2_with fail
  refine (sign_any n h1 h4 _).mono ?_
  rintro e w1 ⟨rfl, hb⟩
  have hu1 := hu.below hb
  go_wp2_with fail
  refine (unText_yes n h1 h4 _ hu1).mono ?_
  rintro e w1 ⟨rfl, rfl⟩
  go_wp2_with fail
  refine (unText_1 _ hu1).mono ?_
  rintro e w1 ⟨rfl, rfl⟩
  go_wp2_with fail
  refine (unOf_yes _ n (Un5.sign n h1 h4) h1 _).mono ?_
  rintro e w1 ⟨rfl, rfl⟩
  go_wp2_with fail
  refine (unary_any s k h _).mono ?_
  rintro e w2 ⟨rfl, hb2⟩
  have hb3 := hb.trans (hb2.mono hb.size)
  go_wp2_with fail
  by_cases hk : 1 ≤ k
  · refine (unOf_yes s k h hk _).mono ?_
    rintro e w1 ⟨rfl, rfl⟩
    go_wp2_with fail
    go_ret
    exact ⟨rfl, hb3⟩
  · obtain rfl : k = 0 := by omega
    refine (unOf_no s h _).mono ?_
    rintro e w1 ⟨rfl, rfl⟩
    go_wp2_with fail
    go_ret
    exact ⟨rfl, hb3⟩

set_option maxHeartbeats 400000 in
theorem law_no (n : Int) (h1 : n < 1 ∨ 4 < n) (s : ByteArray) (k : Int) (h : Un5 s k) (hs : s.size ≤ 2147483647) (w : World) (hu : UT w) :
    Calls Tryd.prog 3 #[.int .i64 n, .string s] w fun e w' => e = .returned (.bool true) ∧ Below w.heap.size w w' := by
  have h0k := h.le
  have h0 : Un5 ⟨#[]⟩ 0 := .e (by decide +kernel) (by decide +kernel) (by decide +kernel) (by decide +kernel)
  rcases h1 with h1 | h1
  all_goals
    go_enter Tryd.func3, Tryd.ntmps3
    go_wp2_with fail
    refine (unText_no n (by omega) _).mono ?_
    rintro e w1 ⟨rfl, rfl⟩
    go_wp2_with fail
    refine (unText_1 _ hu).mono ?_
    rintro e w1 ⟨rfl, rfl⟩
    go_wp2_with fail
    refine (unOf_no _ h0 _).mono ?_
    rintro e w1 ⟨rfl, rfl⟩
    go_wp2_with fail
    refine (unary_any s k h _).mono ?_
    rintro e w2 ⟨rfl, hb2⟩
    go_wp2_with fail
    by_cases hk : 1 ≤ k
    · refine (unOf_yes s k h hk _).mono ?_
      rintro e w1 ⟨rfl, rfl⟩
      go_wp2_with fail
      go_ret
      exact ⟨rfl, hb2⟩
    · obtain rfl : k = 0 := by omega
      refine (unOf_no s h _).mono ?_
      rintro e w1 ⟨rfl, rfl⟩
      go_wp2_with fail
      go_ret
      exact ⟨rfl, hb2⟩
end Go.Proofs.YtgljagmcdppniaaDoor
