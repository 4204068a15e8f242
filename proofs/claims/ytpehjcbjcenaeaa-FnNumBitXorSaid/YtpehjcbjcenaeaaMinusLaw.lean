/- PartMinus, NumMinus, the laws' helpers finite and is; the walk of FnNumMinus: it returns true for every two numbers. -/
import Derived.Test.YtpehjcbjcenaeaaMinus
namespace Go.Proofs.Ytpehjcbjcenaeaa
open Go.RowKit

theorem it_new (w : World) (t : TypeId) : IT (w.alloc (.cells #[.nilIface, .map none, .map none, .pointer none, .pointer none, .pointer none, .pointer none, .slice none 0 0, .int .i64 0, .int .i64 0, .nilFunc, .nilFunc] t)) w.heap.size :=
  ⟨World.cell?_alloc_mark w _ _ (0, 0) 5, World.cell?_alloc_mark w _ _ (0, 0) 7⟩

set_option maxRecDepth 100000 in
theorem partMinus_yes (x y r : Nat) (w : World) (hr : floatBits .sub .f64 x y = some r) (hf : finW r = true) :
    Calls Try.prog 29 #[.float .f64 x, .float .f64 y] w fun e w' => e = .returned (.tuple #[.float .f64 r, .nilIface]) ∧ Below w.heap.size w w' := by
  have HR := Lib.hid hr
  have HF := Lib.hid hf
  clear hr hf
  go_enter Try.func29, Try.ntmps29
  go_wp2_with fail
  refine (num_any x _).mono ?_
  rintro e w1 ⟨r1, rfl, hc1, hb1⟩
  go_wp2_with fail
  refine (num_any y _).mono ?_
  rintro e w2 ⟨r2, rfl, hc2, hb2⟩
  have hc1' := keeps hb2 hc1
  go_wp2_with fail
  refine (minus_yes _ r1 r2 x y r _ hc1' hc2 HR.out HF.out).mono ?_
  rintro e w3 ⟨r3, rfl, hc3, hb3⟩
  go_wp2_with fail
  refine (numOf_yes r3 _ _ hc3).mono ?_
  rintro e w4 ⟨rfl, rfl⟩
  go_wp2_with fail
  go_ret2
  have hs := hb1.size
  have hs2 := hb2.size
  simp at hs
  exact ⟨rfl, (((Below.refl _ _).alloc (Nat.le_refl _) _).trans (hb1.mono (by simp))).trans ((hb2.mono (by omega)).trans (hb3.mono (by omega)))⟩

/-- x - y is not finite. -/
def MinusBad (x y : Nat) : Prop := floatBits .sub .f64 x y = none ∨ ∃ r, floatBits .sub .f64 x y = some r ∧ finW r = false
theorem minus_bad (b : Nat) (p q : Addr) (x y : Nat) (w : World) (h : IT w b) (hp : w.cell? p = some (.float .f64 x)) (hq : w.cell? q = some (.float .f64 y)) (hr : MinusBad x y) :
    Calls Try.prog 46 #[.pointer (some ⟨b, 0, none⟩), .iface 103 (.pointer (some p)), .iface 103 (.pointer (some q))] w (NumNo w) := by
  rcases hr with hr | ⟨r, hr, hf⟩
  · exact minus_nan b p q x y w h hp hq hr
  · exact minus_no b p q x y r w h hp hq hr hf

set_option maxRecDepth 100000 in
theorem partMinus_no (x y : Nat) (w : World) (hr : MinusBad x y) :
    Calls Try.prog 29 #[.float .f64 x, .float .f64 y] w fun e w' => ∃ t v, e = .returned (.tuple #[.float .f64 0, .iface t v]) ∧ Below w.heap.size w w' := by
  have HR := Lib.hid hr
  clear hr
  have hit := it_new w 88
  have HIT := Lib.hid hit
  clear hit
  go_enter Try.func29, Try.ntmps29
  go_wp2_with fail
  refine (num_any x _).mono ?_
  rintro e w1 ⟨r1, rfl, hc1, hb1⟩
  have hi1 := HIT.out.below hb1
  go_wp2_with fail
  refine (num_any y _).mono ?_
  rintro e w2 ⟨r2, rfl, hc2, hb2⟩
  have hc1' := keeps hb2 hc1
  have hi2 := hi1.below hb2
  go_wp2_with fail
  refine (minus_bad _ r1 r2 x y _ hi2 hc1' hc2 HR.out).mono ?_
  rintro e w3 ⟨t3, v3, rfl, hb3⟩
  go_wp2_with fail
  refine (numOf_no t3 v3 _ _).mono ?_
  rintro e w4 ⟨rfl, rfl⟩
  go_wp2_with fail
  go_ret2
  have hs := hb1.size
  have hs2 := hb2.size
  simp at hs
  exact ⟨_, _, rfl, (((Below.refl _ _).alloc (Nat.le_refl _) _).trans (hb1.mono (by simp))).trans ((hb2.mono (by omega)).trans (hb3.mono (by omega)))⟩

theorem numMinus_yes (x y r : Nat) (w : World) (hr : floatBits .sub .f64 x y = some r) (hf : finW r = true) :
    Calls Try.prog 11 #[.float .f64 x, .float .f64 y] w fun e w' => e = .returned (.tuple #[.float .f64 r, .bool true]) ∧ Below w.heap.size w w' := by
  have HR := Lib.hid hr
  have HF := Lib.hid hf
  clear hr hf
  go_enter Try.func11, Try.ntmps11
  go_wp2_with fail
  refine (partMinus_yes x y r _ HR.out HF.out).mono ?_
  rintro e w1 ⟨rfl, hb1⟩
  go_wp2_with fail
  refine (number_yes _ _).mono ?_
  rintro e w2 ⟨rfl, rfl⟩
  go_wp2_with fail
  go_ret2
  exact ⟨rfl, hb1⟩
theorem numMinus_no (x y : Nat) (w : World) (hr : MinusBad x y) :
    Calls Try.prog 11 #[.float .f64 x, .float .f64 y] w fun e w' => e = .returned (.tuple #[.float .f64 0, .bool false]) ∧ Below w.heap.size w w' := by
  have HR := Lib.hid hr
  clear hr
  go_enter Try.func11, Try.ntmps11
  go_wp2_with fail
  refine (partMinus_no x y _ HR.out).mono ?_
  rintro e w1 ⟨t, v, rfl, hb1⟩
  go_wp2_with fail
  refine (number_no _ _ _ _).mono ?_
  rintro e w2 ⟨rfl, rfl⟩
  go_wp2_with fail
  go_ret2
  exact ⟨rfl, hb1⟩

/-- 'finite' of two numbers that lie in a block; of one. -/
theorem finite_2 (b x y : Nat) (w : World) (h0 : w.cell? ⟨b, 0, none⟩ = some (.float .f64 x)) (h1 : w.cell? ⟨b, 1, none⟩ = some (.float .f64 y)) :
    Calls Try.prog 12 #[.slice (some ⟨b, 0, none⟩) 2 2] w fun e w' => e = .returned (.bool (finW x && finW y)) ∧ w = w' := by
  cases hx : finW x
  · go_enter Try.func12, Try.ntmps12
    go_wp2_with fail
    refine wp_loop_rounds 3 ?_
    rw [rounds_succ]
    go_wp2_with (go_at_call 30; refine (finite_any _ _).mono ?_; rintro e w' ⟨rfl, rfl⟩)
    go_ret
    exact ⟨rfl, rfl⟩
  · cases hy : finW y
    all_goals
      go_enter Try.func12, Try.ntmps12
      go_wp2_with fail
      refine wp_loop_rounds 3 ?_
      rw [rounds_succ]
      go_wp2_with (go_at_call 30; refine (finite_any _ _).mono ?_; rintro e w' ⟨rfl, rfl⟩)
      rw [rounds_succ]
      go_wp2_with (go_at_call 30; refine (finite_any _ _).mono ?_; rintro e w' ⟨rfl, rfl⟩)
      try (rw [rounds_succ]; go_wp2_with fail)
      go_ret
      exact ⟨rfl, rfl⟩

theorem is_yes (r : Nat) (w : World) (hf : finW r = true) :
    Calls Try.prog 13 #[.float .f64 r, .bool true, .float .f64 r] w fun e w' => e = .returned (.bool true) ∧ w = w' := by
  have hn : nanW r = false := by
    rcases three r with ⟨_, h, _⟩ | ⟨h, _, _⟩ | ⟨_, h, _⟩
    · exact h
    · rw [h] at hf; cases hf
    · exact h
  have he := order_eq_self r hn
  have HE := Lib.hid he
  clear hn he
  go_enter Try.func13, Try.ntmps13
  go_wp2_with (go_at_call 30; refine (finite_any _ _).mono ?_; rintro e w' ⟨rfl, rfl⟩)
  go_ret
  exact ⟨by rw [← HE.out]; rfl, rfl⟩
theorem is_no (o r : Nat) (w : World) (hf : finW r = false) :
    Calls Try.prog 13 #[.float .f64 o, .bool false, .float .f64 r] w fun e w' => e = .returned (.bool true) ∧ w = w' := by
  go_enter Try.func13, Try.ntmps13
  go_wp2_with (go_at_call 30; refine (finite_any _ _).mono ?_; rintro e w' ⟨rfl, rfl⟩)
  go_ret
  exact ⟨rfl, rfl⟩
end Go.Proofs.Ytpehjcbjcenaeaa
