/- The walk of FnNumMinus: it returns true for every two numbers. -/
import Derived.Test.YtpehjcbjcenaeaaMinusLaw
namespace Go.Proofs.Ytpehjcbjcenaeaa
open Go.RowKit

set_option maxRecDepth 100000 in
set_option maxHeartbeats 1000000 in
theorem law_minus (x y : Nat) (w : World) : Calls Try.prog 4 #[.float .f64 x, .float .f64 y] w fun e w' => e = .returned (.bool true) ∧ Below w.heap.size w w' := by
  by_cases hxy : (finW x && finW y) = true
  · obtain ⟨hx, hy⟩ := by simpa using hxy
    obtain ⟨r, hr, _⟩ := sub_fin x y hx hy
    have hrun := run_sub_some (P := Try.prog) 25 x y r hr
    by_cases hf : finW r = true
    · have HR := Lib.hid hr
      have HF := Lib.hid hf
      have HX := Lib.hid hxy
      clear hr hf hx hy hxy
      go_enter Try.func4, Try.ntmps4
      go_wp2_with fail
      refine (numMinus_yes x y r _ HR.out HF.out).mono ?_
      rintro e w1 ⟨rfl, hb⟩
      go_wp2_with fail
      refine (finite_2 _ x y _ (World.cell?_alloc_mark w1 _ _ (0, 0) 0) (World.cell?_alloc_mark w1 _ _ (0, 0) 1)).mono ?_
      rintro e w2 ⟨rfl, rfl⟩
      rw [HX.out]
      go_wp2_with fail
      refine (is_yes r _ HF.out).mono ?_
      rintro e w2 ⟨rfl, rfl⟩
      go_wp2
      go_ret
      exact ⟨rfl, hb.alloc hb.size _⟩
    · have hf' : finW r = false := by simpa using hf
      have HR := Lib.hid hr
      have HF := Lib.hid hf'
      have HX := Lib.hid hxy
      clear hr hf hf' hx hy hxy
      go_enter Try.func4, Try.ntmps4
      go_wp2_with fail
      refine (numMinus_no x y _ (.inr ⟨r, HR.out, HF.out⟩)).mono ?_
      rintro e w1 ⟨rfl, hb⟩
      go_wp2_with fail
      refine (finite_2 _ x y _ (World.cell?_alloc_mark w1 _ _ (0, 0) 0) (World.cell?_alloc_mark w1 _ _ (0, 0) 1)).mono ?_
      rintro e w2 ⟨rfl, rfl⟩
      rw [HX.out]
      go_wp2_with fail
      refine (is_no _ r _ HF.out).mono ?_
      rintro e w2 ⟨rfl, rfl⟩
      go_wp2
      go_ret
      exact ⟨rfl, hb.alloc hb.size _⟩
  · have hxy' : (finW x && finW y) = false := by simpa using hxy
    clear hxy
    have HX := Lib.hid hxy'
    clear hxy'
    have key : (∃ r, floatBits .sub .f64 x y = some r ∧ finW r = true) ∨ MinusBad x y := by
      cases h : floatBits .sub .f64 x y with
      | none => exact .inr (.inl h)
      | some r =>
        cases hf : finW r
        · exact .inr (.inr ⟨r, h, hf⟩)
        · exact .inl ⟨r, rfl, hf⟩
    rcases key with ⟨r, hr, hf⟩ | hbad
    · have HR := Lib.hid hr
      have HF := Lib.hid hf
      clear hr hf
      go_enter Try.func4, Try.ntmps4
      go_wp2_with fail
      refine (numMinus_yes x y r _ HR.out HF.out).mono ?_
      rintro e w1 ⟨rfl, hb⟩
      go_wp2_with fail
      refine (finite_2 _ x y _ (World.cell?_alloc_mark w1 _ _ (0, 0) 0) (World.cell?_alloc_mark w1 _ _ (0, 0) 1)).mono ?_
      rintro e w2 ⟨rfl, rfl⟩
      rw [HX.out]
      go_wp2
      go_ret
      exact ⟨rfl, hb.alloc hb.size _⟩
    · have HB := Lib.hid hbad
      clear hbad
      go_enter Try.func4, Try.ntmps4
      go_wp2_with fail
      refine (numMinus_no x y _ HB.out).mono ?_
      rintro e w1 ⟨rfl, hb⟩
      go_wp2_with fail
      refine (finite_2 _ x y _ (World.cell?_alloc_mark w1 _ _ (0, 0) 0) (World.cell?_alloc_mark w1 _ _ (0, 0) 1)).mono ?_
      rintro e w2 ⟨rfl, rfl⟩
      rw [HX.out]
      go_wp2
      go_ret
      exact ⟨rfl, hb.alloc hb.size _⟩
end Go.Proofs.Ytpehjcbjcenaeaa
