/- The walk of FnFoldExact. -/
import Derived.Test.YtkjmbnfchiippaaDoorFoldEq
namespace Go.Proofs.YtkjmbnfchiippaaDoor
open Go.RowKit

theorem fold_out (a b : ByteArray) (w : World) (h : ¬ (a.size ≤ 2000 ∧ b.size ≤ 2000)) :
    Calls Tryd.prog 3 #[.string a, .string b] w fun e w' => e = .returned (.bool true) ∧ Below w.heap.size w w' := by
  have hc : 2147483647 < a.size ∨ (a.size ≤ 2147483647 ∧ 2147483647 < b.size) ∨ (2000 < a.size ∧ a.size ≤ 2147483647 ∧ b.size ≤ 2147483647) ∨ (a.size ≤ 2000 ∧ 2000 < b.size ∧ b.size ≤ 2147483647) := by omega
  clear h
  rcases hc with h | ⟨h1, h2⟩ | ⟨h1, h2, h3⟩ | ⟨h1, h2, h3⟩
  all_goals
    go_enter Tryd.func3, Tryd.ntmps3
    go_wp2_with fail
    go_ret
    exact ⟨rfl, Below.refl _ _⟩

set_option maxRecDepth 100000 in
theorem fold_in (a b : ByteArray) (w : World) (ha : a.size ≤ 2000) (hb : b.size ≤ 2000) :
    Calls Tryd.prog 3 #[.string a, .string b] w fun e w' => e = .returned (.bool true) ∧ Below w.heap.size w w' := by
  have k1 : a.size ≤ 2147483647 := by omega
  have k2 : b.size ≤ 2147483647 := by omega
  go_enter Tryd.func3, Tryd.ntmps3
  go_wp2_with fail
  refine (folded_any a _ ha).mono ?_
  rintro e w1 ⟨hb1, h1⟩
  have H1 := Lib.hid h1
  clear h1
  rcases H1.out with ⟨hA, rfl⟩ | rfl
  · have HA := Lib.hid hA
    clear hA H1
    go_wp2_with fail
    refine (folded_any b _ hb).mono ?_
    rintro e w2 ⟨hb2, h2⟩
    have hbb := hb1.trans (hb2.mono hb1.size)
    rcases h2 with ⟨hB, rfl⟩ | rfl
    · have HB := Lib.hid hB
      clear hB
      go_wp2_with fail
      by_cases heq : lowS a = lowS b
      · refine (textFold a b true _ ha hb HA.out HB.out (by simp [heq])).mono ?_
        rintro e w3 ⟨rfl, hb3⟩
        rw [heq]
        clear heq
        go_wp2_with fail
        go_ret
        exact ⟨by simp, hbb.trans (hb3.mono hbb.size)⟩
      · refine (textFold a b false _ ha hb HA.out HB.out (by simp [heq])).mono ?_
        rintro e w3 ⟨rfl, hb3⟩
        have hne : ¬ (lowS a).toList = (lowS b).toList := by
          intro e
          rw [ByteArray.toList_eq, ByteArray.toList_eq] at e
          exact heq (ByteArray.ext (Array.toList_inj.1 e))
        clear heq
        go_wp2_with fail
        go_ret
        exact ⟨by simpa using hne, hbb.trans (hb3.mono hbb.size)⟩
    · go_wp2_with fail
      go_ret
      exact ⟨rfl, hbb⟩
  · clear H1
    go_wp2_with fail
    refine (folded_any b _ hb).mono ?_
    rintro e w2 ⟨hb2, h2⟩
    have hbb := hb1.trans (hb2.mono hb1.size)
    rcases h2 with ⟨hB, rfl⟩ | rfl
    · clear hB
      go_wp2_with fail
      go_ret
      exact ⟨rfl, hbb⟩
    · go_wp2_with fail
      go_ret
      exact ⟨rfl, hbb⟩

/-- The law returns true for every two strings. -/
theorem law_fold (a b : ByteArray) (w : World) :
    Calls Tryd.prog 3 #[.string a, .string b] w fun e w' => e = .returned (.bool true) ∧ Below w.heap.size w w' := by
  by_cases h : a.size ≤ 2000 ∧ b.size ≤ 2000
  · exact fold_in a b w h.1 h.2
  · exact fold_out a b w h
end Go.Proofs.YtkjmbnfchiippaaDoor
