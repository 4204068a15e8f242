/- The walk of FnTextApart. -/
import Derived.Test.YtmopaolfimpohaaDoorText
namespace Go.Proofs.YtmopaolfimpohaaDoor
open Go.RowKit

theorem apart_out (a b : ByteArray) (w : World) (h : ¬ (a.size ≤ 1000 ∧ b.size ≤ 1000)) :
    Calls Tryd.prog 3 #[.string a, .string b] w fun e w' => e = .returned (.bool true) ∧ Below w.heap.size w w' := by
  have hc : 2147483647 < a.size ∨ (a.size ≤ 2147483647 ∧ 2147483647 < b.size) ∨ (1000 < a.size ∧ a.size ≤ 2147483647 ∧ b.size ≤ 2147483647) ∨ (a.size ≤ 1000 ∧ 1000 < b.size ∧ b.size ≤ 2147483647) := by omega
  clear h
  rcases hc with h | ⟨h1, h2⟩ | ⟨h1, h2, h3⟩ | ⟨h1, h2, h3⟩
  all_goals
    go_enter Tryd.func3, Tryd.ntmps3
    go_wp2_with fail
    go_ret
    exact ⟨rfl, Below.refl _ _⟩

theorem textB_inj {a b : ByteArray} (h1 : Lib.validD a.data.toList = true) (h2 : Lib.validD b.data.toList = true) (h : textB a = textB b) : a = b := by
  have e := congrArg (fun s : ByteArray => s.data.toList) h
  have := textL_inj h1 h2 (by simpa [textB] using e)
  exact ByteArray.ext (Array.toList_inj.1 this)
theorem textB_size (a : ByteArray) : 1 < (textB a).size := by
  have := (textL_len a.data.toList).1
  show 1 < (textL a.data.toList).toArray.size
  simp
  omega
theorem ne_list {a b : ByteArray} (h : ¬ a = b) : ¬ a.toList = b.toList := by
  intro e
  rw [ByteArray.toList_eq, ByteArray.toList_eq] at e
  exact h (ByteArray.ext (Array.toList_inj.1 e))

set_option maxRecDepth 100000 in
theorem apart_in (a b : ByteArray) (w : World) (ha : a.size ≤ 1000) (hb : b.size ≤ 1000) (h : Tabs w) :
    Calls Tryd.prog 3 #[.string a, .string b] w fun e w' => e = .returned (.bool true) ∧ Below w.heap.size w w' := by
  have k1 : a.size ≤ 2147483647 := by omega
  have k2 : b.size ≤ 2147483647 := by omega
  have H := Lib.hid h
  clear h
  obtain ⟨va, hva⟩ : ∃ v, Lib.validD a.data.toList = v := ⟨_, rfl⟩
  obtain ⟨vb, hvb⟩ : ∃ v, Lib.validD b.data.toList = v := ⟨_, rfl⟩
  have V1 := Lib.hid (fun W (hW : Tabs W) => valid_any a W ha hW)
  have V2 := Lib.hid (fun W (hW : Tabs W) => valid_any b W hb hW)
  rw [hva] at V1
  rw [hvb] at V2
  have HVA := Lib.hid hva
  have HVB := Lib.hid hvb
  clear hva hvb
  go_enter Tryd.func3, Tryd.ntmps3
  go_wp2_with fail
  refine (V1.out _ H.out).mono ?_
  rintro e w1 ⟨rfl, hb1⟩
  cases va
  · go_wp2_with fail
    go_ret
    exact ⟨rfl, hb1⟩
  have T1 := Lib.hid (H.out.below hb1)
  go_wp2_with fail
  refine (V2.out _ T1.out).mono ?_
  rintro e w2 ⟨rfl, hb2⟩
  have hbb := hb1.trans (hb2.mono hb1.size)
  have HBB := Lib.hid hbb
  have T2 := Lib.hid (T1.out.below hb2)
  clear hb2 hbb hb1
  cases vb
  · go_wp2_with fail
    go_ret
    exact ⟨rfl, HBB.out⟩
  go_wp2_with fail
  refine (text_any a ha _ T2.out.1).mono ?_
  rintro e w3 ⟨rfl, hb3⟩
  have T3 := Lib.hid (T2.out.below hb3)
  have HB3 := Lib.hid (HBB.out.trans (hb3.mono HBB.out.size))
  clear hb3
  have C := Lib.hid (text_any b hb w3 T3.out.1)
  have hsz := textB_size a
  by_cases heq : a = b
  · subst heq
    go_wp2_with fail
    refine C.out.mono ?_
    rintro e w4 ⟨rfl, hb4⟩
    go_wp2_with fail
    go_ret
    exact ⟨by simp, HB3.out.trans (hb4.mono HB3.out.size)⟩
  · have hne := ne_list (fun e => heq (textB_inj HVA.out HVB.out e) : ¬ textB a = textB b)
    have hne2 := ne_list heq
    clear heq
    go_wp2_with fail
    refine C.out.mono ?_
    rintro e w4 ⟨rfl, hb4⟩
    go_wp2_with fail
    go_ret
    exact ⟨by rw [beq_eq_false_iff_ne.2 hne, beq_eq_false_iff_ne.2 hne2]; rfl, HB3.out.trans (hb4.mono HB3.out.size)⟩

/-- The law returns true for every two strings. -/
theorem law_apart (a b : ByteArray) (w : World) (h : Tabs w) :
    Calls Tryd.prog 3 #[.string a, .string b] w fun e w' => e = .returned (.bool true) ∧ Below w.heap.size w w' := by
  by_cases hs : a.size ≤ 1000 ∧ b.size ≤ 1000
  · exact apart_in a b w hs.1 hs.2 h
  · exact apart_out a b w hs
end Go.Proofs.YtmopaolfimpohaaDoor
