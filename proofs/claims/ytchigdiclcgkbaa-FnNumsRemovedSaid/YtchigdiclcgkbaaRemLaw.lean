/- The walk of FnNumsRemoved. -/
import Derived.Test.YtchigdiclcgkbaaArrOps
namespace Go.Proofs.Ytchigdiclcgkbaa
open Go.RowKit

theorem take_app (xs ys : List Nat) (k : Nat) : (xs ++ ys).take (xs.length + k) ++ (xs ++ ys).drop (xs.length + k + 1) = xs ++ (ys.take k ++ ys.drop (k + 1)) := by
  rw [List.take_length_add_append, show xs.length + k + 1 = xs.length + (k + 1) by omega, List.drop_length_add_append, List.append_assoc]

set_option maxRecDepth 100000 in
set_option maxHeartbeats 1600000 in
theorem lawRemoved (A B : Option Addr) (n m c d : Nat) (xs ys : List Nat) (k : Nat) (w : World) (hx : NumsAt w A n xs) (hy : NumsAt w B m ys) (hk : k < 256) :
    Calls Try.prog 3 #[.slice A n c, .slice B m d, .int .u8 k] w fun e w' => e = .returned (.bool true) ∧ Below w.heap.size w w' := by
  have hxl := hx.len
  have hyl := hy.len
  have HX := Lib.hid hx
  have HY := Lib.hid hy
  clear hx hy
  rcases (show 2147483647 < n ∨ (n ≤ 2147483647 ∧ 2147483647 < m) ∨ (n ≤ 2147483647 ∧ m ≤ 2147483647) by omega) with hb | ⟨hb, hb'⟩ | ⟨hb, hb'⟩
  · go_enter Try.func3, Try.ntmps3
    go_wp2
    go_ret
    exact ⟨rfl, Below.refl _ _⟩
  · go_enter Try.func3, Try.ntmps3
    go_wp2
    go_ret
    exact ⟨rfl, Below.refl _ _⟩
  go_enter Try.func3, Try.ntmps3
  have hb1 := (Below.refl w.heap.size w).alloc (Nat.le_refl _) (.cells #[.slice A n c, .slice B m d] 22)
  have HB1 := Lib.hid hb1
  have hc0 : (w.alloc (.cells #[.slice A n c, .slice B m d] 22)).cell? ⟨w.heap.size, 0, none⟩ = some (.slice A n c) := by rw [cell_of_row _ w.heap.size 0 _ _ (0, 0) (heap_alloc_new w _)]; rfl
  have hc1 : (w.alloc (.cells #[.slice A n c, .slice B m d] 22)).cell? ⟨w.heap.size, 1, none⟩ = some (.slice B m d) := by rw [cell_of_row _ w.heap.size 1 _ _ (0, 0) (heap_alloc_new w _)]; rfl
  have C := Lib.hid (finite7_any w.heap.size A B n m c d xs ys _ (HX.out.below hb1) (HY.out.below hb1) hb hb' hc0 hc1 2)
  clear hb1 hc0 hc1
  go_wp2_with fail
  refine C.out.mono ?_
  rintro e w1 ⟨rfl, b, rfl, hfin⟩
  cases b
  · clear hfin
    go_wp2_with fail
    go_ret
    exact ⟨rfl, HB1.out⟩
  obtain ⟨hn2, hm2, hfx, hfy⟩ := hfin rfl
  have HFX := Lib.hid hfx
  have HFY := Lib.hid hfy
  clear hfx hfy hb hb'
  obtain ⟨w1, hw1⟩ : ∃ w1, w.alloc (.cells #[.slice A n c, .slice B m d] 22) = w1 := ⟨_, rfl⟩
  rw [hw1] at HB1 ⊢
  clear hw1 C
  have HX1 := Lib.hid (HX.out.below HB1.out)
  have HY1 := Lib.hid (HY.out.below HB1.out)
  by_cases hkm : m ≤ k
  · go_wp2_with fail
    go_ret
    exact ⟨rfl, HB1.out⟩
  have hkm' : k < m := by omega
  go_wp2_with fail
  refine (added_any A B n m c d xs ys w1 HX1.out HY1.out (by omega) (by omega)).mono ?_
  rintro e w2 ⟨A2, n2, c2, rfl, hn2', h2, hb2⟩
  have h2l := h2.len
  rw [List.length_append] at h2l
  have H2 := Lib.hid h2
  have HX2 := Lib.hid (HX1.out.below hb2)
  have HY2 := Lib.hid (HY1.out.below hb2)
  have HB2 := Lib.hid (HB1.out.trans (hb2.mono HB1.out.size))
  clear hn2' h2 hb2
  have R := Lib.hid (removed_any A2 n2 c2 (n + k) (xs ++ ys) w2 H2.out (by omega) (by omega))
  have hkk : ((n + k : Nat) : Int) = (n : Int) + (k : Int) := by omega
  rw [hkk] at R
  clear hkk
  go_wp2_with fail
  refine R.out.mono ?_
  rintro e w3 ⟨A3, n3, c3, rfl, hn3, h3, hb3⟩
  rw [← hxl, take_app] at hn3 h3
  have HN3 := Lib.hid hn3
  have H3 := Lib.hid h3
  have HX3 := Lib.hid (HX2.out.below hb3)
  have HY3 := Lib.hid (HY2.out.below hb3)
  have HB3 := Lib.hid (HB2.out.trans (hb3.mono HB2.out.size))
  clear hn3 h3 hb3 R
  go_wp2_with fail
  refine (removed_any B m d k ys w3 HY3.out (by omega) (by omega)).mono ?_
  rintro e w4 ⟨A4, n4, c4, rfl, hn4, h4, hb4⟩
  rw [List.length_append, List.length_take, List.length_drop] at hn4
  have hn4b : n4 ≤ 400 := by omega
  have H4 := Lib.hid h4
  have HX4 := Lib.hid (HX3.out.below hb4)
  have H34 := Lib.hid (H3.out.below hb4)
  have HB4 := Lib.hid (HB3.out.trans (hb4.mono HB3.out.size))
  clear h4 hb4 hn4
  go_wp2_with fail
  refine (added_any A A4 n n4 c c4 xs _ w4 HX4.out H4.out (by omega) (by omega)).mono ?_
  rintro e w5 ⟨A5, n5, c5, rfl, hn5, h5, hb5⟩
  have h35 := H34.out.below hb5
  have hnn : n5 = n3 := by rw [hn5, ← HN3.out]
  subst hnn
  have hle : n5 ≤ 1000 := by
    have := hn5
    rw [List.length_append, List.length_append, List.length_take, List.length_drop] at this
    omega
  have S := Lib.hid (same7_any A3 A5 n5 c3 c5 _ w5 h35 h5 hle (fun x hx => by
    rcases List.mem_append.1 hx with hx | hx
    · exact HFX.out x hx
    · rcases List.mem_append.1 hx with hx | hx
      · exact HFY.out x (List.mem_of_mem_take hx)
      · exact HFY.out x (List.mem_of_mem_drop hx)))
  have HB5 := Lib.hid (HB4.out.trans (hb5.mono HB4.out.size))
  clear hn5 h5 hb5 h35 hle
  go_wp2_with (go_at_call 7; refine S.out.mono ?_; rintro e w6 ⟨rfl, hb6⟩; have HB6 := Lib.hid (HB5.out.trans (hb6.mono HB5.out.size)); clear hb6)
  go_ret
  exact ⟨rfl, HB6.out⟩
end Go.Proofs.Ytchigdiclcgkbaa
