/- laws.sameNames7, laws.sameSeen7: yes. -/
import Derived.Test.YtmbaijkbchkjoaaDoorVis
import Derived.BigQuiet
namespace Go.Proofs.YtmbaijkbchkjoaaDoor
open Go.RowKit Go.Maps

theorem below_drewS {B : Nat} {a w : World} (h : Below B a w) (n : Nat) : Below B a (w.drewN n) := h.trans ⟨rfl, rfl, rfl, Nat.le_refl _, fun _ _ => rfl⟩
theorem map_atS {α : Type} {f : α → Value} {xs : List α} {i : Nat} {u : Value} (h : (xs.map f)[i]? = some u) : ∃ x, xs[i]? = some x ∧ u = f x := by
  rw [List.getElem?_map] at h
  obtain ⟨x, h1, h2⟩ := Option.map_eq_some_iff.1 h
  exact ⟨x, h1, h2.symm⟩

attribute [local go_sem ↓] Go.wp_at_zero Go.wp_at_succ
set_option maxRecDepth 100000 in
set_option maxHeartbeats 3200000 in
theorem sameNames_any (A B : Option Addr) (n c d : Nat) (L : List (List UInt8)) (w : World) (h1 : Reads w w.heap.size 1 A n (L.map encStr)) (h2 : Reads w w.heap.size 1 B n (L.map encStr)) (hmax : n ≤ 240) :
    Calls Tryd.prog 11 #[.slice A n c, .slice B n d] w fun e w' => e = .returned (.bool true) ∧ Below w.heap.size w w' := by
  have H1 := Lib.hid h1
  have H2 := Lib.hid h2
  clear h1 h2
  go_enter Tryd.func11, Tryd.ntmps11
  go_wp2_with fail
  go_loopw [5] (fun vi wr => ∃ k : Nat, vi = .int .i64 k ∧ k ≤ n ∧ Below w.heap.size w wr) (fun vi _ => n - (intOf vi).toNat)
  case atStart => exact ⟨0, rfl, Nat.zero_le _, Below.refl _ _⟩
  case round =>
    obtain ⟨k, rfl, hk, hb⟩ := hrel
    obtain ⟨wq, rfl⟩ : ∃ wq, wq = wr := ⟨_, rfl⟩
    have HB := Lib.hid hb
    by_cases hlt : k < n
    · obtain ⟨a1, u, hA, _, hx, hc1⟩ := (H1.out.below hb).at_ hlt
      obtain ⟨s, hs, rfl⟩ := map_atS hx
      obtain ⟨a2, u, hB2, _, hx2, hc2⟩ := (H2.out.below hb).at_ hlt
      obtain ⟨s', hs', rfl⟩ := map_atS hx2
      rw [hs] at hs'
      cases hs'
      subst hA hB2
      unfold encStr at hc1 hc2
      have hkn : (k : Int) < n := by omega
      clear hx hx2 hs hb hk
      go_wp2_with fail
      go_quiet (fail)
      go_wp2_with fail
      go_roundw
      case rel => exact ⟨k + 1, by go_num, by omega, below_drewS HB.out _⟩
      case measure => simp [intOf]; omega
    · obtain rfl : k = n := by omega
      go_wp2_with fail
      go_ret
      exact ⟨rfl, HB.out⟩

set_option maxRecDepth 100000 in
set_option maxHeartbeats 3200000 in
theorem sameSeen_any (A A' : Option Addr) (n c n' c' : Nat) (els els' : List St) (w : World) (h : StsAt w w.heap.size A n els) (h' : StsAt w w.heap.size A' n' els') (hf : ∀ e ∈ els, IFine e) (hf' : ∀ e ∈ els', IFine e)
    (hn : n ≤ 20) (hn' : n' ≤ 20) (hF : chainD (els.map St.idata) = chainD (els'.map St.idata)) :
    Calls Tryd.prog 6 #[.slice A n c, .slice A' n' c'] w fun e w' => e = .returned (.bool true) ∧ Below w.heap.size w w' := by
  have H := Lib.hid h
  have H' := Lib.hid h'
  have HF := Lib.hid hf
  have HF' := Lib.hid hf'
  have HE := Lib.hid hF
  clear h h' hf hf' hF
  go_enter Tryd.func6, Tryd.ntmps6
  go_wp2_with fail
  refine (visible_any A n c els _ H.out HF.out hn).mono ?_
  rintro e w1 ⟨D, A1, n1, c1, B1, m1, d1, rfl, hC, hR, hr1, hr2, h240, hb1⟩
  have HC := Lib.hid hC
  have HR := Lib.hid hR
  have X1 := Lib.hid hr1
  have X2 := Lib.hid hr2
  have X3 := Lib.hid h240
  have HB1 := Lib.hid hb1
  have H1' := Lib.hid (H'.out.below hb1)
  clear hC hR hr1 hr2 h240 hb1
  go_wp2_with fail
  refine (visible_any A' n' c' els' _ H1'.out HF'.out hn').mono ?_
  rintro e w2 ⟨D', A2, n2, c2, B2, m2, d2, rfl, hC, hR, hr1, hr2, h240, hb2⟩
  obtain rfl := RF.one HR.out (by rw [HE.out]; exact hR) HC.out hC
  obtain ⟨L, hL⟩ : ∃ L, L = namesOf D := ⟨_, rfl⟩
  obtain ⟨G, hG⟩ : ∃ G, G = (L.map (seenAt (chainD (els'.map St.idata)))) := ⟨_, rfl⟩
  have y1 := X1.out
  have y2 := X2.out
  rw [HE.out] at y2
  have y3 := X3.out
  rw [← hL] at y1 y2 y3 hr1 hr2
  rw [← hG] at y2 hr2
  obtain rfl : n1 = L.length := by have := y1.1; simpa using this.symm
  obtain rfl : n2 = L.length := by have := hr1.1; simpa using this.symm
  obtain rfl : m1 = L.length := by have := y2.1; simpa [hG] using this.symm
  obtain rfl : m2 = L.length := by have := hr2.1; simpa [hG] using this.symm
  obtain ⟨N, hN⟩ : ∃ N, N = L.length := ⟨_, rfl⟩
  rw [← hN] at y1 y2 y3 hr1 hr2 ⊢
  have Y1 := Lib.hid ((y1.below hb2).more hb2.size)
  have Y2 := Lib.hid ((y2.below hb2).more hb2.size)
  have Z1 := Lib.hid hr1
  have Z2 := Lib.hid hr2
  have HB2 := Lib.hid (HB1.out.trans (hb2.mono HB1.out.size))
  clear y1 y2 hr1 hr2 hC hR h240 hb2 hN hG hL HR HC X1 X2 X3 HE
  go_wp2_with fail
  refine (sameNames_any A1 A2 N c1 c2 L _ Y1.out Z1.out y3).mono ?_
  rintro e w3 ⟨rfl, hb3⟩
  have Y3 := Lib.hid ((Y2.out.below hb3).more hb3.size)
  have Z3 := Lib.hid ((Z2.out.below hb3).more hb3.size)
  have HB3 := Lib.hid (HB2.out.trans (hb3.mono HB2.out.size))
  clear hb3
  go_wp2_with fail
  go_loopw [11] (fun vi wr => ∃ k : Nat, vi = .int .i64 k ∧ k ≤ N ∧ Below w3.heap.size w3 wr) (fun vi _ => N - (intOf vi).toNat)
  case atStart => exact ⟨0, rfl, Nat.zero_le _, Below.refl _ _⟩
  case round =>
    obtain ⟨k, rfl, hk, hb⟩ := hrel
    obtain ⟨wq, rfl⟩ : ∃ wq, wq = wr := ⟨_, rfl⟩
    have HB := Lib.hid hb
    by_cases hlt : k < N
    · obtain ⟨a1, u, hA, _, hx, hc1⟩ := (Y3.out.below hb).at_ hlt
      obtain ⟨s, hs, rfl⟩ := map_atS hx
      obtain ⟨a2, u, hB2, _, hx2, hc2⟩ := (Z3.out.below hb).at_ hlt
      obtain ⟨s', hs', rfl⟩ := map_atS hx2
      rw [hs] at hs'
      cases hs'
      subst hA hB2
      have hkn : (k : Int) < N := by omega
      clear hx hx2 hs hb hk
      go_wp2_with fail
      go_quiet (fail)
      go_wp2_with fail
      go_roundw
      case rel => exact ⟨k + 1, by go_num, by omega, below_drewS HB.out _⟩
      case measure => simp [intOf]; omega
    · obtain rfl : k = N := by omega
      go_wp2_with fail
      go_ret
      exact ⟨rfl, HB3.out.trans (HB.out.mono HB3.out.size)⟩
end Go.Proofs.YtmbaijkbchkjoaaDoor
