/- laws.fewSteps. -/
import Derived.Test.YtmbaijkbchkjoaaDoorOKG
import Derived.Test.YtmbaijkbchkjoaaDoorImplC
namespace Go.Proofs.YtmbaijkbchkjoaaDoor
open Go.RowKit

def FewOk (n : Nat) (els : List St) (w : World) (e : Ending) (w' : World) : Prop := ∃ b, e = .returned (.bool b) ∧ (b = true → n ≤ 12 ∧ ∀ e ∈ els, IFine e) ∧ Below w.heap.size w w'

attribute [local go_sem ↓] Go.wp_at_zero Go.wp_at_succ
set_option maxRecDepth 100000 in
set_option maxHeartbeats 3200000 in
theorem fewSteps_any (A : Option Addr) (n c : Nat) (els : List St) (w : World) (h : StsAt w w.heap.size A n els) (hT : Tabs w) (hmax : n ≤ maxLen) :
    Calls Tryd.prog 5 #[.slice A n c] w (FewOk n els w) := by
  have H := Lib.hid h
  have HT := Lib.hid hT
  clear h hT
  unfold maxLen at hmax
  go_enter Tryd.func5, Tryd.ntmps5
  go_wp2_with fail
  go_loopw [3] (fun vi wr => ∃ k : Nat, vi = .int .i64 k ∧ k ≤ n ∧ (∀ (i : Nat) e, i < k → els[i]? = some e → e.n ≤ 12) ∧ wr = w) (fun vi _ => n - (intOf vi).toNat)
  case atStart => exact ⟨0, rfl, Nat.zero_le _, fun i e hi => absurd hi (by omega), rfl⟩
  case round =>
    obtain ⟨k, rfl, hk, hgood, rfl⟩ := hrel
    have HG := Lib.hid hgood
    clear hgood
    by_cases hlt : k < n
    · obtain ⟨ad, e, hA, hadb, hek, hc0, hc1, hc2, hc3⟩ := four_cells four H.out.1 H.out.2.1 hlt
      subst hA
      have HEK := Lib.hid hek
      obtain ⟨eis, erem, eA, en, ec, ens, eB, em, ed, ehs⟩ := e
      have g2 : wr.cell? ⟨(ad.add (k * 4)).block, (ad.add (k * 4)).off + 2, none⟩ = some (.slice eA en ec) := hc2
      have hkn : (k : Int) < n := by omega
      clear hek hc0 hc1 hc2 hc3
      by_cases hbig : 12 < en
      · have hbig' : (12 : Int) < en := by omega
        go_wp2_with fail
        go_ret
        exact ⟨false, rfl, by simp, Below.refl _ _⟩
      · have hbig' : ¬ (12 : Int) < en := by omega
        go_wp2_with fail
        go_roundw
        case rel =>
          refine ⟨k + 1, by go_num, by omega, fun i e hi he => ?_, by trivial⟩
          by_cases hik : i < k
          · exact HG.out i e hik he
          · obtain rfl : i = k := by omega
            rw [HEK.out] at he
            cases he
            exact Nat.le_of_not_lt hbig
        case measure => simp [intOf]; omega
    · obtain rfl : k = n := by omega
      have HK : Hid (∀ e ∈ els, e.n ≤ 12) := by
        intro e he
        obtain ⟨i, hi⟩ := List.getElem?_of_mem he
        exact HG.out i e (by have := (List.getElem?_eq_some_iff.1 hi).1; have := H.out.2.1; omega) hi
      by_cases h12 : k ≤ 12
      · have h12' : (k : Int) ≤ 12 := by omega
        go_wp2_with fail
        refine (stepsOK_any A k c els _ H.out HT.out h12 HK.out).mono ?_
        rintro e w1 ⟨b, rfl, hb1, hb2⟩
        have HB := Lib.hid hb1
        clear hb1
        go_wp2_with fail
        go_ret
        refine ⟨b, rfl, fun hb => ⟨h12, fun e he => ?_⟩, hb2⟩
        obtain ⟨x1, x2⟩ := HB.out hb e he
        exact ⟨x1, HK.out e he, x2⟩
      · have h12' : ¬ (k : Int) ≤ 12 := by omega
        go_wp2_with fail
        go_ret
        exact ⟨false, rfl, by simp, Below.refl _ _⟩
end Go.Proofs.YtmbaijkbchkjoaaDoor
