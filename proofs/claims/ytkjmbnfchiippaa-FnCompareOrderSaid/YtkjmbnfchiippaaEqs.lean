/- stringEqual on flat strings; TextCompare, TextEqual. -/
import Derived.Test.YtkjmbnfchiippaaCmp
namespace Go.Proofs.Ytkjmbnfchiippaa
open Go.RowKit

set_option maxRecDepth 100000 in
set_option maxHeartbeats 800000 in
theorem eq_any (r1 r2 : Addr) (l1 l2 : List Int) (v : Bool) (w : World) (h1 : FlatS w r1 l1) (h2 : FlatS w r2 l2) (hn1 : l1.length ≤ 2147483647) (hv : decide (cmpL l1 l2 = 0) = v) :
    Calls Try.prog 22 #[.iface 86 (.pointer (some r1)), .iface 86 (.pointer (some r2))] w fun e w' => e = .returned (.bool v) ∧ Below w.heap.size w w' := by
  obtain ⟨A, ca, hA, hAc⟩ := h1
  obtain ⟨B, cb, hB, hBc⟩ := h2
  have HA := Lib.hid hAc
  have HB := Lib.hid hBc
  have HV := Lib.hid hv
  clear hAc hBc hv
  by_cases hl : l1.length = l2.length
  · have HL := Lib.hid hl
    have hl' : (l1.length : Int) = l2.length := by omega
    clear hl
    go_enter Try.func22, Try.ntmps22
    go_wp2_with (go_at_call 68; refine (getRunes_any _ _ _ _ _ (by assumption)).mono ?_; rintro e w' ⟨rfl, rfl⟩)
    go_loopw [7] (fun i wr => ∃ k : Nat, k ≤ l1.length ∧ i = .int .i64 k ∧ cmpL (l1.drop k) (l2.drop k) = cmpL l1 l2 ∧ Below w.heap.size w wr) (fun i _ => l1.length - (intOf i).toNat)
    case atStart => exact ⟨0, Nat.zero_le _, rfl, rfl, Below.refl _ _⟩
    case round =>
      obtain ⟨k, hk, rfl, hcmp, hb⟩ := hrel
      have hL := HL.out
      by_cases hkm : k < l1.length
      · obtain ⟨x, hx⟩ : ∃ x, l1[k]? = some x := ⟨_, List.getElem?_eq_getElem (by omega)⟩
        obtain ⟨y, hy⟩ : ∃ y, l2[k]? = some y := ⟨_, List.getElem?_eq_getElem (by omega)⟩
        have cx := keeps hb (HA.out k x hx)
        have cy := keeps hb (HB.out k y hy)
        rw [cmpL_drop hx hy] at hcmp
        have hkA : (k : Int) < l1.length := by omega
        have hkB : (k : Int) < l2.length := by omega
        have HX := Lib.hid hcmp
        clear hcmp hx hy hL
        by_cases hxy : x = y
        · subst hxy
          go_wp2_with fail
          go_region_held3 (fun w' => w'.cell? (A.add k) = some (.int .i32 x) ∧ w'.cell? (B.add k) = some (.int .i32 x)) (go_keep) (fail)
          go_wp2_with fail
          go_roundw
          case rel => exact ⟨k + 1, by omega, by go_num, by rw [← HX.out]; simp, hb.drew⟩
          case measure => simp [intOf]; omega
        · have hne : v = false := by
            rw [← HV.out, ← HX.out, if_neg hxy]
            split <;> rfl
          have HN := Lib.hid hne
          clear hne
          go_wp2_with fail
          go_region_held3 (fun w' => w'.cell? (A.add k) = some (.int .i32 x) ∧ w'.cell? (B.add k) = some (.int .i32 y)) (go_keep) (fail)
          go_wp2_with fail
          go_ret
          exact ⟨by rw [HN.out]; rfl, hb.drew⟩
      · obtain rfl : k = l1.length := by omega
        rw [cmpL_end (.inl rfl) (Nat.le_refl _) (by omega), if_neg (by omega), if_neg (by omega)] at hcmp
        have hne : v = true := by
          rw [← HV.out, ← hcmp]; rfl
        have HN := Lib.hid hne
        clear hne hcmp hL
        go_wp2_with fail
        go_ret
        exact ⟨by rw [HN.out]; rfl, hb⟩
  · have hne : v = false := by
      rw [← HV.out, decide_eq_false_iff_not, cmpL_eq]
      intro e
      exact hl (by rw [e])
    have hl' : ¬ (l1.length : Int) = l2.length := by omega
    have HN := Lib.hid hne
    clear hne hl
    go_enter Try.func22, Try.ntmps22
    go_wp2_with (go_at_call 68; refine (getRunes_any _ _ _ _ _ (by assumption)).mono ?_; rintro e w' ⟨rfl, rfl⟩)
    go_ret
    exact ⟨by rw [HN.out]; rfl, Below.refl _ _⟩

/-- How two strings stand to each other. -/
def cmpS (a b : ByteArray) : Int := cmpL (runesOf a) (runesOf b)
theorem text_cmp (a b : ByteArray) (w : World) (ha : a.size ≤ 2147483647) (hb : b.size ≤ 2147483647) :
    Calls Try.prog 6 #[.string a, .string b] w fun e w' => e = .returned (.int .i64 (cmpS a b)) ∧ Below w.heap.size w w' := by
  have la := runesOf_length a
  have lb := runesOf_length b
  go_enter Try.func6, Try.ntmps6
  go_wp2_with fail
  refine Calls.mono (R := fun e w' => e = .returned (.int .i64 (cmpS a b)) ∧ Below w.heap.size w w') ?_ ?_
  · go_enter Try.func13, Try.ntmps13
    go_wp2_with fail
    refine (mkStr a _ (by omega)).mono ?_
    rintro e w1 ⟨r1, rfl, hf1, hb1⟩
    go_wp2_with fail
    refine (mkStr b _ (by omega)).mono ?_
    rintro e w2 ⟨r2, rfl, hf2, hb2⟩
    have hf1' := hf1.below hb2
    have hs := hb1.size
    have hs2 := hb2.size
    go_wp2_with fail
    refine (cmp_any r1 r2 _ _ _ hf1' hf2 (by omega) (by omega)).mono ?_
    rintro e w3 ⟨rfl, hb3⟩
    go_wp2_with fail
    go_ret
    exact ⟨rfl, (hb1.trans (hb2.mono hs)).trans (hb3.mono (by omega))⟩
  · rintro e w1 ⟨rfl, hb⟩
    go_wp2_with fail
    go_ret
    exact ⟨rfl, hb⟩
theorem text_eq (a b : ByteArray) (v : Bool) (w : World) (ha : a.size ≤ 2147483647) (hb : b.size ≤ 2147483647) (hv : decide (cmpS a b = 0) = v) :
    Calls Try.prog 7 #[.string a, .string b] w fun e w' => e = .returned (.bool v) ∧ Below w.heap.size w w' := by
  have la := runesOf_length a
  have lb := runesOf_length b
  have HV := Lib.hid hv
  clear hv
  go_enter Try.func7, Try.ntmps7
  go_wp2_with fail
  refine Calls.mono (R := fun e w' => e = .returned (.bool v) ∧ Below w.heap.size w w') ?_ ?_
  · go_enter Try.func14, Try.ntmps14
    go_wp2_with fail
    refine (mkStr a _ (by omega)).mono ?_
    rintro e w1 ⟨r1, rfl, hf1, hb1⟩
    go_wp2_with fail
    refine (mkStr b _ (by omega)).mono ?_
    rintro e w2 ⟨r2, rfl, hf2, hb2⟩
    have hf1' := hf1.below hb2
    have hs := hb1.size
    have hs2 := hb2.size
    go_wp2_with fail
    refine (eq_any r1 r2 _ _ v _ hf1' hf2 (by omega) HV.out).mono ?_
    rintro e w3 ⟨rfl, hb3⟩
    go_wp2_with fail
    go_ret
    exact ⟨rfl, (hb1.trans (hb2.mono hs)).trans (hb3.mono (by omega))⟩
  · rintro e w1 ⟨rfl, hb⟩
    go_wp2_with fail
    go_ret
    exact ⟨rfl, hb⟩
end Go.Proofs.Ytkjmbnfchiippaa
