/- stringCmp, stringEqual on flat strings; TextCompare, TextEqual. -/
import Derived.Test.YtkjmbnfchiippaaStr
namespace Go.Proofs.Ytkjmbnfchiippaa
open Go.RowKit

set_option maxRecDepth 100000 in
set_option maxHeartbeats 800000 in
theorem cmp_any (r1 r2 : Addr) (l1 l2 : List Int) (w : World) (h1 : FlatS w r1 l1) (h2 : FlatS w r2 l2) (hn1 : l1.length ≤ 2147483647) (hn2 : l2.length ≤ 2147483647) :
    Calls Try.prog 20 #[.iface 86 (.pointer (some r1)), .iface 86 (.pointer (some r2))] w fun e w' => e = .returned (.int .i64 (cmpL l1 l2)) ∧ Below w.heap.size w w' := by
  obtain ⟨A, ca, hA, hAc⟩ := h1
  obtain ⟨B, cb, hB, hBc⟩ := h2
  have HA := Lib.hid hAc
  have HB := Lib.hid hBc
  clear hAc hBc
  obtain ⟨m, hm⟩ : ∃ m : Nat, (l1.length < l2.length ∧ m = l1.length) ∨ (¬ l1.length < l2.length ∧ m = l2.length) := by
    by_cases h : l1.length < l2.length
    · exact ⟨_, .inl ⟨h, rfl⟩⟩
    · exact ⟨_, .inr ⟨h, rfl⟩⟩
  have hm1 : m ≤ l1.length := by omega
  have hm2 : m ≤ l2.length := by omega
  have hm3 : m = l1.length ∨ m = l2.length := by omega
  have HM := Lib.hid hm3
  clear hm3
  rcases hm with ⟨hlt, hme⟩ | ⟨hlt, hme⟩
  all_goals
    go_enter Try.func20, Try.ntmps20
    go_wp2_with (go_at_call 68; refine (getRunes_any _ _ _ _ _ (by assumption)).mono ?_; rintro e w' ⟨rfl, rfl⟩)
    go_loopw [8] (fun i wr => ∃ k : Nat, k ≤ m ∧ i = .int .i64 k ∧ cmpL (l1.drop k) (l2.drop k) = cmpL l1 l2 ∧ Below w.heap.size w wr) (fun i _ => m - (intOf i).toNat)
    case atStart => exact ⟨0, Nat.zero_le _, rfl, rfl, Below.refl _ _⟩
    case round =>
      obtain ⟨k, hk, rfl, hcmp, hb⟩ := hrel
      by_cases hkm : k < m
      · obtain ⟨x, hx⟩ : ∃ x, l1[k]? = some x := ⟨_, List.getElem?_eq_getElem (by omega)⟩
        obtain ⟨y, hy⟩ : ∃ y, l2[k]? = some y := ⟨_, List.getElem?_eq_getElem (by omega)⟩
        have cx := keeps hb (HA.out k x hx)
        have cy := keeps hb (HB.out k y hy)
        rw [cmpL_drop hx hy] at hcmp
        have hkA : (k : Int) < l1.length := by omega
        have hkB : (k : Int) < l2.length := by omega
        have HX := Lib.hid hcmp
        clear hcmp hx hy
        by_cases hxy : x = y
        · subst hxy
          go_wp2_with fail
          go_region_held3 (fun w' => w'.cell? (A.add k) = some (.int .i32 x) ∧ w'.cell? (B.add k) = some (.int .i32 x)) (go_keep) (fail)
          go_wp2_with fail
          go_roundw
          case rel => exact ⟨k + 1, by omega, by go_num, by rw [← HX.out]; simp, hb.drew⟩
          case measure => simp [intOf]; omega
        · have hv : (if x < y then -1 else 1) = cmpL l1 l2 := by rw [← HX.out, if_neg hxy]
          obtain ⟨v, hve⟩ : ∃ v, v = cmpL l1 l2 := ⟨_, rfl⟩
          rw [← hve] at hv
          have HE := Lib.hid hve
          clear hve
          have HV := Lib.hid hv
          clear HX hv
          go_wp2_with fail
          go_region_held3 (fun w' => w'.cell? (A.add k) = some (.int .i32 x) ∧ w'.cell? (B.add k) = some (.int .i32 y)) (go_keep) (fail)
          go_wp2_with fail
          go_region_held3 (fun w' => w'.cell? (A.add k) = some (.int .i32 x) ∧ w'.cell? (B.add k) = some (.int .i32 y)) (go_keep) ((go_at_call 28; refine (runeCmp_any _ _ v _ hxy HV.out).mono ?_; rintro e w' ⟨rfl, rfl⟩))
          go_wp2_with fail
          go_ret
          exact ⟨by rw [← HE.out]; rfl, hb.drew.drew⟩
      · obtain rfl : k = m := by omega
        rw [cmpL_end HM.out hm1 hm2] at hcmp
        have hv : (if (l1.length : Int) < l2.length then -1 else if (l2.length : Int) < l1.length then 1 else 0) = cmpL l1 l2 := by
          rw [← hcmp]; simp
        obtain ⟨v, hve⟩ : ∃ v, v = cmpL l1 l2 := ⟨_, rfl⟩
        rw [← hve] at hv
        have HE := Lib.hid hve
        clear hve
        have HV := Lib.hid hv
        clear hcmp hv
        go_wp2_with fail
        refine (intCmp_any _ _ v _ HV.out).mono ?_
        rintro e w' ⟨rfl, rfl⟩
        go_wp2_with fail
        go_ret
        exact ⟨by rw [← HE.out]; rfl, hb⟩
end Go.Proofs.Ytkjmbnfchiippaa
