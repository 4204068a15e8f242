/- The walk of FnStepsNothing. -/
import Derived.Test.YtmbaijkbchkjoaaDoorFewG
import Derived.Test.YtmbaijkbchkjoaaDoorPutG
import Derived.Test.YtmbaijkbchkjoaaDoorSameG
import Derived.Test.YtmbaijkbchkjoaaDoorFitsG
namespace Go.Proofs.YtmbaijkbchkjoaaDoor
open Go.RowKit Go.Maps

/-- The step that holds nothing. -/
def noSt : St := ⟨false, ⟨#[]⟩, none, 0, 0, [], none, 0, 0, []⟩
theorem noSt_ok (w : World) (B : Nat) : noSt.OK w B :=
  ⟨Reads.none_, Reads.none_, Nat.le_refl _, Nat.zero_le _, Nat.le_refl _, Nat.zero_le _, Nat.zero_le _, by simp [noSt], by simp [noSt]⟩
theorem noSt_fine : IFine noSt := ⟨rfl, Nat.zero_le _, by simp [noSt]⟩
theorem step_noSt (F : FF) : stepD F noSt.idata = F := by
  show F.over (simpleF [] []) = F
  rw [simpleF_nil, FF.over_none]
theorem chain_noSt (els : List St) (k : Nat) : chainD ((els.take k ++ noSt :: els.drop k).map St.idata) = chainD (els.map St.idata) := by
  have h : els.map St.idata = (els.take k).map St.idata ++ (els.drop k).map St.idata := by rw [← List.map_append, List.take_append_drop]
  unfold chainD
  rw [h, List.map_append, List.map_cons, List.foldl_append, List.foldl_append, List.foldl_cons, step_noSt]
theorem noSt_at (w : World) : StsAt (w.alloc (.cells #[.bool false, .string ⟨#[]⟩, .slice none 0 0, .slice none 0 0] 29)) (w.alloc (.cells #[.bool false, .string ⟨#[]⟩, .slice none 0 0, .slice none 0 0] 29)).heap.size (some ⟨w.heap.size, 0, none⟩) 1 [noSt] := by
  refine ⟨?_, rfl, fun e he => ?_⟩
  · have := Reads.of_block (heap_alloc_new w (.cells #[.bool false, .string ⟨#[]⟩, .slice none 0 0, .slice none 0 0] 29)) (n := 1) (size := 4) rfl
    have hs : (w.alloc (.cells #[.bool false, .string ⟨#[]⟩, .slice none 0 0, .slice none 0 0] 29)).heap.size = w.heap.size + 1 := by simp
    rw [hs]
    exact this
  · obtain rfl : e = noSt := by simpa using he
    exact noSt_ok _ _

attribute [local go_sem ↓] Go.wp_at_zero Go.wp_at_succ
set_option maxRecDepth 100000 in
set_option maxHeartbeats 3200000 in
theorem law_nothing (A : Option Addr) (n c k : Nat) (els : List St) (w : World) (h : StsAt w w.heap.size A n els) (hT : Tabs w) (hnc : n ≤ c) (hcm : c ≤ maxLen) (hk : k < 256) :
    Calls Tryd.prog 3 #[.slice A n c, .int .u8 k] w fun e w' => e = .returned (.bool true) ∧ Below w.heap.size w w' := by
  have H := Lib.hid h
  have HT := Lib.hid hT
  have HNC := Lib.hid hnc
  have HCM := Lib.hid hcm
  clear h hT hnc hcm
  have hk' : (k : Int) < 256 := by omega
  have hk0 : (0 : Int) ≤ k := by omega
  go_enter Tryd.func3, Tryd.ntmps3
  go_wp2_with fail
  refine (fits11 A n c els _ H.out).mono ?_
  rintro e w1 ⟨b, rfl, hb1⟩
  have HB1 := Lib.hid hb1
  clear hb1
  cases b with
  | false =>
    go_wp2_with fail
    go_ret
    exact ⟨rfl, HB1.out⟩
  | true =>
    go_wp2_with fail
    refine (fewSteps_any A n c els _ (H.out.below HB1.out) (HT.out.below HB1.out) (Nat.le_trans HNC.out HCM.out)).mono ?_
    rintro e w2 ⟨b, rfl, hok, hb2⟩
    have HB2 := Lib.hid (HB1.out.trans (hb2.mono HB1.out.size))
    have HOK := Lib.hid hok
    clear hb2 hok
    cases b with
    | false =>
      go_wp2_with fail
      go_ret
      exact ⟨rfl, HB2.out⟩
    | true =>
      have H12 := Lib.hid (HOK.out rfl).1
      have HF := Lib.hid (HOK.out rfl).2
      have h12 : (n : Int) ≤ 12 := by have := H12.out; omega
      obtain ⟨r, hr0⟩ : ∃ r, r = k % (n + 1) := ⟨_, rfl⟩
      have hrn : r ≤ n := by have := Nat.mod_lt k (show 0 < n + 1 by omega); omega
      have hmod : Int.tmod (k : Int) ((n : Int) + 1) = (r : Int) := by subst hr0; rfl
      have hb3 := (Below.refl w2.heap.size w2).alloc (Nat.le_refl _) (.cells #[.bool false, .string ⟨#[]⟩, .slice none 0 0, .slice none 0 0] 29)
      have H2 := Lib.hid (H.out.below HB2.out)
      have C := Lib.hid (put7_any A (some ⟨w2.heap.size, 0, none⟩) n c r 1 els noSt _ (H2.out.below hb3) (noSt_at w2) hrn HNC.out HCM.out H12.out)
      have HB3 := Lib.hid hb3
      have HRN := Lib.hid hrn
      have HR0 := Lib.hid hr0
      clear hb3 hrn hr0
      go_wp2_with fail
      refine C.out.mono ?_
      rintro e w4 ⟨A', c', rfl, hst, hb4⟩
      have HB4 := Lib.hid (HB3.out.trans (hb4.mono HB3.out.size))
      have HST := Lib.hid hst
      clear hst hb4 C
      go_wp2_with fail
      refine (sameSeen_any A' A (n + 1) c' n c _ els _ HST.out (H2.out.below HB4.out) ?_ HF.out (by have := H12.out; omega) (by have := H12.out; omega) (chain_noSt els r)).mono ?_
      · intro e he
        rcases List.mem_append.1 he with he | he
        · exact HF.out e (List.mem_of_mem_take he)
        · rcases List.mem_cons.1 he with rfl | he
          · exact noSt_fine
          · exact HF.out e (List.mem_of_mem_drop he)
      rintro e w5 ⟨rfl, hb5⟩
      have HB5 := Lib.hid (HB2.out.trans ((HB4.out.trans (hb5.mono HB4.out.size)).mono HB2.out.size))
      clear hb5
      go_wp2_with fail
      go_ret
      exact ⟨rfl, HB5.out⟩
end Go.Proofs.YtmbaijkbchkjoaaDoor
