/- The walk of FnFodderTextLines. -/
import Derived.Test.YteiholpabgeajaaDoorFodText
namespace Go.Proofs.YteiholpabgeajaaDoor
open Go.RowKit

set_option maxRecDepth 100000 in
set_option maxHeartbeats 1600000 in
theorem lawText (A : Option Addr) (n c : Nat) (els : List El) (cr sp : Bool) (w : World) (h : ElsAt w w.heap.size A n els) (hnc : n ≤ c) (hcm : c ≤ maxLen) :
    Calls Tryd.prog 3 #[.slice A n c, .bool cr, .bool sp] w fun r w' => r = .returned (.bool true) ∧ Below w.heap.size w w' := by
  have hnm : n ≤ maxLen := Nat.le_trans hnc hcm
  have HLEN := Lib.hid h.2.1
  have HNM := Lib.hid hnm
  have H := Lib.hid h
  have hnm' := hnm
  unfold maxLen at hnm'
  clear hcm hnc hnm h
  go_enter Tryd.func3, Tryd.ntmps3
  go_wp2_with fail
  refine (fits7 A n c els w H.out).mono ?_
  rintro _ w1 ⟨b, rfl, hb1⟩
  cases b
  · go_wp2_with fail
    go_ret
    exact ⟨rfl, hb1⟩
  have HB1 := Lib.hid hb1
  have H1 := Lib.hid ((H.out.below hb1).more hb1.size)
  clear hb1
  go_wp2_with fail
  refine (plain_any A n c els w1 H1.out HNM.out).mono ?_
  rintro _ w2 ⟨b, rfl, hbP, hb2⟩
  have HB2 := Lib.hid (HB1.out.trans (hb2.mono HB1.out.size))
  have H2 := Lib.hid ((H1.out.below hb2).more hb2.size)
  have HP := Lib.hid hbP
  clear hb2 hbP
  cases b
  · go_wp2_with fail
    go_ret
    exact ⟨rfl, HB2.out⟩
  have HPL := Lib.hid (HP.out.1 rfl)
  clear HP
  have hn100 : n ≤ 100 := by have := HPL.out.2.1; have := HLEN.out; omega
  go_wp2_with fail
  go_loop [7] (fun i => ∃ k : Nat, k ≤ n ∧ i = .int .i64 k ∧ ∀ (j : Nat) e, j < k → els[j]? = some e → e.blanks = 0) (fun i => n - (intOf i).toNat)
  case atStart => exact ⟨0, Nat.zero_le _, rfl, fun j e hj => absurd hj (by omega)⟩
  case round =>
    obtain ⟨k, hk, rfl, hto⟩ := hrel
    have HT := Lib.hid hto
    clear hto
    by_cases hlt : k < n
    · obtain ⟨ad, e, rfl, hadb, hek, hok, hc0, hc1, hc2, hc3⟩ := H2.out.cellsAt hlt
      have hge := (HPL.out.2.2.1 e (List.mem_of_getElem? hek)).1
      have HE := Lib.hid hek
      clear hek hok hc0 hc2 hc3
      by_cases hbl : 0 < e.blanks
      · go_wp2_with fail
        go_ret
        exact ⟨rfl, HB2.out⟩
      · go_wp2_with fail
        go_round
        case rel =>
          refine ⟨k + 1, by omega, by go_num, fun j x hj hx => ?_⟩
          by_cases hjk : j < k
          · exact HT.out j x hjk hx
          · obtain rfl : j = k := by omega
            rw [HE.out] at hx
            cases hx
            omega
        case measure => simp [intOf]; omega
    · obtain rfl : k = n := by omega
      have hbl : ∀ e ∈ els, e.blanks = 0 := fun e he => by
        obtain ⟨i, hi⟩ := List.getElem?_of_mem he
        exact HT.out i e (by have := (List.getElem?_eq_some_iff.1 hi).1; have := HLEN.out; omega) hi
      have HBL := Lib.hid hbl
      clear hbl
      go_wp2_with fail
      refine (text_any A k c els cr sp w2 H2.out HPL.out.2.2.1 HBL.out HPL.out.1 (by omega)).mono ?_
      rintro _ w3 ⟨s, rfl, hs, hz, hb3⟩
      have HS := Lib.hid hs
      have HZ := Lib.hid hz
      have H3 := Lib.hid ((H2.out.below hb3).more hb3.size)
      have HB3 := Lib.hid (HB2.out.trans (hb3.mono HB2.out.size))
      clear hs hz hb3
      go_wp2_with fail
      refine (lines_any A k c els w3 H3.out HPL.out.2.2.1 (by omega)).mono ?_
      rintro _ w4 ⟨rfl, hb4⟩
      have HB4 := Lib.hid (HB3.out.trans (hb4.mono HB3.out.size))
      clear hb4
      obtain ⟨t, ht⟩ : ∃ t, linesOf els = t := ⟨_, rfl⟩
      rw [ht]
      have HT2 := Lib.hid ht
      clear ht
      have hft : ((feeds s : Nat) : Int) = t := HS.out.trans HT2.out
      obtain ⟨f, hf⟩ : ∃ f : Nat, feeds s = f := ⟨_, rfl⟩
      have C := Lib.hid (fun W => feeds_any s W HZ.out)
      rw [hf] at hft C
      clear hf HS
      subst hft
      go_wp2_with (go_at_call 8; refine (C.out _).mono ?_; rintro _ w5 ⟨rfl, rfl⟩)
      go_ret
      exact ⟨rfl, HB4.out⟩
end Go.Proofs.YteiholpabgeajaaDoor
