/- The walk of FnCommentsStyledTwice. -/
import Derived.Test.YteiholpabgeajaaTwice
import Derived.Test.YteiholpabgeajaaSame
namespace Go.Proofs.Yteiholpabgeajaa
open Go.RowKit

def LimTo (els : List El) (k : Nat) : Prop := ∀ (j : Nat) e, j < k → els[j]? = some e → ElLim e
theorem LimTo.step {els : List El} {k : Nat} {e : El} (h : LimTo els k) (he : els[k]? = some e) (hs : ElLim e) : LimTo els (k + 1) := fun j x hj hx => by
  by_cases hjk : j < k
  · exact h j x hjk hx
  · obtain rfl : j = k := by omega
    rw [he] at hx
    cases hx
    exact hs
theorem pre_list (s : ByteArray) (k : Nat) : (s.extract 0 k).toList = s.data.toList.take k := by
  rw [ByteArray.toList_eq]
  simp

set_option maxRecDepth 100000 in
set_option maxHeartbeats 6400000 in
theorem lawTwice (A : Option Addr) (n c : Nat) (els : List El) (st ot : Int) (w : World) (h : ElsAt w w.heap.size A n els) (hnc : n ≤ c) (hcm : c ≤ maxLen) :
    Calls Try.prog 4 #[.slice A n c, .int .i64 st, .int .i64 ot] w fun r w' => r = .returned (.bool true) ∧ Below w.heap.size w w' := by
  have hnm : n ≤ maxLen := Nat.le_trans hnc hcm
  have hlen := h.2.1
  have HLEN := Lib.hid hlen
  have HNM := Lib.hid hnm
  have H := Lib.hid h
  have hnm' := hnm
  unfold maxLen at hnm'
  clear hcm hnc hnm hlen h
  go_enter Try.func4, Try.ntmps4
  go_wp2_with fail
  refine (fits7 A n c els w H.out).mono ?_
  rintro _ w1 ⟨b, rfl, hb1⟩
  cases b
  · go_wp2_with fail
    go_ret
    exact ⟨rfl, hb1⟩
  have HB1 := Lib.hid hb1
  have H1 := Lib.hid ((H.out.below hb1).more hb1.size)
  clear hb1
  go_wp2_with fail
  refine (plain_any A n c els w1 H1.out HNM.out).mono ?_
  rintro _ w2 ⟨b, rfl, hbP, hb2⟩
  have HB2 := Lib.hid (HB1.out.trans (hb2.mono HB1.out.size))
  have H2 := Lib.hid ((H1.out.below hb2).more hb2.size)
  have HP := Lib.hid hbP
  clear hb2 hbP
  cases b
  · go_wp2_with fail
    go_ret
    exact ⟨rfl, HB2.out⟩
  have HPL := Lib.hid (HP.out.1 rfl)
  clear HP
  go_wp2_with fail
  refine (signed_any A n c els w2 H2.out HNM.out).mono ?_
  rintro _ w2' ⟨b, rfl, hbS, rfl⟩
  have HS := Lib.hid hbS
  clear hbS
  cases b
  · go_wp2_with fail
    go_ret
    exact ⟨rfl, HB2.out⟩
  have HSG := Lib.hid (HS.out rfl)
  clear HS
  have hrange : st < 0 ∨ (0 ≤ st ∧ 1 < st) ∨ (0 ≤ st ∧ st ≤ 1 ∧ ot < 0) ∨ (0 ≤ st ∧ st ≤ 1 ∧ 0 ≤ ot ∧ 1 < ot) ∨ (0 ≤ st ∧ st ≤ 1 ∧ 0 ≤ ot ∧ ot ≤ 1) := by omega
  rcases hrange with h1 | ⟨h1, h2⟩ | ⟨h1, h2, h3⟩ | ⟨h1, h2, h3, h4⟩ | ⟨h1, h2, h3, h4⟩
  · go_wp2_with fail
    go_ret
    exact ⟨rfl, HB2.out⟩
  · go_wp2_with fail
    go_ret
    exact ⟨rfl, HB2.out⟩
  · go_wp2_with fail
    go_ret
    exact ⟨rfl, HB2.out⟩
  · go_wp2_with fail
    go_ret
    exact ⟨rfl, HB2.out⟩
  have hst : st = 0 ∨ st = 1 := by omega
  have hot : ot = 0 ∨ ot = 1 := by omega
  have HST := Lib.hid hst
  have HOT := Lib.hid hot
  have hn100 : n ≤ 200 := by have := HPL.out.2.1; have := HLEN.out; omega
  clear hst hot
  go_wp2_with fail
  go_loop [7] (fun i => ∃ k : Nat, k ≤ n ∧ i = .int .i64 k ∧ LimTo els k) (fun i => n - (intOf i).toNat)
  case atStart => exact ⟨0, Nat.zero_le _, rfl, fun j e hj => absurd hj (by omega)⟩
  case round =>
    obtain ⟨k, hk, rfl, hto⟩ := hrel
    have HT := Lib.hid hto
    clear hto
    by_cases hlt : k < n
    · obtain ⟨ad, e, rfl, hadb, hek, hok, hc0, hc1, hc2, hc3⟩ := H2.out.cellsAt hlt
      have HE := Lib.hid hek
      have HO := Lib.hid hok
      have hmax : e.n ≤ maxLen := Nat.le_trans hok.le hok.max
      unfold maxLen at hmax
      have hel := hok.len
      have HEL := Lib.hid hel
      clear hek hok hc0 hc1 hc2 hel
      by_cases hn0 : e.n = 0
      · have hst := HT.out.step HE.out (fun s hs => by
          have := (List.getElem?_eq_some_iff.1 hs).1
          have := HEL.out
          omega)
        have HST2 := Lib.hid hst
        have hd : decide (0 < e.n) = false := by simp; omega
        clear hst
        go_wp2_with fail
        go_round
        case rel => exact ⟨k + 1, by omega, by go_num, HST2.out⟩
        case measure => simp [intOf]; omega
      · obtain ⟨cd, u, hcA, _, hx, hcell⟩ := HO.out.com.at_ (show 0 < e.n by omega)
        rw [hcA] at hc3
        obtain ⟨s, hsm, rfl⟩ : ∃ s, e.cs[0]? = some s ∧ u = .string s := by
          rw [List.getElem?_map] at hx
          obtain ⟨s, h1, h2⟩ := Option.map_eq_some_iff.1 hx
          exact ⟨s, h1, h2.symm⟩
        have hsz := HO.out.strs s (List.mem_of_getElem? hsm)
        unfold maxLen at hsz
        have HS := Lib.hid hsm
        have hcell' : w2.cell? cd = some (.string s) := by simpa [Addr.add] using hcell
        have hn0' : 0 < e.n := by omega
        clear hx hsm hcA hcell
        by_cases hbig : 150 < s.size
        · go_wp2_with fail
          go_ret
          exact ⟨rfl, HB2.out⟩
        have hyes : LineLim s → LimTo els (k + 1) := fun hl => HT.out.step HE.out (fun t ht => by
          rw [HS.out] at ht
          cases ht
          exact hl)
        have HY := Lib.hid hyes
        clear hyes
        have e2 : s.data.toList.length = s.size := by simp
        have HE2 := Lib.hid e2
        clear e2
        rcases (show s.size ≤ 1 ∨ s.size = 2 ∨ 3 ≤ s.size by omega) with h0 | h0 | h0
        · have hlim : LineLim s := ⟨by omega, fun ⟨t, ht⟩ => by (have := HE2.out; rw [ht] at this; simp at this; omega), fun ⟨t, ht⟩ => by (have := HE2.out; rw [ht] at this; simp at this; omega)⟩
          have HLT := Lib.hid (HY.out hlim)
          clear hlim HY
          go_wp2_with fail
          go_round
          case rel => exact ⟨k + 1, by omega, by go_num, HLT.out⟩
          case measure => simp [intOf]; omega
        all_goals
          have hp2 := pre_list s 2
          have HP2 := Lib.hid hp2
          clear hp2
          obtain ⟨v, hv⟩ : ∃ v, ((s.extract 0 2).toList == [35, 33]) = v := ⟨_, rfl⟩
          cases v
        · have hlim : LineLim s := ⟨by omega, fun ⟨t, ht⟩ => by
              have := HP2.out
              rw [ht] at this
              rw [this] at hv
              exact absurd hv (by simp), fun ⟨t, ht⟩ => by (have := HE2.out; rw [ht] at this; simp at this; omega)⟩
          have HLT := Lib.hid (HY.out hlim)
          clear hlim HY
          go_wp2_with fail
          go_round
          case rel => exact ⟨k + 1, by omega, by go_num, HLT.out⟩
          case measure => simp [intOf]; omega
        · clear HY
          go_wp2_with fail
          go_ret
          exact ⟨rfl, HB2.out⟩
        · have hp3 := pre_list s 3
          have HP3 := Lib.hid hp3
          clear hp3
          obtain ⟨v3, hv3⟩ : ∃ v, ((s.extract 0 3).toList == [47, 47, 33]) = v := ⟨_, rfl⟩
          cases v3
          · have hlim : LineLim s := ⟨by omega, fun ⟨t, ht⟩ => by
                have := HP2.out
                rw [ht] at this
                rw [this] at hv
                exact absurd hv (by simp), fun ⟨t, ht⟩ => by
                have := HP3.out
                rw [ht] at this
                rw [this] at hv3
                exact absurd hv3 (by simp)⟩
            have HLT := Lib.hid (HY.out hlim)
            clear hlim HY
            go_wp2_with fail
            go_round
            case rel => exact ⟨k + 1, by omega, by go_num, HLT.out⟩
            case measure => simp [intOf]; omega
          · clear HY
            go_wp2_with fail
            go_ret
            exact ⟨rfl, HB2.out⟩
        · clear HY
          go_wp2_with fail
          go_ret
          exact ⟨rfl, HB2.out⟩
    · obtain rfl : k = n := by omega
      have hnice : Nice els := ⟨HPL.out, HSG.out, fun e he => by
        obtain ⟨i, hi⟩ := List.getElem?_of_mem he
        exact HT.out i e (by have := (List.getElem?_eq_some_iff.1 hi).1; have := HLEN.out; omega) hi, fun e he => (H2.out.2.2 e he).len⟩
      have HN := Lib.hid hnice
      clear hnice HPL HSG HT
      go_wp2_with fail
      refine (styled_any A k c els st w2 H2.out HN.out.good HN.out.can (HN.out.small st) hn100 HST.out).mono ?_
      rintro _ w3 ⟨Aa, ca, ea, rfl, hda, hea, hb3⟩
      have HDA := Lib.hid hda
      have HEA := Lib.hid hea
      have HB3 := Lib.hid (HB2.out.trans (hb3.mono HB2.out.size))
      have H3 := Lib.hid ((H2.out.below hb3).more hb3.size)
      clear hda hea hb3
      go_wp2_with fail
      refine (styled_any A k c els ot w3 H3.out HN.out.good HN.out.can (HN.out.small ot) hn100 HOT.out).mono ?_
      rintro _ w4 ⟨Ab, cb, eb, rfl, hdb, heb, hb4⟩
      have HDB := Lib.hid hdb
      have HEB := Lib.hid heb
      have HB4 := Lib.hid (HB3.out.trans (hb4.mono HB3.out.size))
      have HEA4 := Lib.hid ((HEA.out.below hb4).more hb4.size)
      clear hdb heb hb4
      have hnb := HN.out.styled HOT.out HDB.out (fun e he => (HEB.out.2.2 e he).len)
      have hna := HN.out.styled HST.out HDA.out (fun e he => (HEA.out.2.2 e he).len)
      have HNB := Lib.hid hnb
      have HNA := Lib.hid hna
      clear hnb hna
      go_wp2_with fail
      refine (plain_any Ab k cb eb w4 HEB.out HNM.out).mono ?_
      rintro _ w5 ⟨b, rfl, hbP, hb5⟩
      have hbt := hbP.2 HNB.out.1
      subst hbt
      have HB5 := Lib.hid (HB4.out.trans (hb5.mono HB4.out.size))
      have HEA5 := Lib.hid ((HEA4.out.below hb5).more hb5.size)
      have HEB5 := Lib.hid ((HEB.out.below hb5).more hb5.size)
      clear hbP hb5
      go_wp2_with fail
      refine (styled_any Ab k cb eb st w5 HEB5.out HNB.out.2.1 HNB.out.2.2.1 (HNB.out.2.2.2 st) hn100 HST.out).mono ?_
      rintro _ w6 ⟨Ac, cc, ec, rfl, hdc, hec, hb6⟩
      have HDC := Lib.hid (hdc.trans (HN.out.twice HST.out HOT.out HDB.out (fun e he => (HEB.out.2.2 e he).len)))
      have HEC := Lib.hid hec
      have HB6 := Lib.hid (HB5.out.trans (hb6.mono HB5.out.size))
      have HEA6 := Lib.hid ((HEA5.out.below hb6).more hb6.size)
      clear hdc hec hb6
      go_wp2_with fail
      refine (styled_any Aa k ca ea st w6 HEA6.out HNA.out.2.1 HNA.out.2.2.1 (HNA.out.2.2.2 st) hn100 HST.out).mono ?_
      rintro _ w7 ⟨Ad, cd, ed, rfl, hdd, hed, hb7⟩
      have HDD := Lib.hid (hdd.trans (HN.out.twice HST.out HST.out HDA.out (fun e he => (HEA.out.2.2 e he).len)))
      have HED := Lib.hid hed
      have HB7 := Lib.hid (HB6.out.trans (hb7.mono HB6.out.size))
      have HEA7 := Lib.hid ((HEA6.out.below hb7).more hb7.size)
      have HEC7 := Lib.hid ((HEC.out.below hb7).more hb7.size)
      clear hdd hed hb7
      go_wp2_with fail
      refine (sameFod Aa Ac k ca cc ea ec w7 HEA7.out HEC7.out (HDA.out.trans HDC.out.symm) hn100).mono ?_
      rintro _ w8 ⟨rfl, hb8⟩
      have HB8 := Lib.hid (HB7.out.trans (hb8.mono HB7.out.size))
      have HEA8 := Lib.hid ((HEA7.out.below hb8).more hb8.size)
      have HED8 := Lib.hid ((HED.out.below hb8).more hb8.size)
      clear hb8
      go_wp2_with fail
      refine (sameFod Aa Ad k ca cd ea ed w8 HEA8.out HED8.out (HDA.out.trans HDD.out.symm) hn100).mono ?_
      rintro _ w9 ⟨rfl, hb9⟩
      have HB9 := Lib.hid (HB8.out.trans (hb9.mono HB8.out.size))
      clear hb9
      go_wp2_with fail
      go_ret
      exact ⟨rfl, HB9.out⟩
end Go.Proofs.Yteiholpabgeajaa
