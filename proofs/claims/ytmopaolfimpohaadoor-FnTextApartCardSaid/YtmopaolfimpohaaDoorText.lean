/- unparseString: a string as it is written; StringText, Text; utf8.ValidString by its contract. -/
import Derived.Test.YtmopaolfimpohaaDoorFmt
import Derived.Test.YtmopaolfimpohaaDoorShelf
import Derived.Lib.OthersKept
import Derived.Lib.BufferOld
namespace Go.Proofs.YtmopaolfimpohaaDoor
open Go.RowKit

/-- The library's tables lie. -/
def Tabs (w : World) : Prop := DB w ∧ Lib.Utf8Tabs (Tryd.lays196_ren.g 3) (Tryd.lays196_ren.g 4) w
theorem DB.below {w w' : World} (h : DB w) (hb : Below w.heap.size w w') : DB w' := keeps hb h
theorem Tabs.below {w w' : World} (h : Tabs w) (hb : Below w.heap.size w w') : Tabs w' :=
  ⟨h.1.below hb, fun c hc => keeps hb (h.2.1 c hc), fun i hi => ⟨keeps hb (h.2.2 i hi).1, keeps hb (h.2.2 i hi).2⟩⟩
theorem valid_any (s : ByteArray) (w : World) (hs : s.size ≤ 1000) (h : Tabs w) :
    Calls Tryd.prog 4 #[.string s] w fun e w' => e = .returned (.bool (Lib.validD s.data.toList)) ∧ Below w.heap.size w w' :=
  Any.utf8_ValidString Tryd.lays196 s w (by omega) h.2

/-- Where the loop stands. -/
def TR (s : ByteArray) (w : World) (K : Nat) (wr : World) : Prop :=
  ∃ (pos b : Nat) (done : List UInt8), pos ≤ s.size ∧ wr.heap[K]? = some (.stringIter s pos) ∧ Lib.IsBuffer 36 5 w.heap.size w.heap.size (Lib.byteCells (34 :: done)) wr ∧
    done ++ body b (s.data.toList.drop pos) = body s.size s.data.toList ∧ s.size ≤ pos + b ∧ Below w.heap.size w wr

theorem text_step {s : ByteArray} {pos b r n : Nat} {done all : List UInt8} (hp : pos < s.size) (hr : (Utf8.decode s pos).1 = r) (hn : (Utf8.decode s pos).2 = n) (hd : done ++ body b (s.data.toList.drop pos) = all) (hb : s.size ≤ pos + b) :
    (done ++ esc r) ++ body (b - 1) (s.data.toList.drop (pos + n)) = all ∧ pos + n ≤ s.size ∧ s.size ≤ pos + n + (b - 1) ∧ 1 ≤ n := by
  have hne : s.data.toList.drop pos ≠ [] := by
    intro e
    have := congrArg List.length e
    simp at this
    omega
  have hw := Lib.decodeL_width (s.data.toList.drop pos)
  have hl := Lib.decodeL_le _ hne
  rw [Lib.decodeL_drop, hn] at hw hl
  rw [List.length_drop] at hl
  have hls : s.data.toList.length = s.size := by simp
  obtain ⟨b', rfl⟩ : ∃ b', b = b' + 1 := ⟨b - 1, by omega⟩
  rw [body_step hne, Lib.decodeL_drop, hr, hn, List.drop_drop] at hd
  refine ⟨?_, by omega, by omega, hw⟩
  rw [← hd]
  simp

theorem size_list (x : ByteArray) : x.size = x.data.toList.length := by simp
theorem hexS_tail (c : Nat) : ((⟨#[92, 117]⟩ : ByteArray) ++ (hexS c).extract 1 5).data.toList = [92, 117, 48, 48, hexd (c / 16), hexd (c % 16)] := rfl

set_option maxRecDepth 100000 in
set_option maxHeartbeats 3200000 in
theorem unparse_any (s : ByteArray) (hs : s.size ≤ 1000) (w : World) (h : DB w) :
    Calls Tryd.prog 8 #[.string s] w fun e w' => e = .returned (.string ⟨(textL s.data.toList).toArray⟩) ∧ Below w.heap.size w w' := by
  have H := Lib.hid h
  clear h
  have hall := body_len s.size s.data.toList
  have HALL := Lib.hid hall
  clear hall
  go_enter Tryd.func8, Tryd.ntmps8
  go_wp2_with fail
  refine (Tryd.Buffer_WriteString_k w.heap.size w.heap.size [] ⟨#[34]⟩ _ (Lib.fresh_isBuffer 36 5 w) (by simp) (by simp) (by decide)).mono ?_
  rintro e W1 ⟨rfl, hI1, hb1, _⟩
  have hB1 : Below w.heap.size w W1 := ((Below.refl _ _).alloc (Nat.le_refl _) _).trans hb1
  have hz1 := hB1.size
  clear hb1
  have hI2 : Lib.IsBuffer 36 5 w.heap.size w.heap.size (Lib.byteCells (34 :: [])) (W1.iter s 0) := by
    have h0 : Lib.IsBuffer 36 5 w.heap.size w.heap.size (Lib.byteCells (34 :: [])) (W1.alloc (.stringIter s 0)) := by simpa [Lib.byteCells] using hI1.alloc (.stringIter s 0)
    exact h0
  have hk2 := World.iter_heap W1 s 0
  have hb2 : Below w.heap.size w (W1.iter s 0) := hB1.alloc hz1 _
  have HT := Lib.hid (show TR s w W1.heap.size (W1.iter s 0) from ⟨0, s.size, [], Nat.zero_le _, hk2, hI2, by simp, by omega, hb2⟩)
  clear hI1 hI2 hk2 hb2 hB1
  go_wp2_with fail
  go_loopw [5] (fun _ wr => TR s w W1.heap.size wr) (fun _ wr => s.size - wr.iterPos W1.heap.size)
  case atStart => exact HT.out
  case round =>
    obtain ⟨pos, b, done, hps, hk, hI, hdone, hb, hnx⟩ := hrel
    clear HT
    have hmu : wr.iterPos W1.heap.size = pos := by simp [World.iterPos, hk]
    have HMU := Lib.hid hmu
    clear hmu
    by_cases hp : pos < s.size
    · obtain ⟨r, hr⟩ : ∃ r, (Utf8.decode s pos).1 = r := ⟨_, rfl⟩
      obtain ⟨n, hn⟩ : ∃ n, (Utf8.decode s pos).2 = n := ⟨_, rfl⟩
      have hnext : ∀ ty, (Instr.next (.pointer (some ⟨W1.heap.size, 0, none⟩)) true ty).run Tryd.prog wr = _ := fun ty => Lib.run_next_any_at wr W1.heap.size s pos ty hk hp
      rw [hr, hn] at hnext
      obtain ⟨hd', hpn, hbn, hn1⟩ := text_step hp hr hn hdone hb
      have hdl : done.length ≤ 6000 := by
        have h1 := congrArg List.length hdone
        rw [List.length_append] at h1
        have := HALL.out
        omega
      have hgood := decode_good (s.data.toList.drop pos)
      rw [Lib.decodeL_drop, hr] at hgood
      unfold GoodRune at hgood
      have hI1 := hI.iterAt hk (pos + n)
      have hk1 := Lib.iterAt_heap wr W1.heap.size s pos (pos + n) hk
      have hnx1 : Below w.heap.size w (wr.iterAt W1.heap.size s (pos + n)) := Lib.below_iterAt hnx hz1 s (pos + n)
      generalize wr.iterAt W1.heap.size s (pos + n) = W2 at hnext hI1 hk1 hnx1
      have hz2 := hnx1.size
      have hone : ∀ v ∈ Lib.byteCells (34 :: done), v.oneCell' = true := Lib.byteCells_one _
      have hbl : (Lib.byteCells (34 :: done)).length ≤ 6001 := by
        rw [Lib.byteCells_length]
        simp
        omega
      have hDB := H.out.below (hnx1.mono (Nat.le_refl _))
      have fin : ∀ (W3 : World) (x : List UInt8), x = esc r → Lib.IsBuffer 36 5 w.heap.size w.heap.size (Lib.byteCells (34 :: done) ++ Lib.byteCells x) W3 → Below w.heap.size W2 W3 → Lib.OthersKept 5 (some w.heap.size) W2 W3 → TR s w W1.heap.size W3 ∧ s.size - W3.iterPos W1.heap.size < s.size - wr.iterPos W1.heap.size := by
        intro W3 x hx hI3 hb3 hkept
        have hk3 := hkept.iter hk1 (hI1.ne_iter hk1)
        have e3 : W3.iterPos W1.heap.size = pos + n := by simp [World.iterPos, hk3]
        refine ⟨⟨pos + n, b - 1, done ++ esc r, hpn, hk3, ?_, hd', hbn, hnx1.trans hb3⟩, by rw [e3, HMU.out]; omega⟩
        rw [← hx]
        simpa [Lib.byteCells] using hI3
      have F := Lib.hid fin
      have HO := Lib.hid hone
      have HD := Lib.hid hDB
      have HI := Lib.hid hI1
      clear fin hI hk hk1 hd' hdone hnx hr hn hone hDB hI1 hnx1 HALL
      have hc : (r ≤ 34 ∧ 34 ≤ r) ∨ (r ≤ 92 ∧ 92 ≤ r) ∨ (r ≤ 8 ∧ 8 ≤ r) ∨ (r ≤ 12 ∧ 12 ≤ r) ∨ (r ≤ 10 ∧ 10 ≤ r) ∨ (r ≤ 13 ∧ 13 ≤ r) ∨ (r ≤ 9 ∧ 9 ≤ r) ∨ (r ≤ 0 ∧ 0 ≤ r) ∨ (¬ r = 34 ∧ ¬ r = 92 ∧ ¬ r = 8 ∧ ¬ r = 12 ∧ ¬ r = 10 ∧ ¬ r = 13 ∧ ¬ r = 9 ∧ ¬ r = 0) := by omega
      rcases hc with ⟨a1, a2⟩ | ⟨a1, a2⟩ | ⟨a1, a2⟩ | ⟨a1, a2⟩ | ⟨a1, a2⟩ | ⟨a1, a2⟩ | ⟨a1, a2⟩ | ⟨a1, a2⟩ | ⟨a1, a2, a3, a4, a5, a6, a7, a8⟩
      · have he : [92, 34] = esc r := by
          obtain rfl : r = 34 := by omega
          rfl
        have HE := Lib.hid he
        clear he
        go_wp2_with fail
        refine (Tryd.Buffer_WriteString_k w.heap.size w.heap.size _ ⟨#[92, 34]⟩ W2 HI.out hz2 HO.out (by show _ + 2 ≤ _; omega)).mono ?_
        rintro e W3 ⟨rfl, hI3, hb3, hkp⟩
        have hF := Lib.hid (F.out W3 _ HE.out hI3 hb3 hkp)
        clear hI3 hb3 hkp
        go_wp2_with fail
        go_roundw
        case rel => exact hF.out.1
        case measure => exact hF.out.2
      · have he : [92, 92] = esc r := by
          obtain rfl : r = 92 := by omega
          rfl
        have HE := Lib.hid he
        clear he
        go_wp2_with fail
        refine (Tryd.Buffer_WriteString_k w.heap.size w.heap.size _ ⟨#[92, 92]⟩ W2 HI.out hz2 HO.out (by show _ + 2 ≤ _; omega)).mono ?_
        rintro e W3 ⟨rfl, hI3, hb3, hkp⟩
        have hF := Lib.hid (F.out W3 _ HE.out hI3 hb3 hkp)
        clear hI3 hb3 hkp
        go_wp2_with fail
        go_roundw
        case rel => exact hF.out.1
        case measure => exact hF.out.2
      · have he : [92, 98] = esc r := by
          obtain rfl : r = 8 := by omega
          rfl
        have HE := Lib.hid he
        clear he
        go_wp2_with fail
        refine (Tryd.Buffer_WriteString_k w.heap.size w.heap.size _ ⟨#[92, 98]⟩ W2 HI.out hz2 HO.out (by show _ + 2 ≤ _; omega)).mono ?_
        rintro e W3 ⟨rfl, hI3, hb3, hkp⟩
        have hF := Lib.hid (F.out W3 _ HE.out hI3 hb3 hkp)
        clear hI3 hb3 hkp
        go_wp2_with fail
        go_roundw
        case rel => exact hF.out.1
        case measure => exact hF.out.2
      · have he : [92, 102] = esc r := by
          obtain rfl : r = 12 := by omega
          rfl
        have HE := Lib.hid he
        clear he
        go_wp2_with fail
        refine (Tryd.Buffer_WriteString_k w.heap.size w.heap.size _ ⟨#[92, 102]⟩ W2 HI.out hz2 HO.out (by show _ + 2 ≤ _; omega)).mono ?_
        rintro e W3 ⟨rfl, hI3, hb3, hkp⟩
        have hF := Lib.hid (F.out W3 _ HE.out hI3 hb3 hkp)
        clear hI3 hb3 hkp
        go_wp2_with fail
        go_roundw
        case rel => exact hF.out.1
        case measure => exact hF.out.2
      · have he : [92, 110] = esc r := by
          obtain rfl : r = 10 := by omega
          rfl
        have HE := Lib.hid he
        clear he
        go_wp2_with fail
        refine (Tryd.Buffer_WriteString_k w.heap.size w.heap.size _ ⟨#[92, 110]⟩ W2 HI.out hz2 HO.out (by show _ + 2 ≤ _; omega)).mono ?_
        rintro e W3 ⟨rfl, hI3, hb3, hkp⟩
        have hF := Lib.hid (F.out W3 _ HE.out hI3 hb3 hkp)
        clear hI3 hb3 hkp
        go_wp2_with fail
        go_roundw
        case rel => exact hF.out.1
        case measure => exact hF.out.2
      · have he : [92, 114] = esc r := by
          obtain rfl : r = 13 := by omega
          rfl
        have HE := Lib.hid he
        clear he
        go_wp2_with fail
        refine (Tryd.Buffer_WriteString_k w.heap.size w.heap.size _ ⟨#[92, 114]⟩ W2 HI.out hz2 HO.out (by show _ + 2 ≤ _; omega)).mono ?_
        rintro e W3 ⟨rfl, hI3, hb3, hkp⟩
        have hF := Lib.hid (F.out W3 _ HE.out hI3 hb3 hkp)
        clear hI3 hb3 hkp
        go_wp2_with fail
        go_roundw
        case rel => exact hF.out.1
        case measure => exact hF.out.2
      · have he : [92, 116] = esc r := by
          obtain rfl : r = 9 := by omega
          rfl
        have HE := Lib.hid he
        clear he
        go_wp2_with fail
        refine (Tryd.Buffer_WriteString_k w.heap.size w.heap.size _ ⟨#[92, 116]⟩ W2 HI.out hz2 HO.out (by show _ + 2 ≤ _; omega)).mono ?_
        rintro e W3 ⟨rfl, hI3, hb3, hkp⟩
        have hF := Lib.hid (F.out W3 _ HE.out hI3 hb3 hkp)
        clear hI3 hb3 hkp
        go_wp2_with fail
        go_roundw
        case rel => exact hF.out.1
        case measure => exact hF.out.2
      · have he : [92, 117, 48, 48, 48, 48] = esc r := by
          obtain rfl : r = 0 := by omega
          rfl
        have HE := Lib.hid he
        clear he
        go_wp2_with fail
        refine (Tryd.Buffer_WriteString_k w.heap.size w.heap.size _ ⟨#[92, 117, 48, 48, 48, 48]⟩ W2 HI.out hz2 HO.out (by show _ + 6 ≤ _; omega)).mono ?_
        rintro e W3 ⟨rfl, hI3, hb3, hkp⟩
        have hF := Lib.hid (F.out W3 _ HE.out hI3 hb3 hkp)
        clear hI3 hb3 hkp
        go_wp2_with fail
        go_roundw
        case rel => exact hF.out.1
        case measure => exact hF.out.2
      · by_cases hctl : r < 32 ∨ (127 ≤ r ∧ r ≤ 159)
        · have he : [92, 117, 48, 48, hexd (r / 16), hexd (r % 16)] = esc r := by
            unfold esc
            rw [if_neg a1, if_neg a2, if_neg a3, if_neg a4, if_neg a5, if_neg a6, if_neg a7, if_neg a8, if_pos hctl]
          rw [← hexS_tail r] at he
          have HE := Lib.hid he
          have C := Lib.hid (fun W (hW : DB W) => formatInt_hex r (by omega) W hW)
          obtain ⟨t, ht⟩ : ∃ t, hexS r = t := ⟨_, rfl⟩
          have hts : t.size = 5 := by rw [← ht]; rfl
          rw [ht] at HE C
          clear he ht
          rcases hctl with hc1 | ⟨hc1, hc2⟩
          all_goals
            go_wp2_with fail
            refine (C.out _ HD.out).mono ?_
            rintro e W4 ⟨rfl, hb4⟩
            have HI4 := Lib.hid (HI.out.old hb4)
            have hz4 := hb4.size
            have hz5 : w.heap.size ≤ W4.heap.size := Nat.le_trans hz2 hz4
            have HK := Lib.hid (show Lib.OthersKept 5 (some w.heap.size) W2 W4 from fun k o h1 _ _ => (hb4.block k (by
              rcases Nat.lt_or_ge k W2.heap.size with h' | h'
              · exact h'
              · simp [Array.getElem?_eq_none h'] at h1)).trans h1)
            have HB4 := Lib.hid (hb4.mono hz2)
            clear hb4 hz4
            go_wp2_with fail
            refine (Tryd.Buffer_WriteString_k w.heap.size w.heap.size _ ((⟨#[92, 117]⟩ : ByteArray) ++ t.extract 1 5) W4 HI4.out hz5 HO.out ?_).mono ?_
            · have hx := congrArg List.length HE.out
              have hy := (esc_len r).2
              rw [← hx] at hy
              have : ((⟨#[92, 117]⟩ : ByteArray) ++ t.extract 1 5).size = ((⟨#[92, 117]⟩ : ByteArray) ++ t.extract 1 5).data.toList.length := size_list _
              omega
            rintro e W3 ⟨rfl, hI3, hb3, hkp⟩
            have hF := Lib.hid (F.out W3 _ HE.out hI3 (HB4.out.trans hb3) (HK.out.trans hkp))
            clear hI3 hb3 hkp
            go_wp2_with fail
            go_roundw
            case rel => exact hF.out.1
            case measure => exact hF.out.2
        · have he : Lib.encodeRune (r : Int) = esc r := by
            unfold esc
            rw [if_neg a1, if_neg a2, if_neg a3, if_neg a4, if_neg a5, if_neg a6, if_neg a7, if_neg a8, if_neg hctl]
          have HE := Lib.hid he
          have hc3 : 32 ≤ r := by omega
          have hc4 : r < 127 ∨ 159 < r := by omega
          clear he hctl
          rcases hc4 with hc4 | hc4
          all_goals
            go_wp2_with fail
            refine (Tryd.Buffer_WriteRune_k w.heap.size w.heap.size _ (r : Int) (by omega) (by omega) W2 HI.out hz2 HO.out (by omega)).mono ?_
            rintro e W3 ⟨rfl, hI3, hb3, hkp⟩
            rw [← Lib.byteCells_encodeRune] at hI3
            have hF := Lib.hid (F.out W3 _ HE.out hI3 hb3 hkp)
            clear hI3 hb3 hkp
            go_wp2_with fail
            go_roundw
            case rel => exact hF.out.1
            case measure => exact hF.out.2
    · have hnext : ∀ ty, (Instr.next (.pointer (some ⟨W1.heap.size, 0, none⟩)) true ty).run Tryd.prog wr = _ := fun ty => Lib.run_next_end_at wr W1.heap.size s pos ty hk hp
      have hdn : done = body s.size s.data.toList := by
        rw [← hdone, List.drop_of_length_le (by simp; omega), body_nil, List.append_nil]
      have hdl : done.length ≤ 6000 := by
        have := HALL.out
        rw [← hdn] at this
        omega
      have hone : ∀ v ∈ Lib.byteCells (34 :: done), v.oneCell' = true := Lib.byteCells_one _
      have HO := Lib.hid hone
      have hbl : (Lib.byteCells (34 :: done)).length ≤ 6001 := by
        rw [Lib.byteCells_length]
        simp
        omega
      have hz := hnx.size
      have HI := Lib.hid hI
      have HX := Lib.hid hdn
      clear hI hdone hk hone hdn
      go_wp2_with fail
      refine (Tryd.Buffer_WriteString_k w.heap.size w.heap.size _ ⟨#[34]⟩ wr HI.out hz HO.out (by show _ + 1 ≤ _; omega)).mono ?_
      rintro e W3 ⟨rfl, hI3, hb3, _⟩
      have hI4 : Lib.IsBuffer 36 5 w.heap.size w.heap.size (Lib.byteCells (34 :: (done ++ [34]))) W3 := by
        have h0 := hI3
        simpa [Lib.byteCells] using h0
      have HI4 := Lib.hid hI4
      clear hI3 hI4
      go_wp2_with fail
      refine (Tryd.Buffer_String w.heap.size w.heap.size _ W3 HI4.out).mono ?_
      rintro e W4 ⟨rfl, n, rfl⟩
      go_wp2
      go_ret
      exact ⟨by rw [HX.out]; unfold textL; simp, hnx.trans (hb3.trans ⟨rfl, rfl, rfl, Nat.le_refl _, fun _ _ => rfl⟩)⟩

theorem stringText (s : ByteArray) (hs : s.size ≤ 1000) (w : World) (h : DB w) :
    Calls Tryd.prog 7 #[.string s] w fun e w' => e = .returned (.string ⟨(textL s.data.toList).toArray⟩) ∧ Below w.heap.size w w' := by
  have C := Lib.hid (unparse_any s hs w h)
  clear h
  go_enter Tryd.func7, Tryd.ntmps7
  go_wp2_with fail
  refine C.out.mono ?_
  rintro e w1 ⟨rfl, hb⟩
  go_wp2_with fail
  go_ret
  exact ⟨rfl, hb⟩
def textB (s : ByteArray) : ByteArray := ⟨(textL s.data.toList).toArray⟩
theorem text_any (s : ByteArray) (hs : s.size ≤ 1000) (w : World) (h : DB w) :
    Calls Tryd.prog 5 #[.string s] w fun e w' => e = .returned (.string (textB s)) ∧ Below w.heap.size w w' := by
  have C := Lib.hid (stringText s hs w h)
  clear h
  go_enter Tryd.func5, Tryd.ntmps5
  go_wp2_with fail
  refine C.out.mono ?_
  rintro e w1 ⟨rfl, hb⟩
  go_wp2_with fail
  go_ret
  exact ⟨rfl, hb⟩
end Go.Proofs.YtmopaolfimpohaaDoor
