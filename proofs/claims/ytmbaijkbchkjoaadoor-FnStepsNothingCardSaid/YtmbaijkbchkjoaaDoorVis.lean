/- impl.Visible: the names of the fields that steps make, ascending, and how each is seen. -/
import Derived.Test.YtmbaijkbchkjoaaDoorImplC
import Derived.Test.YtmbaijkbchkjoaaDoorShelfG
import Derived.Sort.OwnSorted
namespace Go.Proofs.YtmbaijkbchkjoaaDoor
open Go.RowKit Go.Maps Go.Sort

def seenOf (h : Int) : Int := if h = 0 then 1 else if h = 2 then 2 else 0
theorem seen_any (h v : Int) (w : World) (hv : seenOf h = v) :
    Calls Tryd.prog 17 #[.int .i64 h] w fun e w' => e = .returned (.int .i64 v) ∧ w = w' := by
  subst hv
  by_cases h0 : h = 0
  · subst h0
    go_enter Tryd.func17, Tryd.ntmps17
    go_wp2
    go_ret
    exact ⟨rfl, rfl⟩
  by_cases h2 : h = 2
  · subst h2
    go_enter Tryd.func17, Tryd.ntmps17
    go_wp2
    go_ret
    exact ⟨rfl, rfl⟩
  · have e : seenOf h = 0 := by unfold seenOf; rw [if_neg h0, if_neg h2]
    rw [e]
    clear e
    go_enter Tryd.func17, Tryd.ntmps17
    go_wp2
    go_ret
    exact ⟨rfl, rfl⟩

/-- The names of a map's fields, ascending; how each is seen. -/
def namesOf (D : DU) : List (List UInt8) := (strKeys D).mergeSort fun x y => decide (x ≤ y)
def seenAt (F : FF) (x : List UInt8) : Int := seenOf ((F (.string x)).getD 0)
/-- What Visible hands back. -/
def SeenOk (F : FF) (w : World) (e : Ending) (w' : World) : Prop := ∃ (D : DU) (A : Option Addr) (n c : Nat) (B : Option Addr) (m d : Nat), e = .returned (.tuple #[.slice A n c, .slice B m d, .bool true]) ∧ Canon D ∧ RF D F ∧
  Reads w' w'.heap.size 1 A n ((namesOf D).map encStr) ∧ Reads w' w'.heap.size 1 B m (((namesOf D).map (seenAt F)).map (.int .i64)) ∧ (namesOf D).length ≤ 240 ∧ Below w.heap.size w w'

theorem invInt (v : Value) (y : DU × List MemPlace) (hv : plainElem Tryd.prog 3 v = some y) : ∃ c, v = .int .i64 c := by
  obtain ⟨c, rfl, _⟩ := plainElem_int_inv Tryd.underlying3 hv
  exact ⟨c, rfl⟩
theorem zeroI (w : World) : (zeroValue 3).run Tryd.prog w = .ok (.int .i64 0) w := by kernel_rfl
theorem infoStr : (Tryd.prog.info? 9).map (fun i => (i.zero, i.size, i.bytes)) = some (some (.string ⟨#[]⟩), 1, 16) := by kernel_rfl
theorem row_map {w : World} {P : Program} {k : TypeId} {R : Value → Option (DU × List MemPlace)} {b n base m : Nat} {D : DU} {e : TypeId} {size : Nat} {v : Value} {xs : List Value} (h : w.ownsRow base e size v m xs) (ho : w.ownsMap P k R b n D) : some b ≠ v.ownBlock := by
  obtain ⟨es, cl, hb, _⟩ := ho
  rcases h.2 with ⟨rfl, _⟩ | ⟨g, cap, cur, rfl, _, hg, _⟩
  · simp [Value.ownBlock]
  · intro e1
    have : b = g := by simpa [Value.ownBlock] using e1
    subst this
    rw [hb] at hg
    cases hg
theorem enc_cell (x : List UInt8) : ∀ u ∈ [encStr x], u.oneCell' = true := by
  intro u hu
  simp at hu
  subst hu
  rfl

/-- sort.Strings at a row of the call's own, nil let in. -/
theorem sort_own (A : Option Addr) (k c B : Nat) (ss : List (List UInt8)) (w : World) (hrow : w.ownsRow B 9 1 (.slice A k c) k (ss.map encStr)) (hk : k = ss.length) (hk2 : k ≤ 240) :
    Calls Tryd.prog 16 #[.slice A k c] w fun e w' => e = .returned (.tuple #[]) ∧ w'.ownsRow B 9 1 (.slice A k c) k ((ss.mergeSort fun x y => decide (x ≤ y)).map encStr) ∧ w.grownBy w' (Value.slice A k c).ownBlock := by
  have hrow' := hrow
  rcases hrow.2 with ⟨hv, h0⟩ | ⟨g, cap, cur, hv, hbase, hb, h1, h2, h3, h4⟩
  · injection hv with hA hk0 hc0
    subst hA hc0 h0
    have hss : ss = [] := List.eq_nil_of_length_eq_zero hk.symm
    subst hss
    refine (Tryd.sort_Strings_none none 0 w).mono ?_
    rintro e w' ⟨rfl, rfl⟩
    exact ⟨rfl, by simpa using hrow', World.grownBy.refl _ _⟩
  · injection hv with hA _ hc0
    subst hA hc0 hk
    have hH : Holds encStr w g 0 ss.toArray := holds_of_block hb (by simpa using h4)
    refine (Tryd.sort_Strings g 0 c ss w hH (Array.getElem?_eq_some_iff.1 hb).1 (by omega)).mono ?_
    rintro e w' ⟨rfl, nn, os, rfl⟩
    exact ⟨rfl, ownsRow_sorted (by simp) hbase hb h1 h2 h3, grownBy_sorted _⟩
theorem key_enc (x : List UInt8) (hx : x.length ≤ maxLen) : keyOf Tryd.prog 9 (encStr x) = some (.string x) := by
  have := Go.WideMaps.keyOf_string_mk (P := Tryd.prog) (k := 9) Tryd.underlying9 (s := ⟨x.toArray⟩) (by simpa [ByteArray.size] using hx)
  simpa [encStr] using this
theorem seen_snoc (xs : List (List UInt8)) (F : FF) (j : Nat) {x : List UInt8} (h : xs[j]? = some x) : ((xs.take (j + 1)).map (seenAt F)).map (Value.int .i64) = ((xs.take j).map (seenAt F)).map (Value.int .i64) ++ [.int .i64 (seenAt F x)] := by
  rw [List.take_add_one, h]
  simp

set_option maxRecDepth 100000 in
set_option maxHeartbeats 3200000 in
theorem visible_any (A : Option Addr) (n c : Nat) (els : List St) (w : World) (h : StsAt w w.heap.size A n els) (hf : ∀ e ∈ els, IFine e) (hn : n ≤ 20) :
    Calls Tryd.prog 10 #[.slice A n c] w (SeenOk (chainD (els.map St.idata)) w) := by
  obtain ⟨iS, hiS, hzS0, hzS1, hzS2⟩ := info_parts infoStr
  obtain ⟨iI, hiI, hzI0, hzI1, hzI2⟩ := info_parts infoInt
  have C0 := Lib.hid (implChain_any A n c els w h hf hn)
  have HEL := Lib.hid h.2.1
  clear h hf
  go_enter Tryd.func10, Tryd.ntmps10
  go_wp2_with fail
  refine C0.out.mono ?_
  rintro e w1 ⟨A1, n1, c1, js, rfl, hjs, hfine, hn1, hdata, hb1⟩
  have C1 := Lib.hid (partV_any A1 n1 c1 js w1 hjs hfine (by have := HEL.out; omega))
  have HB1 := Lib.hid hb1
  have HCD := Lib.hid (show chainF js = chainD (els.map St.idata) by rw [chain_data, hdata])
  clear hjs hfine hdata hb1 C0 hn1
  go_wp2_with fail
  refine C1.out.mono ?_
  rintro e w2 ⟨b, nb, D, rfl, hnb, hown, hrf, hbl, hb2⟩
  rw [HCD.out] at hrf
  have HO := Lib.hid hown
  have HRF := Lib.hid hrf
  have hszD := hown.size_le
  have hblt := hown.lt
  have HB2 := Lib.hid (HB1.out.trans (hb2.mono HB1.out.size))
  have hwb : w.heap.size ≤ b := by have := HB1.out.size; omega
  clear hown hrf hb2 C1 hbl
  go_wp2_with (first
    | (at_range; refine wpList_range_own _ rfl _ 40 rfl 9 3 law9 Tryd.underlying40 _ b nb _ rfl HO.out ?_; intro w0 hrg0 hg0 hs0))
  go_frame
  have HB3 := Lib.hid (HB2.out.grown hg0 HB2.out.size (fun j hj => by cases hj))
  have HS2 := Lib.hid HB2.out.size
  clear hg0 hs0
  go_loopw [2, 8] (fun v _ wr => ∃ (left : Lit → Bool) (cnt : Nat) (ss : List (List UInt8)) (A' : Option Addr) (k c' : Nat), v = .slice A' k c' ∧ k = ss.length ∧ wr.ranges Tryd.prog 9 (plainElem Tryd.prog 3) b w2.heap.size nb D left cnt ∧ ss.length + cnt ≤ Maps.size D ∧
      wr.ownsRow w.heap.size 9 1 (.slice A' k c') k (ss.map encStr) ∧ Collected D left ss ∧ Below w.heap.size w wr)
    (fun _ _ wr => wr.rangeLeft b w2.heap.size)
  case atStart =>
    exact ⟨_, _, [], none, 0, 0, rfl, rfl, hrg0, by simp, World.ownsRow_nil _ _ _ _, Collected.start D, HB3.out⟩
  case round =>
    obtain ⟨left, cnt, ss, A', k, c', rfl, hkl, hrg, hcs, hrow, hC, hnx⟩ := hrel
    have HC := Lib.hid hC
    have HROW := Lib.hid hrow
    have HKL := Lib.hid hkl
    have hk240 : k + cnt ≤ 240 := by omega
    clear hC hkl
    go_wp2_with (first
      | (at_next; refine wpList_next_ranges _ rfl _ rfl 9 law9 (plainElem Tryd.prog 3) encStr (Value.int .i64) invStr invInt b w2.heap.size nb _ _ _ rfl hrg ?_ ?_))
    · intro hc0 hl0
      have hperm := HC.out.perm HO.out law9 Tryd.underlying9 hl0
      have hsort : ss.mergeSort (fun x y => decide (x ≤ y)) = namesOf D := mergeSort_of_perm hperm
      have hlen : (namesOf D).length = k := by rw [← hsort, List.length_mergeSort, HKL.out]
      have hmem : ∀ x ∈ namesOf D, x.length ≤ maxLen ∧ ∃ u, chainD (els.map St.idata) (.string x) = some u := by
        intro x hx
        have hx1 : x ∈ ss := by rw [← hsort] at hx; exact (List.mem_mergeSort.1 hx)
        refine ⟨strKeys_le HO.out Tryd.underlying9 x (hperm.mem_iff.1 hx1), ?_⟩
        have h1 := ((HC.out.2 x).1 hx1).1
        rw [HRF.out.1] at h1
        exact Option.isSome_iff_exists.1 h1
      have CS := Lib.hid (sort_own A' k c' w.heap.size ss wr HROW.out HKL.out (by omega))
      have HSORT := Lib.hid hsort
      have HLEN := Lib.hid hlen
      have HMEM := Lib.hid hmem
      have HOW := Lib.hid hrg.owns
      have HNE := Lib.hid (row_map HROW.out hrg.owns)
      have HNX := Lib.hid hnx
      have HLT := Lib.hid (fun g (hg : (Value.slice A' k c').ownBlock = some g) => (HROW.out.lt g hg).1)
      have hcan := HO.out.canon law9
      have HCAN := Lib.hid hcan
      clear hperm hsort hlen hmem hrg hrow hnx hcan hl0 hc0 hcs
      go_wp2_with fail
      refine CS.out.mono ?_
      rintro e w4 ⟨rfl, hrow4, hg4⟩
      rw [HSORT.out] at hrow4
      have HROW4 := Lib.hid hrow4
      have HO4 := Lib.hid (HOW.out.kept hg4 HNE.out)
      have HB4 := Lib.hid (HNX.out.grown hg4 HNX.out.size HLT.out)
      clear hrow4 hg4
      go_wp2_with fail
      go_loopw [3, 34] (fun vh vi wz => ∃ (j : Nat) (B' : Option Addr) (d' : Nat), vh = .slice B' j d' ∧ vi = .int .i64 j ∧ j ≤ k ∧ wz.ownsRow w.heap.size 3 1 (.slice B' j d') j ((((namesOf D).take j).map (seenAt (chainD (els.map St.idata)))).map (.int .i64)) ∧ wz.ownsRow w.heap.size 9 1 (.slice A' k c') k ((namesOf D).map encStr) ∧ wz.ownsMap Tryd.prog 9 (plainElem Tryd.prog 3) b nb D ∧ Below w.heap.size w wz) (fun _ vi _ => k - (intOf vi).toNat)
      case atStart => exact ⟨0, none, 0, rfl, rfl, Nat.zero_le _, World.ownsRow_nil _ _ _ _, HROW4.out, HO4.out, HB4.out⟩
      case round =>
        obtain ⟨j, B', d', rfl, rfl, hj, hr1, hr2, ho, hb⟩ := hrel
        have HR1 := Lib.hid hr1
        have HR2 := Lib.hid hr2
        have HOZ := Lib.hid ho
        have HBZ := Lib.hid hb
        clear hr1 hr2 ho
        by_cases hlt : j < k
        · obtain ⟨ad, u, hA, hab, hu, hcu⟩ := (Reads.of_own HR2.out).at_ hlt
          subst hA
          rw [List.getElem?_map] at hu
          obtain ⟨x, hx, rfl⟩ := Option.map_eq_some_iff.1 hu
          obtain ⟨hxm, u, hxu⟩ := HMEM.out x (List.mem_of_getElem? hx)
          have hkey := key_enc x hxm
          have hat := HRF.out.2 (.string x) u (.lit (.int .i64 0)) hxu
          have hsv : seenAt (chainD (els.map St.idata)) x = seenOf u := by unfold seenAt; rw [hxu]; rfl
          have hsn := seen_snoc (namesOf D) (chainD (els.map St.idata)) j hx
          obtain ⟨v, hv⟩ : ∃ v, seenOf u = v := ⟨_, rfl⟩
          rw [hsv, hv] at hsn
          have HSN := Lib.hid hsn
          have HAT := Lib.hid hat
          have HKEY := Lib.hid hkey
          have HV := Lib.hid hv
          have hjk : (j : Int) < k := by omega
          have hsz := hb.size
          clear hab hu hx hxm hxu hkey hat hsv hsn hv hb
          go_wp2_with (first
            | (at_lookup; refine wpList_lookup_own_int _ rfl _ _ 40 rfl 9 3 .i64 law9 Tryd.underlying40 Tryd.underlying3 (zeroI _) b nb _ rfl HOZ.out _ _ rfl HKEY.out ?_; intro cc hcc hwc))
          have hcu2 : cc = u := by
            have h1 := hcc.symm.trans HAT.out
            unfold hideD at h1
            injection h1 with h1
            injection h1
          subst hcu2
          refine (seen_any cc v wr HV.out).mono ?_
          rintro e w6 ⟨rfl, rfl⟩
          clear hcc hwc
          go_wp2_with
            (refine wpList_append_any _ (by rfl) (.tmp 38) (.tmp 43) 27 (by rfl) w.heap.size 3 iI (.int .i64 0) 1 8 Tryd.underlying27 hiI hzI0 hzI1 hzI2 rfl (Nat.lt_add_one 0) (.slice B' j d') j ((((namesOf D).take j).map (seenAt (chainD (els.map St.idata)))).map (.int .i64)) (by rfl) (HR1.out.alloc _) (wr.heap.size + 1) (some ⟨wr.heap.size, 0, none⟩) 1 1 [.int .i64 v] (by rfl) ?_ (int_cell v) ?_ ?_ ?_ (j + 1) ?_ ((((namesOf D).take (j + 1)).map (seenAt (chainD (els.map St.idata)))).map (.int .i64)) ?_ ?_
             · exact Reads.of_block (heap_alloc_new wr _) rfl
             · (unfold maxLen; omega)
             · omega
             · (simp; omega)
             · rfl
             · exact HSN.out.symm
             intro A2 c2 w7 hap)
          have hbX := (Below.refl wr.heap.size wr).alloc (Nat.le_refl _) (.cells #[.int .i64 v] 3)
          have hr1X := HR1.out.alloc (.cells #[.int .i64 v] 3)
          have hr2X := row_below HR2.out hbX
          have hoX := HOZ.out.alloc (.cells #[.int .i64 v] 3)
          have Y1 := Lib.hid (hr2X.kept hap.grown (row_apart hr2X hr1X (by decide)))
          have Y2 := Lib.hid (hoX.kept hap.grown (row_map hr1X hoX))
          have Y3 := Lib.hid ((HBZ.out.alloc hsz (.cells #[.int .i64 v] 3)).grown hap.grown (by simp; omega) (fun g hg => (HR1.out.lt g hg).1))
          have Y4 := Lib.hid hap.own
          clear hbX hr1X hr2X hoX hap
          go_roundw
          case rel => exact ⟨j + 1, A2, c2, rfl, by go_num, by omega, Y4.out, Y1.out, Y2.out, Y3.out⟩
          case measure => simp [intOf]; omega
        · obtain rfl : j = k := by omega
          have hal : (namesOf D).take j = namesOf D := List.take_of_length_le (by rw [HLEN.out]; exact Nat.le_refl _)
          rw [hal] at HR1
          clear hal
          go_wp2_with fail
          go_ret3
          exact ⟨D, A', j, c', B', j, d', rfl, HCAN.out, HRF.out, Reads.of_own HR2.out, Reads.of_own HR1.out, by rw [HLEN.out]; omega, HBZ.out⟩
    · intro x c kl yd yp w3 cnt1 hkey hlk hv hat hrg1 hlt hg1 hs1 hen
      obtain ⟨x', ex, rfl, hxm⟩ := Maps.keyOf_str Tryd.underlying9 hkey
      obtain rfl : x = x' := encStr_inj ex
      have HC1 := Lib.hid (HC.out.step hlk hat)
      have hrow1 := hrow.kept hg1 (Or.inr (row_ne_iter hrow hrg).symm)
      have HROW1 := Lib.hid hrow1
      have HRG1 := Lib.hid hrg1
      have HRG := Lib.hid hrg
      have HB4 := Lib.hid (hnx.grown hg1 hnx.size (fun j hj => by cases hj; exact HS2.out))
      have HCS := Lib.hid hcs
      clear hkey hlk hv hat hs1 ex hxm hrow1 hrow hcs
      go_wp2_with
        (refine wpList_append_any _ (by rfl) (.tmp 26) (.tmp 28) 26 (by rfl) w.heap.size 9 iS (.string ⟨#[]⟩) 1 16 Tryd.underlying26 hiS hzS0 hzS1 hzS2 rfl (Nat.lt_add_one 0) (.slice A' k c') k (ss.map encStr) (by rfl) (HROW1.out.alloc _) (w3.heap.size + 1) (some ⟨w3.heap.size, 0, none⟩) 1 1 [encStr x] (by rfl) ?_ (enc_cell x) ?_ ?_ ?_ (k + 1) ?_ ((ss ++ [x]).map encStr) ?_ ?_
         · exact Reads.of_block (heap_alloc_new w3 _) rfl
         · (unfold maxLen; omega)
         · omega
         · (have := HB4.out.size; simp; omega)
         · rfl
         · simp
         intro A2 c2 w4 hap)
      have hrg2 := (HRG1.out.alloc (.cells #[encStr x] 9)).kept hap.grown (row_map HROW1.out HRG1.out.owns) (row_ne_iter HROW1.out HRG1.out)
      have hb4 := (HB4.out.alloc HB4.out.size (.cells #[encStr x] 9)).grown hap.grown (by have := HB4.out.size; simp; omega) (fun j hj => (HROW1.out.lt j hj).1)
      have X1 := Lib.hid hrg2
      have X2 := Lib.hid hb4
      have X3 := Lib.hid hap.own
      clear hrg2 hb4 hap
      go_roundw
      case rel => exact ⟨_, cnt1, ss ++ [x], A2, k + 1, c2, rfl, by rw [List.length_append, ← HKL.out]; rfl, X1.out, by have := HCS.out; rw [List.length_append]; simp; omega, X3.out, HC1.out, X2.out⟩
      case measure => rw [X1.out.left_eq, HRG.out.left_eq]; exact hlt
end Go.Proofs.YtmbaijkbchkjoaaDoor
