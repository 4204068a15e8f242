/- strsOf, PartSplitLimitR, TextSplitLimitR; the walk of FnSplitRightExact. -/
import Derived.Test.YtkjmbnfchiippaaWalkS
import Derived.Test.YtkjmbnfchiippaaRightS
import Derived.Test.YtkjmbnfchiippaaSameS
namespace Go.Proofs.Ytkjmbnfchiippaa
open Go.RowKit

theorem as_arrS (v : Value) (w : World) : (Instr.typeAssert (.iface 94 v) 53 94 false).run Try.prog w = .ok v w := by kernel_rfl
theorem as_strS (v : Value) (w : World) : (Instr.typeAssert (.iface 86 v) 53 48 false).run Try.prog w = .ok (.iface 86 v) w := by kernel_rfl
attribute [local go_sem] as_arrS as_strS

theorem map_snoc (ls : List (List Int)) (k : Nat) {l : List Int} (h : ls[k]? = some l) : ((ls.take (k + 1)).map runesBytes).map Value.string = ((ls.take k).map runesBytes).map Value.string ++ [Value.string (runesBytes l)] := by
  rw [List.take_add_one, h]
  simp
theorem str1 (s : ByteArray) : ∀ u ∈ [Value.string s], u.oneCell' = true := by
  intro u hu
  simp at hu
  subst hu
  rfl

def StrsOk (xs : List ByteArray) (w : World) (e : Ending) (w' : World) : Prop := ∃ A n c, e = .returned (.tuple #[.slice A n c, .nilIface]) ∧ Reads w' w'.heap.size 1 A n (xs.map .string) ∧ Below w.heap.size w w'

set_option maxRecDepth 100000 in
set_option maxHeartbeats 1600000 in
theorem strsOf_any (r : Nat) (ls : List (List Int)) (w : World) (h : ARS w r ls) (hn : ls.length ≤ 3000) :
    Calls Try.prog 23 #[.iface 94 (.pointer (some ⟨r, 0, none⟩)), .nilIface] w (StrsOk (ls.map runesBytes) w) := by
  obtain ⟨iN, hiN, hzN0, hzN1, hzN2⟩ := info_parts infoSt
  obtain ⟨ad, n, c, us, hc0, hnl, hus, htr⟩ := h
  have HU := Lib.hid hus
  have HT := Lib.hid htr
  have HN := Lib.hid hnl
  have hn1 : n ≤ 3000 := by omega
  clear hus htr hnl
  go_enter Try.func23, Try.ntmps23
  go_wp2_with fail
  clear hc0
  go_loopw [6, 18] (fun v i wr => ∃ (k : Nat) (A' : Option Addr) (c' : Nat), k ≤ n ∧ i = .int .i64 k ∧ v = .slice A' k c' ∧ wr.ownsRow w.heap.size 9 1 (.slice A' k c') k (((ls.take k).map runesBytes).map .string) ∧ Below w.heap.size w wr) (fun _ i _ => n - (intOf i).toNat)
  case atStart => exact ⟨0, none, 0, Nat.zero_le _, rfl, rfl, World.ownsRow_nil _ _ _ _, Below.refl _ _⟩
  case round =>
    obtain ⟨k, A', c', hk, rfl, rfl, hrow, hb⟩ := hrel
    have HR := Lib.hid hrow
    have HB := Lib.hid hb
    have hsz := hb.size
    clear hrow
    by_cases hlt : k < n
    · obtain ⟨ad', u, hA, hadb, hu, hcu⟩ := HU.out.at_ hlt
      injection hA with hA
      subst hA
      obtain ⟨l, hl⟩ : ∃ l, ls[k]? = some l := ⟨_, List.getElem?_eq_getElem (by have := HN.out; omega)⟩
      obtain ⟨t, q, rfl, _, ht, hq⟩ := HT.out.2 k u l hu hl
      have g0 : wr.cell? (ad.add k) = some (.pointer (some ⟨t, 0, none⟩)) := keeps hb hcu
      have g1 : wr.cell? ⟨t, 2, none⟩ = some (.iface 86 (.pointer (some q))) := by
        rw [cell_of_row wr t 2 _ _ (0, 0) ((hb.block t (Array.getElem?_eq_some_iff.1 ht).1).trans ht)]; rfl
      have hkn : (k : Int) < n := by omega
      have HX := Lib.hid hl
      have HQ := Lib.hid (hq.below hb).fs
      clear hu hcu ht hq hl hb
      go_wp2_with fail
      refine (goString_any q l wr HQ.out).mono ?_
      rintro e w1 ⟨rfl, rfl⟩
      go_wp2_with
        (refine wpList_append_any _ (by rfl) (.tmp 22) (.tmp 29) 29 (by rfl) w.heap.size 9 iN (.string ⟨#[]⟩) 1 16 Try.underlying29 hiN hzN0 hzN1 hzN2 rfl (Nat.lt_add_one 0) (.slice A' k c') k (((ls.take k).map runesBytes).map .string) (by rfl) (HR.out.alloc _) (wr.heap.size + 1) (some ⟨wr.heap.size, 0, none⟩) 1 1 [.string (runesBytes l)] (by rfl) ?_ (str1 _) ?_ ?_ ?_ (k + 1) ?_ (((ls.take (k + 1)).map runesBytes).map .string) ?_ ?_
         · exact Reads.of_block (heap_alloc_new wr _) rfl
         · (unfold maxLen; omega)
         · omega
         · (simp; omega)
         · rfl
         · (rw [map_snoc ls k HX.out])
         intro A2 c2 w2 hap)
      have hb2 := (HB.out.alloc hsz _).grown hap.grown (by simp; omega) (fun g hg => (HR.out.lt g hg).1)
      have X2 := Lib.hid hb2
      have X3 := Lib.hid hap.own
      clear hap hb2
      go_wp2_with fail
      go_roundw
      case rel => exact ⟨k + 1, A2, c2, by omega, by go_num, rfl, X3.out, X2.out⟩
      case measure => simp [intOf]; omega
    · obtain rfl : k = n := by omega
      have hlen := HN.out
      have hall : ls.take k = ls := List.take_of_length_le (by omega)
      rw [hall] at HR
      clear hiN hzN0 hzN1 hzN2 hall hlen hb
      go_wp2_with fail
      go_ret2
      exact ⟨A', k, c', rfl, Reads.of_own HR.out, HB.out⟩

theorem numS (x : Nat) (w : World) :
    Calls Try.prog 26 #[.float .f64 x] w fun e w' => ∃ q, e = .returned (.iface 109 (.pointer (some ⟨q, 0, none⟩))) ∧ w'.cell? ⟨q, 0, none⟩ = some (.float .f64 x) ∧ Below w.heap.size w w' := by
  go_enter Try.func26, Try.ntmps26
  go_wp2
  go_ret
  exact ⟨w.heap.size, rfl, World.cell?_alloc_mark w _ _ (0, 0) 0, (Below.refl _ _).alloc (Nat.le_refl _) _⟩

def TextOk (s c : ByteArray) (most : Nat) (w : World) (e : Ending) (w' : World) (b : Value) : Prop := ∃ (A : Option Addr) (n cc : Nat) (ts : List ByteArray), e = .returned (.tuple #[.slice A n cc, b]) ∧ Reads w' w'.heap.size 1 A n ((ts.map fun t => runesBytes (runesOf t)).map .string) ∧ SR (bl c) most (bl s) (ts.map bl) ∧ Below w.heap.size w w'
theorem sr_count {α : Type} {c l : List α} {m : Nat} {r : List (List α)} (h : SR c m l r) : r.length ≤ m + 1 := by
  induction h with
  | zero l => simp
  | none m l _ => simp
  | step m l k r _ _ ih => rw [List.length_append]; simp; omega

set_option maxRecDepth 100000 in
theorem part_any (s c : ByteArray) (most x : Nat) (w : World) (hx : floatOfInt .f64 (most : Int) = x)
    (hv1 : Lib.validD s.data.toList = true) (hv2 : Lib.validD c.data.toList = true) (hs : s.size ≤ 2000) (hc : c.size ≤ 2000) (hc1 : 1 ≤ c.size) (hmost : most < 256) (hnb : NB (bl c)) :
    Calls Try.prog 17 #[.string s, .string c, .float .f64 x] w fun e w' => TextOk s c most w e w' .nilIface := by
  have B := Lib.hid (fun (i : Value) (r1 r2 : Addr) (q : Nat) (w' : World) (h1 : FlatS w' r1 (runesOf s)) (h2 : FlatS w' r2 (runesOf c)) (hq : w'.cell? ⟨q, 0, none⟩ = some (.float .f64 x)) => built_any i r1 r2 q x most s c w' h1 h2 hx hq hv1 hv2 hs hc hc1 hmost hnb)
  have hs2 : s.size ≤ 70368744177664 := by omega
  have hc2 : c.size ≤ 70368744177664 := by omega
  clear hx hv1 hv2 hnb
  go_enter Try.func17, Try.ntmps17
  go_wp2_with fail
  refine (str_any s _ hs2).mono ?_
  rintro e w1 ⟨r1, rfl, hf1, hb1⟩
  have HF1 := Lib.hid hf1
  have HB1 := Lib.hid (((Below.refl w.heap.size w).alloc (Nat.le_refl _) _).trans (hb1.mono (by simp)))
  clear hf1 hb1
  go_wp2_with fail
  refine (str_any c _ hc2).mono ?_
  rintro e w2 ⟨r2, rfl, hf2, hb2⟩
  have HF2 := Lib.hid hf2
  have HF1' := Lib.hid (HF1.out.below hb2)
  have HB2 := Lib.hid (HB1.out.trans (hb2.mono HB1.out.size))
  clear hf2 hb2
  go_wp2_with fail
  refine (numS x _).mono ?_
  rintro e w3 ⟨q, rfl, hq, hb3⟩
  have HQ := Lib.hid hq
  have HF1'' := Lib.hid (HF1'.out.below hb3)
  have HF2' := Lib.hid (HF2.out.below hb3)
  have HB3 := Lib.hid (HB2.out.trans (hb3.mono HB2.out.size))
  clear hq hb3
  go_wp2_with fail
  refine (B.out _ r1 r2 q w3 HF1''.out HF2'.out HQ.out).mono ?_
  rintro e w4 ⟨r, ts, rfl, har, hsr, hb4⟩
  have HAR := Lib.hid har
  have HSR := Lib.hid hsr
  have HB4 := Lib.hid (HB3.out.trans (hb4.mono HB3.out.size))
  clear har hsr hb4
  go_wp2_with fail
  refine (strsOf_any r _ w4 HAR.out (by have := sr_count HSR.out; rw [List.length_map] at this ⊢; omega)).mono ?_
  rintro e w5 ⟨A, n, cc, rfl, hrd, hb5⟩
  rw [show (ts.map runesOf).map runesBytes = ts.map (fun t => runesBytes (runesOf t)) by rw [List.map_map]; rfl] at hrd
  have HRD := Lib.hid hrd
  have HB5 := Lib.hid (HB4.out.trans (hb5.mono HB4.out.size))
  clear hrd hb5
  go_wp2_with fail
  go_ret2
  exact ⟨A, n, cc, ts, rfl, HRD.out, HSR.out, HB5.out⟩
theorem texts_any (v : Value) (w : World) :
    Calls Try.prog 16 #[v, .nilIface] w fun e w' => e = .returned (.tuple #[v, .bool true]) ∧ w = w' := by
  go_enter Try.func16, Try.ntmps16
  go_wp2
  go_ret2
  exact ⟨rfl, rfl⟩
set_option maxRecDepth 100000 in
theorem text_any (s c : ByteArray) (most x : Nat) (w : World) (hx : floatOfInt .f64 (most : Int) = x)
    (hv1 : Lib.validD s.data.toList = true) (hv2 : Lib.validD c.data.toList = true) (hs : s.size ≤ 2000) (hc : c.size ≤ 2000) (hc1 : 1 ≤ c.size) (hmost : most < 256) (hnb : NB (bl c)) :
    Calls Try.prog 9 #[.string s, .string c, .float .f64 x] w fun e w' => TextOk s c most w e w' (.bool true) := by
  have C := Lib.hid (part_any s c most x w hx hv1 hv2 hs hc hc1 hmost hnb)
  clear hx hv1 hv2 hnb
  go_enter Try.func9, Try.ntmps9
  go_wp2_with fail
  refine C.out.mono ?_
  rintro e w1 ⟨A, n, cc, ts, rfl, hrd, hsr, hb⟩
  have H1 := Lib.hid hrd
  have H2 := Lib.hid hsr
  have H3 := Lib.hid hb
  clear hrd hsr hb
  go_wp2_with fail
  refine (texts_any _ _).mono ?_
  rintro e w2 ⟨rfl, rfl⟩
  go_wp2_with fail
  go_ret2
  exact ⟨A, n, cc, ts, rfl, H1.out, H2.out, H3.out⟩

/-- What the parts are: the strings that the program tells are the bytes of the specification's parts. -/
theorem parts_meet {l u : List Int} {s c : ByteArray} {most : Nat} {ts : List ByteArray} {ps : List (List Int)} (hl : AllV l) (hu : AllV u) (hne : u ≠ []) (hs : encL l = bl s) (hc : encL u = bl c)
    (h1 : SR (bl c) most (bl s) (ts.map bl)) (h2 : SR u most l ps) : ts.map bl = ps.map encL := by
  have h3 := sr_enc hu hne h2 hl
  rw [hs, hc] at h3
  exact h1.uniq _ h3
theorem sr_valid {u : List Int} {m : Nat} {l : List Int} {ps : List (List Int)} (h : SR u m l ps) : AllV l → ∀ p ∈ ps, AllV p := by
  induction h with
  | zero l => intro hl p hp; simp at hp; subst hp; exact hl
  | none m l _ => intro hl p hp; simp at hp; subst hp; exact hl
  | step m l k r _ _ ih =>
    intro hl p hp
    rcases List.mem_append.1 hp with hp | hp
    · exact ih (hl.take k) p hp
    · simp at hp
      subst hp
      exact hl.drop _
theorem ts_back {ts : List ByteArray} {ps : List (List Int)} (h : ts.map bl = ps.map encL) (hv : ∀ p ∈ ps, AllV p) : (ts.map fun t => runesBytes (runesOf t)) = ts := by
  have each : ∀ t ∈ ts, runesBytes (runesOf t) = t := fun t ht => by
    have h1 : bl t ∈ ps.map encL := by rw [← h]; exact List.mem_map_of_mem ht
    obtain ⟨p, hp, he⟩ := List.mem_map.1 h1
    refine runesBytes_valid t ?_
    rw [show t.data.toList = encL p from he.symm]
    exact validD_encL (hv p hp)
  rw [List.map_congr_left each, List.map_id']

set_option maxRecDepth 100000 in
theorem right_big (s c : ByteArray) (k : Nat) (w : World) (h : 2147483647 < s.size ∨ (s.size ≤ 2147483647 ∧ 2147483647 < c.size)) :
    Calls Try.prog 4 #[.string s, .string c, .int .u8 k] w fun e w' => e = .returned (.bool true) ∧ Below w.heap.size w w' := by
  rcases h with h1 | ⟨h1, h2⟩
  · have k1 : (2147483647 : Int) < s.size := by omega
    go_enter Try.func4, Try.ntmps4
    go_wp2
    go_ret
    exact ⟨rfl, Below.refl _ _⟩
  · have k1 : ¬ (2147483647 : Int) < s.size := by omega
    have k2 : (2147483647 : Int) < c.size := by omega
    go_enter Try.func4, Try.ntmps4
    go_wp2
    go_ret
    exact ⟨rfl, Below.refl _ _⟩

set_option maxRecDepth 100000 in
set_option maxHeartbeats 1600000 in
theorem law_right (s c : ByteArray) (k : Nat) (w : World) (hk : k < 256) :
    Calls Try.prog 4 #[.string s, .string c, .int .u8 k] w fun e w' => e = .returned (.bool true) ∧ Below w.heap.size w w' := by
  rcases (show (2147483647 < s.size ∨ (s.size ≤ 2147483647 ∧ 2147483647 < c.size)) ∨ (s.size ≤ 2147483647 ∧ c.size ≤ 2147483647) by omega) with hb | ⟨h1, h2⟩
  · exact right_big s c k w hb
  have k1 : ¬ (2147483647 : Int) < s.size := by omega
  have k2 : ¬ (2147483647 : Int) < c.size := by omega
  have U1 := Lib.hid (units9_any s w h1)
  have U2 := Lib.hid (fun w => units9_any c w h2)
  clear h1 h2
  go_enter Try.func4, Try.ntmps4
  go_wp2_with fail
  refine U1.out.mono ?_
  rintro e w1 ⟨⟨A1, n1, c1, b1, rfl, hb1, hu1⟩, hz1⟩
  have HU1 := Lib.hid hu1
  have HZ1 := Lib.hid hz1
  have HB1 := Lib.hid hb1
  clear hu1 hz1 hb1
  go_wp2_with fail
  refine (U2.out w1).mono ?_
  rintro e w2 ⟨⟨A2, n2, c2, b2, rfl, hb2, hu2⟩, hz2⟩
  have HU2 := Lib.hid hu2
  have HZ2 := Lib.hid hz2
  have HB21 := Lib.hid hb2
  have HB2 := Lib.hid (HB1.out.trans (hb2.mono HB1.out.size))
  clear hu2 hz2 hb2 U1 U2
  cases b1
  · go_wp2_with fail
    go_ret
    exact ⟨rfl, HB2.out⟩
  cases b2
  · go_wp2_with fail
    go_ret
    exact ⟨rfl, HB2.out⟩
  obtain ⟨⟨ad1, rfl, hia1⟩, hn1, hnc1, hcm1, hv1, he1⟩ := HU1.out rfl
  obtain ⟨⟨ad2, rfl, hia2⟩, hn2, hnc2, hcm2, hv2, he2⟩ := HU2.out rfl
  have hs1 : s.size ≤ 2000 := Decidable.by_contra fun h => by
    have := HZ1.out (by omega)
    injection this with this
    injection this with this
    simp at this
  have hs2 : c.size ≤ 2000 := Decidable.by_contra fun h => by
    have := HZ2.out (by omega)
    injection this with this
    injection this with this
    simp at this
  have hl1 := runesOf_length s
  have hl2 := runesOf_length c
  have hn1b : n1 ≤ 2000 := by omega
  have hn2b : n2 ≤ 2000 := by omega
  have HIA1 := Lib.hid (hia1.below HB21.out)
  have HIA2 := Lib.hid hia2
  have HN1 := Lib.hid hn1
  have HN2 := Lib.hid hn2
  have HV1 := Lib.hid (show AllV (runesOf s) from hv1)
  have HV2 := Lib.hid (show AllV (runesOf c) from hv2)
  have HE1 := Lib.hid (show encL (runesOf s) = bl s from he1)
  have HE2 := Lib.hid (show encL (runesOf c) = bl c from he2)
  have HCM1 := Lib.hid hcm1
  clear hia1 hia2 hn1 hn2 hv1 hv2 he1 he2 HU1 HU2 HZ1 HZ2 hl1 hl2 hcm1 hcm2
  by_cases hn0 : n2 = 0
  · subst hn0
    go_wp2_with fail
    go_ret
    exact ⟨rfl, HB2.out⟩
  have hune : runesOf c ≠ [] := fun e => by have := HN2.out; rw [e] at this; exact hn0 this
  have HUNE := Lib.hid hune
  have hc1 : 1 ≤ c.size := by have := HN2.out; have := runesOf_length c; omega
  have hn0' : ¬ (n2 : Int) = 0 := by omega
  have C5 := Lib.hid (overlaps_any ad2 (runesOf c) c2 n2 w2 HIA2.out HN2.out hnc2 hn2b)
  clear hune
  go_wp2_with fail
  refine C5.out.mono ?_
  rintro e w3 ⟨b, q3, rfl, hnb, rfl⟩
  have HB3 := Lib.hid (below_drewN HB2.out q3)
  have HIA1' := Lib.hid (HIA1.out.drewN q3)
  have HIA2' := Lib.hid (HIA2.out.drewN q3)
  obtain ⟨w3, hw3⟩ : ∃ w3, w2.drewN q3 = w3 := ⟨_, rfl⟩
  rw [hw3] at HB3 HIA1' HIA2' ⊢
  have HNB := Lib.hid hnb
  clear hnb hw3 C5 HB2 HB21 HIA1 HIA2
  cases b
  rotate_left
  · go_wp2_with fail
    go_ret
    exact ⟨rfl, HB3.out⟩
  obtain ⟨x, hx⟩ : ∃ x, floatOfInt .f64 (k : Int) = x := ⟨_, rfl⟩
  have T := Lib.hid (text_any s c k x w3 hx (by have := validD_encL HV1.out; rw [HE1.out] at this; exact this) (by have := validD_encL HV2.out; rw [HE2.out] at this; exact this) hs1 hs2 hc1 hk (by have := nb_enc HV2.out (HNB.out rfl); rw [HE2.out] at this; exact this))
  go_wp2_with fail
  refine T.out.mono ?_
  rintro e w4 ⟨A4, n4, cc4, ts, rfl, hrd, hsr, hb4⟩
  have HRD := Lib.hid hrd
  have HSR := Lib.hid hsr
  have HB4 := Lib.hid (HB3.out.trans (hb4.mono HB3.out.size))
  have HIA1'' := Lib.hid (HIA1'.out.below hb4)
  have HIA2'' := Lib.hid (HIA2'.out.below hb4)
  clear hrd hsr hb4 T hx HB3 HIA1' HIA2'
  have R := Lib.hid (right_any ad1 ad2 (runesOf s) (runesOf c) c1 c2 n1 n2 k w4 HIA1''.out HIA2''.out HN1.out HN2.out (by omega) hnc1 HCM1.out hn1b hn2b hk)
  go_wp2_with fail
  refine R.out.mono ?_
  rintro e w5 ⟨A5, N5, C5, us, ps, rfl, hr5, hp5, hN5, hsr5, hb5⟩
  have hmeet := parts_meet HV1.out HV2.out HUNE.out HE1.out HE2.out HSR.out hsr5
  have hpv := sr_valid hsr5 HV1.out
  have hback := ts_back hmeet hpv
  have hrd5 := HRD.out
  rw [hback] at hrd5
  have hA5 : Reads w5 w5.heap.size 1 A4 n4 (ts.map .string) := (hrd5.keep fun _ hp => hb5.cell hp).more hb5.size
  have hpl : ∀ p ∈ ps, AllV p ∧ p.length ≤ 2000 := fun p hp => ⟨hpv p hp, by have := sr_len hsr5 p hp; have := HN1.out; omega⟩
  have hpp : Parts w5 us ps := ⟨hp5.1, fun i v p h1 h2 => by
    obtain ⟨ad, cc, hv, hi⟩ := hp5.2 i v p h1 h2
    exact ⟨ad, cc, hv, hi.below hb5⟩⟩
  have hcnt := sr_count hsr5
  have S := Lib.hid (same_any A4 A5 n4 cc4 N5 C5 ts us ps w5 hA5 hr5 hpp hN5 hmeet hpl (by omega))
  have HB5 := Lib.hid (HB4.out.trans (hb5.mono HB4.out.size))
  clear hr5 hp5 hN5 hsr5 hb5 hmeet hpv hback hrd5 hA5 hpl hpp hcnt R
  go_wp2_with fail
  refine S.out.mono ?_
  rintro e w6 ⟨rfl, hb6⟩
  have HB6 := Lib.hid (HB5.out.trans (hb6.mono HB5.out.size))
  clear hb6
  go_wp2_with fail
  go_ret
  exact ⟨rfl, HB6.out⟩
end Go.Proofs.Ytkjmbnfchiippaa
