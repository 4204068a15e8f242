/- builtinSplitLimitR: the walk. -/
import Derived.Test.YtkjmbnfchiippaaBuiltS
import Derived.Handy
namespace Go.Proofs.Ytkjmbnfchiippaa
open Go.RowKit

def bl (s : ByteArray) : List UInt8 := s.data.toList
/-- What builtinSplitLimitR hands back. -/
def BuiltOk (s c : ByteArray) (most : Nat) (w : World) (e : Ending) (w' : World) : Prop :=
  ∃ (r : Nat) (ts : List ByteArray), e = .returned (.tuple #[.iface 94 (.pointer (some ⟨r, 0, none⟩)), .nilIface]) ∧ ARS w' r (ts.map runesOf) ∧ SR (bl c) most (bl s) (ts.map bl) ∧ Below w.heap.size w w'

theorem bl_drop (s : ByteArray) (k : Nat) : bl (s.extract k s.size) = (bl s).drop k := by
  unfold bl
  simp only [ByteArray.data_extract, Array.toList_extract, List.extract]
  rw [List.take_of_length_le (by simp)]
theorem bl_take (s : ByteArray) (k : Nat) : bl (s.extract 0 k) = (bl s).take k := by
  unfold bl
  simp
theorem bl_len (s : ByteArray) : (bl s).length = s.size := by simp [bl]
theorem row_set {ts : List ByteArray} {i : Nat} {t : ByteArray} (h : i < ts.length) : ((ts.set i t).drop i).map bl = bl t :: ((ts.drop (i + 1)).map bl) := by
  rw [List.drop_eq_getElem_cons (by simpa using h), List.getElem_set_self, List.map_cons, List.drop_set_of_lt (by omega)]

theorem sr_len {α : Type} {c l : List α} {m : Nat} {r : List (List α)} (h : SR c m l r) : ∀ p ∈ r, p.length ≤ l.length := by
  induction h with
  | zero l => intro p hp; simp at hp; subst hp; exact Nat.le_refl _
  | none m l _ => intro p hp; simp at hp; subst hp; exact Nat.le_refl _
  | step m l k r _ _ ih =>
    intro p hp
    rcases List.mem_append.1 hp with hp | hp
    · have := ih p hp
      rw [List.length_take] at this
      omega
    · simp at hp
      subst hp
      rw [List.length_drop]
      omega
theorem FSB.mono {w : World} {B B' : Nat} {r : Addr} {l : List Int} (h : FSB w B r l) (hB : B' ≤ B) : FSB w B' r l := by
  obtain ⟨h0, A, c, h1, h2, h3⟩ := h
  exact ⟨by omega, A, c, by omega, h2, h3⟩
theorem TS.mono {w : World} {B B' : Nat} {v : Value} {l : List Int} (h : TS w B v l) (hB : B' ≤ B) : TS w B' v l := by
  obtain ⟨t, r, h1, h2, h3, h4⟩ := h
  exact ⟨t, r, h1, by omega, h3, h4.mono hB⟩
theorem TS.drew {w : World} {B : Nat} {v : Value} {l : List Int} (h : TS w B v l) : TS w.drew B v l := h
/-- The first k thunks of a row are made. -/
def Made (w : World) (B : Nat) (us : List Value) (ts : List ByteArray) (k : Nat) : Prop := ∀ (j : Nat) v t, j < k → us[j]? = some v → ts[j]? = some t → TS w B v (runesOf t)

set_option maxRecDepth 100000 in
set_option maxHeartbeats 3200000 in
theorem built_any (i : Value) (r1 r2 : Addr) (q x most : Nat) (s c : ByteArray) (w : World) (h1 : FlatS w r1 (runesOf s)) (h2 : FlatS w r2 (runesOf c)) (hx : floatOfInt .f64 (most : Int) = x) (hq : w.cell? ⟨q, 0, none⟩ = some (.float .f64 x))
    (hv1 : Lib.validD s.data.toList = true) (hv2 : Lib.validD c.data.toList = true) (hs : s.size ≤ 2000) (hc : c.size ≤ 2000) (hc1 : 1 ≤ c.size) (hmost : most < 256) (hnb : NB (bl c)) :
    Calls Try.prog 24 #[i, .iface 86 (.pointer (some r1)), .iface 86 (.pointer (some r2)), .iface 109 (.pointer (some ⟨q, 0, none⟩))] w (BuiltOk s c most w) := by
  have hcne : bl c ≠ [] := fun e => by
    have := congrArg List.length e
    rw [bl_len] at this
    simp only [List.length_nil] at this
    omega
  obtain ⟨N, hN⟩ : ∃ N, occs (bl s) (bl c) = N := ⟨_, rfl⟩
  have hNs : N ≤ 2000 := by
    have : ∀ k, nocc (bl s) (bl c) k ≤ k := by
      intro k
      induction k with
      | zero => exact Nat.le_refl _
      | succ k ih =>
        by_cases ho : Occ (bl s) (bl c) k
        · rw [nocc_hit ho]; omega
        · rw [nocc_miss ho]; omega
    have := this (bl s).length
    rw [← hN]
    unfold occs
    rw [bl_len] at this ⊢
    omega
  have C1 := Lib.hid (fun w' (hb : Below w.heap.size w w') => goString_valid s r1 w' (h1.below hb) hv1)
  have C2 := Lib.hid (fun w' (hb : Below w.heap.size w w') => goString_valid c r2 w' (h2.below hb) hv2)
  have C3 := Lib.hid (getInt_any i q most x w (by omega) hx hq)
  have C4 : ∀ w', Calls Try.prog 33 #[.string s, .string c] w' fun e w2 => e = .returned (.int .i64 (N : Nat)) ∧ w' = w2 := fun w' => (count_any s c w' hc1 (by omega) (by omega) hnb).mono fun e w2 ⟨he, hw⟩ => ⟨by rw [he, ← hN]; rfl, hw⟩
  have C4 := Lib.hid C4
  have hinit : ∃ cnt, ((most < N ∧ cnt = most) ∨ (¬ most < N ∧ cnt = N)) := by
    by_cases h : most < N
    · exact ⟨_, .inl ⟨h, rfl⟩⟩
    · exact ⟨_, .inr ⟨h, rfl⟩⟩
  have HNB := Lib.hid hnb
  have HNE := Lib.hid hcne
  have HNN := Lib.hid hN
  obtain ⟨cnt, hinit⟩ := hinit
  have hfin : ∀ r, SR (bl c) cnt (bl s) r → SR (bl c) most (bl s) r := by
    intro r hr
    rcases hinit with ⟨_, rfl⟩ | ⟨hge, rfl⟩
    · exact hr
    · exact hr.more HNB.out HNE.out HNN.out.symm most (by omega)
  have hcn : cnt ≤ N := by omega
  have HCN := Lib.hid hcn
  have HFIN := Lib.hid hfin
  have hcnt2 : cnt ≤ 2000 := by omega
  clear h1 h2 hx hq hv1 hv2 hnb hcne hN hfin hcn
  rcases hinit with ⟨hlt, rfl⟩ | ⟨hlt, rfl⟩
  all_goals
    have hlt2 : True := trivial
    go_enter Try.func24, Try.ntmps24
    go_wp2_with (go_at_call 30; refine (getString_any _ _ _).mono ?_; rintro e w' ⟨rfl, rfl⟩)
    refine C3.out.mono ?_
    rintro e w1 ⟨rfl, hb1⟩
    have HB1 := Lib.hid hb1
    clear hb1
    go_wp2_with fail
    refine (C1.out w1 HB1.out).mono ?_
    rintro e w' ⟨rfl, rfl⟩
    go_wp2_with fail
    refine (C2.out w1 HB1.out).mono ?_
    rintro e w' ⟨rfl, rfl⟩
    go_wp2_with fail
    refine (C4.out w1).mono ?_
    rintro e w' ⟨rfl, rfl⟩
    obtain ⟨iS, hiS, hzS0, hzS1, hzS2⟩ := info_parts infoSt
    obtain ⟨n, hn⟩ : ∃ n, n = cnt + 1 := ⟨_, rfl⟩
    have hne : (cnt : Int) + 1 = n := by omega
    have hr := run_make (P := Try.prog) w1 29 9 iS (.string ⟨#[]⟩) Try.underlying29 hiS hzS0 .i64 .i64 n n (by omega) (Int.le_refl _) (by rw [hzS2]; omega) (by omega)
    rw [Int.toNat_natCast, hzS1, Nat.mul_one] at hr
    obtain ⟨M, hM⟩ : ∃ M, madeCells (Value.string ⟨#[]⟩).cells n = M := ⟨_, rfl⟩
    rw [hM] at hr
    have hMs : M = ((List.replicate n (⟨#[]⟩ : ByteArray)).map Value.string).toArray := by
      rw [← hM]
      apply Array.ext'
      rw [show (Value.string ⟨#[]⟩).cells = #[Value.string ⟨#[]⟩] from rfl, toList_madeCells_one]
      simp
    have HM := Lib.hid hMs
    have HNC := Lib.hid hn
    have hn1 : 1 ≤ n := by omega
    have hn2 : cnt < n := by omega
    have hn3 : n ≤ 2001 := by omega
    obtain ⟨g, hg⟩ : ∃ g, g = w1.heap.size := ⟨_, rfl⟩
    have HG := Lib.hid hg
    have HG0 := Lib.hid (heap_alloc_new w1 (.cells M 9))
    have HB2 := Lib.hid (HB1.out.alloc HB1.out.size (.cells M 9))
    have hgw : w.heap.size ≤ g := by rw [hg]; exact HB1.out.size
    rw [← hg] at hr HG0
    clear hM hMs hn hiS hzS0 hzS1 hzS2 hg
    go_wp2_with fail
    clear hr
    go_loopw [14, 18] (fun vs vi wr => ∃ (k : Nat) (S : ByteArray) (ts : List ByteArray), vs = .string S ∧ vi = .int .i64 k ∧ k ≤ cnt ∧ S.size ≤ 2000 ∧ ts.length = n ∧ wr.heap[g]? = some (.cells (ts.map Value.string).toArray 9 (0, 0)) ∧ k ≤ occs (bl S) (bl c) ∧ (∀ r, SR (bl c) k (bl S) r → SR (bl c) cnt (bl s) (r ++ (ts.drop (k + 1)).map bl)) ∧ Below w.heap.size w wr) (fun _ vi _ => (intOf vi).toNat)
    case atStart =>
      refine ⟨cnt, s, List.replicate n ⟨#[]⟩, rfl, rfl, Nat.le_refl _, hs, by simp, by rw [← HM.out]; exact HG0.out, by rw [HNN.out]; exact HCN.out, fun r hr => ?_, HB2.out⟩
      rw [List.drop_eq_nil_of_le (by rw [List.length_replicate, HNC.out]; omega)]
      simpa using hr
    case round =>
      obtain ⟨k, S, ts, rfl, rfl, hk, hSs, htl, hrow, hocc, hsr, hb⟩ := hrel
      have HROW := Lib.hid hrow
      have HOCC := Lib.hid hocc
      have HSR := Lib.hid hsr
      have HB := Lib.hid hb
      have HTL := Lib.hid htl
      clear hrow hocc hsr hb htl
      have cellk : ∀ j, j < n → ∃ t, wr.cell? ⟨g, j, none⟩ = some (.string t) := fun j hj => by
        rw [cell_of_row wr g j _ _ (0, 0) HROW.out]
        refine ⟨ts[j]'(by rw [HTL.out]; exact hj), ?_⟩
        simp [List.getElem?_map, List.getElem?_eq_getElem (show j < ts.length by rw [HTL.out]; exact hj)]
      by_cases hk0 : 0 < k
      · obtain ⟨kk, hl, hli⟩ := last_some HNE.out (show 0 < occs (bl S) (bl c) by have := HOCC.out; omega)
        have hle := hl.1.le HNE.out
        rw [bl_len, bl_len] at hle
        obtain ⟨p, hp⟩ : ∃ p, p = kk + c.size := ⟨_, rfl⟩
        have hpe : (kk : Int) + c.size = p := by omega
        have hpS : p ≤ S.size := by omega
        have hkS : kk ≤ S.size := by omega
        have hkn : (k : Int) < n := by omega
        obtain ⟨t0, hct⟩ := cellk k (by omega)
        have hfz := frozen_of_row wr g k _ _ HROW.out
        have CL : Calls Try.prog 34 #[.string S, .string c] wr fun e w' => e = .returned (.int .i64 kk) ∧ wr = w' := (Go.Proofs.Try.strings_LastIndex S c (by omega) wr).mono fun e w' ⟨he, hw⟩ => ⟨by rw [he, ← hli]; rfl, hw.symm⟩
        have hrow2 := heap_setCell_same wr g k _ _ (.string (S.extract p S.size)) HROW.out
        have hb2 := HB.out.setCell (p := ⟨g, k, none⟩) hgw (.string (S.extract p S.size))
        have hnext : ∀ r, SR (bl c) (k - 1) (bl (S.extract 0 kk)) r → SR (bl c) cnt (bl s) (r ++ ((ts.set k (S.extract p S.size)).drop (k - 1 + 1)).map bl) := by
          intro r hr
          rw [bl_take] at hr
          have h2 := SR.step (k - 1) (bl S) kk r hl hr
          rw [show k - 1 + 1 = k by omega] at h2
          have h3 := HSR.out _ h2
          rw [show k - 1 + 1 = k by omega, row_set (by rw [HTL.out]; omega), bl_drop, hp, ← bl_len c]
          simpa using h3
        have hocc2 : k - 1 ≤ occs (bl (S.extract 0 kk)) (bl c) := by
          rw [bl_take]
          have := occs_last HNB.out HNE.out hl
          have := HOCC.out
          omega
        have HNEXT := Lib.hid hnext
        have HOCC2 := Lib.hid hocc2
        have HROW2 := Lib.hid hrow2
        have HB3 := Lib.hid hb2
        have CLH := Lib.hid CL
        have hsz3 : (S.extract 0 kk).size ≤ 2000 := by rw [ByteArray.size_extract]; omega
        have HSZ3 := Lib.hid hsz3
        clear hl hli hle hp CL hrow2 hb2 hnext hocc2 cellk hsz3
        go_wp2_with fail
        refine CLH.out.mono ?_
        rintro e w' ⟨rfl, rfl⟩
        go_wp2_with fail
        go_roundw
        case rel =>
          refine ⟨k - 1, _, ts.set k (S.extract p S.size), rfl, by go_num, by omega, HSZ3.out, by rw [List.length_set]; exact HTL.out, ?_, HOCC2.out, HNEXT.out, HB3.out⟩
          rw [HROW2.out]
          congr 2
          apply Array.ext'
          simp
        case measure => simp [intOf]; omega
      · have hkz : k = 0 := by omega
        have hkz2 : ¬ (0 : Int) < k := by omega
        have HKZ := Lib.hid hkz
        clear hkz
        obtain ⟨t0, hct⟩ := cellk 0 (by omega)
        have hfz := frozen_of_row wr g 0 _ _ HROW.out
        have hn0 : (0 : Int) < n := by omega
        obtain ⟨ts', hts⟩ : ∃ ts', ts.set 0 S = ts' := ⟨_, rfl⟩
        have hrow2 := heap_setCell_same wr g 0 _ _ (.string S) HROW.out
        rw [show (ts.map Value.string).toArray.setIfInBounds 0 (.string S) = (ts'.map Value.string).toArray by rw [← hts]; apply Array.ext'; simp] at hrow2
        have hb2 := HB.out.setCell (p := ⟨g, 0, none⟩) hgw (.string S)
        have hsrt := HFIN.out (ts'.map bl) (by
          have h3 := HSR.out
          rw [HKZ.out] at h3
          have h3 := h3 _ (SR.zero _)
          have h4 := row_set (ts := ts) (i := 0) (t := S) (by rw [HTL.out]; omega)
          rw [hts, List.drop_zero] at h4
          rw [h4]
          exact h3)
        have htl2 : ts'.length = n := by rw [← hts, List.length_set]; exact HTL.out
        obtain ⟨iP, hiP, hzP0, hzP1, hzP2⟩ := info_parts infoT
        have hr := run_make (P := Try.prog) (wr.setCell ⟨g, 0, none⟩ (.string S)) 91 95 iP (.pointer none) Try.underlying91 hiP hzP0 .i64 .i64 n n (by omega) (Int.le_refl _) (by rw [hzP2]; omega) (by omega)
        rw [Int.toNat_natCast, hzP1, Nat.mul_one] at hr
        obtain ⟨M2, hM2⟩ : ∃ M, madeCells (Value.pointer none).cells n = M := ⟨_, rfl⟩
        rw [hM2] at hr
        have hM2s : M2.toList = List.replicate n (.pointer none) := by
          rw [← hM2, show (Value.pointer none).cells = #[Value.pointer none] from rfl, toList_madeCells_one]
        have HM2 := Lib.hid hM2s
        obtain ⟨h, hh⟩ : ∃ h, h = wr.heap.size := ⟨_, rfl⟩
        have hgh : g < h := by rw [hh]; exact (Array.getElem?_eq_some_iff.1 HROW.out).1
        have hrow3 : ((wr.setCell ⟨g, 0, none⟩ (.string S)).alloc (.cells M2 95)).heap[g]? = some (.cells (ts'.map Value.string).toArray 9 (0, 0)) := (Below.heap_alloc _ _ _ (by simp; omega)).trans hrow2
        have hrow4 := heap_alloc_new (wr.setCell ⟨g, 0, none⟩ (.string S)) (.cells M2 95)
        rw [World.size_setCell, ← hh] at hr hrow4
        have hb3 := hb2.alloc hb2.size (.cells M2 95)
        have HR3 := Lib.hid hrow3
        have HR4 := Lib.hid hrow4
        have HB3 := Lib.hid hb3
        have HSRT := Lib.hid hsrt
        have HTL2 := Lib.hid htl2
        have hwh : w.heap.size ≤ h := by rw [hh]; exact HB.out.size
        clear hrow2 hb2 hsrt htl2 hiP hzP0 hzP1 hzP2 hM2 hM2s hh hrow3 hrow4 hb3 hts cellk
        go_wp2_with fail
        clear hr
        go_loopw [104] (fun vi w4 => ∃ (k : Nat) (us : List Value), vi = .int .i64 k ∧ k ≤ n ∧ us.length = n ∧ w4.heap[h]? = some (.cells us.toArray 95 (0, 0)) ∧ w4.heap[g]? = some (.cells (ts'.map Value.string).toArray 9 (0, 0)) ∧ Made w4 (h + 1) us ts' k ∧ Below w.heap.size w w4) (fun vi _ => n - (intOf vi).toNat)
        case atStart =>
          refine ⟨0, List.replicate n (.pointer none), rfl, Nat.zero_le _, by simp, by rw [HR4.out, ← HM2.out], HR3.out, fun j v t hj => absurd hj (by omega), HB3.out⟩
        case round =>
          obtain ⟨k, us, rfl, hk, hul, hrh, hrg, hmade, hb⟩ := hrel
          have HRH := Lib.hid hrh
          have HRG := Lib.hid hrg
          have HMD := Lib.hid hmade
          have HB4 := Lib.hid hb
          have HUL := Lib.hid hul
          have hhw : h < wr.heap.size := (Array.getElem?_eq_some_iff.1 hrh).1
          have hgw2 : g < wr.heap.size := (Array.getElem?_eq_some_iff.1 hrg).1
          clear hrh hrg hmade hb hul
          by_cases hlt : k < n
          · obtain ⟨t, ht⟩ : ∃ t, ts'[k]? = some t := ⟨_, List.getElem?_eq_getElem (by have := HTL2.out; omega)⟩
            obtain ⟨u0, hu0⟩ : ∃ u, us[k]? = some u := ⟨_, List.getElem?_eq_getElem (by have := HUL.out; omega)⟩
            have hck : wr.cell? ⟨g, k, none⟩ = some (.string t) := by
              rw [cell_of_row wr g k _ _ (0, 0) HRG.out]
              simp [ht]
            have hkn : (k : Int) < n := by omega
            have htsz : t.size ≤ 70368744177664 := by
              have h5 := sr_len HSRT.out (bl t) (List.mem_map.2 ⟨t, List.mem_of_getElem? ht, rfl⟩)
              rw [bl_len, bl_len] at h5
              omega
            have HT := Lib.hid ht
            have HU0 := Lib.hid hu0
            have HTSZ := Lib.hid htsz
            clear ht hu0 htsz
            go_wp2_with fail
            refine (mkStrB t wr HTSZ.out).mono ?_
            rintro e w5 ⟨r, rfl, hfs, hb5⟩
            have HFS := Lib.hid hfs
            have HB5 := Lib.hid hb5
            have hsz5 := hb5.size
            clear hfs hb5
            go_wp2_with fail
            refine (readyS r w5).mono ?_
            rintro e w6 ⟨rfl, rfl⟩
            have hb6 := (Below.refl w5.heap.size w5).alloc (Nat.le_refl _) (thunkS r)
            have hts6 : TS (w5.alloc (thunkS r)) (h + 1) (.pointer (some ⟨w5.heap.size, 0, none⟩)) (runesOf t) := ⟨w5.heap.size, r, rfl, by omega, heap_alloc_new w5 (thunkS r), (HFS.out.mono (by omega)).below hb6⟩
            have hb56 := HB5.out.trans (hb6.mono hsz5)
            have hrh6 := (hb56.block h hhw).trans HRH.out
            have hrg6 := (hb56.block g hgw2).trans HRG.out
            have hmd6 : Made (w5.alloc (thunkS r)) (h + 1) us ts' k := fun j v t hj h1 h2 => (HMD.out j v t hj h1 h2).below hb56
            have hbw6 := HB4.out.trans (hb56.mono HB4.out.size)
            obtain ⟨w6, hw6⟩ : ∃ w6, w5.alloc (thunkS r) = w6 := ⟨_, rfl⟩
            obtain ⟨z, hz⟩ : ∃ z, z = w5.heap.size := ⟨_, rfl⟩
            rw [hw6] at hts6 hrh6 hrg6 hmd6 hbw6 ⊢
            rw [← hz] at hts6 ⊢
            have hcu : w6.cell? ⟨h, k, none⟩ = some u0 := by
              rw [cell_of_row w6 h k _ _ (0, 0) hrh6]
              simp [HU0.out]
            have hfu := frozen_of_row w6 h k _ _ hrh6
            have hrh7 := heap_setCell_same w6 h k _ _ (.pointer (some ⟨z, 0, none⟩)) hrh6
            have hrg7 := (heap_setCell_other w6 ⟨h, k, none⟩ g (.pointer (some ⟨z, 0, none⟩)) (by simp; omega)).trans hrg6
            have hmd7 : Made (w6.setCell ⟨h, k, none⟩ (.pointer (some ⟨z, 0, none⟩))) (h + 1) (us.set k (.pointer (some ⟨z, 0, none⟩))) ts' (k + 1) := by
              intro j v t' hj h1 h2
              by_cases hjk : j = k
              · subst hjk
                rw [HT.out] at h2
                injection h2 with h2
                subst h2
                rw [List.getElem?_set_self (by rw [HUL.out]; exact hlt)] at h1
                injection h1 with h1
                subst h1
                exact hts6.set (by omega) _
              · rw [List.getElem?_set_ne (by omega)] at h1
                exact (hmd6 j v t' (by omega) h1 h2).set (by omega) _
            have hb7 := hbw6.setCell (p := ⟨h, k, none⟩) hwh (.pointer (some ⟨z, 0, none⟩))
            have H1 := Lib.hid hrh7
            have H2 := Lib.hid hrg7
            have H3 := Lib.hid hmd7
            have H4 := Lib.hid hb7
            clear hb6 hts6 hb56 hrh6 hrg6 hmd6 hbw6 hw6 hz hrh7 hrg7 hmd7 hb7 hck
            go_wp2_with fail
            go_roundw
            case rel =>
              refine ⟨k + 1, _, by go_num, by omega, by rw [List.length_set]; exact HUL.out, ?_, H2.out, H3.out, H4.out⟩
              rw [H1.out]
              congr 2
              apply Array.ext'
              simp
            case measure => simp [intOf]; omega
          · obtain rfl : k = n := by omega
            go_wp2_with fail
            refine (mkArrS ⟨h, 0, none⟩ k wr).mono ?_
            rintro e w5 ⟨rfl, rfl⟩
            have hb5 := (Below.refl wr.heap.size wr).alloc (Nat.le_refl _) (.cells #[.slice (some ⟨h, 0, none⟩) k k] 93)
            have hars : ARS (wr.alloc (.cells #[.slice (some ⟨h, 0, none⟩) k k] 93)) wr.heap.size (ts'.map runesOf) := by
              refine ⟨⟨h, 0, none⟩, k, k, us, World.cell?_alloc_mark wr _ _ (0, 0) 0, by rw [List.length_map, HTL2.out], ⟨by rw [HUL.out, Nat.mul_one], fun _ => ⟨_, rfl, by simp; omega, fun j u hj => ?_⟩⟩, by rw [HUL.out, List.length_map, HTL2.out], fun j v l h1 h2 => ?_⟩
              · rw [show (⟨h, 0, none⟩ : Addr).add j = ⟨h, j, none⟩ by unfold Addr.add; split <;> simp_all]
                refine keeps hb5 ?_
                rw [cell_of_row wr h j _ _ (0, 0) HRH.out]
                simpa using hj
              · rw [List.getElem?_map] at h2
                obtain ⟨t, h3, rfl⟩ := Option.map_eq_some_iff.1 h2
                exact ((HMD.out j v t (by have := (List.getElem?_eq_some_iff.1 h3).1; rw [HTL2.out] at this; exact this) h1 h3).mono (Nat.zero_le _)).below hb5
            have HAR := Lib.hid hars
            have HB6 := Lib.hid (HB4.out.alloc HB4.out.size (.cells #[.slice (some ⟨h, 0, none⟩) k k] 93))
            clear hb5 hars
            go_wp2_with fail
            go_ret2
            exact ⟨_, ts', rfl, HAR.out, HSRT.out, HB6.out⟩
end Go.Proofs.Ytkjmbnfchiippaa
