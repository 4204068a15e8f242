/- spec.SplitRight. -/
import Derived.Test.YtkjmbnfchiippaaStandsS
import Derived.BigRegion
namespace Go.Proofs.Ytkjmbnfchiippaa
open Go.RowKit

/-- A slice of integers. -/
def SV (w : World) (v : Value) (l : List Int) : Prop := ∃ ad c, v = .slice (some ad) l.length c ∧ IA w ad l
def Parts (w : World) (us : List Value) (ps : List (List Int)) : Prop := us.length = ps.length ∧ ∀ (i : Nat) v p, us[i]? = some v → ps[i]? = some p → SV w v p
theorem Parts.snoc {w : World} {us : List Value} {ps : List (List Int)} {v : Value} {p : List Int} (h : Parts w us ps) (hv : SV w v p) : Parts w (us ++ [v]) (ps ++ [p]) := by
  refine ⟨by simp [h.1], fun i v' p' h1 h2 => ?_⟩
  by_cases hi : i < us.length
  · rw [List.getElem?_append_left hi] at h1
    rw [List.getElem?_append_left (by have := h.1; omega)] at h2
    exact h.2 i v' p' h1 h2
  · rw [List.getElem?_append_right (by omega)] at h1
    rw [List.getElem?_append_right (by have := h.1; omega), ← h.1] at h2
    have hi2 : i - us.length = 0 := by
      have := (List.getElem?_eq_some_iff.1 h1).1
      simp at this
      omega
    rw [hi2] at h1 h2
    simp at h1 h2
    subst h1 h2
    exact hv
theorem Parts.rev {w : World} {us : List Value} {ps : List (List Int)} (h : Parts w us ps) : Parts w us.reverse ps.reverse := by
  refine ⟨by simp [h.1], fun i v p h1 h2 => ?_⟩
  have hi := (List.getElem?_eq_some_iff.1 h1).1
  simp at hi
  rw [List.getElem?_reverse hi] at h1
  rw [List.getElem?_reverse (by have := h.1; omega), ← h.1] at h2
  exact h.2 _ v p h1 h2
theorem Parts.cell1 {w : World} {us : List Value} {ps : List (List Int)} (h : Parts w us ps) : ∀ v ∈ us, v.oneCell' = true := fun v hv => by
  obtain ⟨i, hi⟩ := List.getElem?_of_mem hv
  have hl := (List.getElem?_eq_some_iff.1 hi).1
  obtain ⟨ad, c, rfl, _⟩ := h.2 i v _ hi (List.getElem?_eq_getElem (by have := h.1; omega))
  rfl

theorem Parts.form {w : World} {us : List Value} {ps : List (List Int)} (h : Parts w us ps) {i : Nat} {v : Value} (hv : us[i]? = some v) : ∃ ad n c, v = .slice (some ad) n c := by
  have hl := (List.getElem?_eq_some_iff.1 hv).1
  obtain ⟨ad, c, rfl, _⟩ := h.2 i v _ hv (List.getElem?_eq_getElem (by have := h.1; omega))
  exact ⟨ad, _, c, rfl⟩
/-- Turned round up to place i from both ends. -/
def Half (us vs : List Value) (i : Nat) : Prop := vs.length = us.length ∧ ∀ j, j < us.length → vs[j]? = if j < i ∨ us.length ≤ j + i then us[us.length - 1 - j]? else us[j]?
theorem Half.start (us : List Value) : Half us us 0 := ⟨rfl, fun j hj => by rw [if_neg (by omega)]⟩
theorem Half.stop {us vs : List Value} {i : Nat} (h : Half us vs i) (hi : us.length ≤ 2 * i + 1) : vs = us.reverse := by
  apply List.ext_getElem?
  intro j
  by_cases hj : j < us.length
  · rw [h.2 j hj, List.getElem?_reverse hj]
    split
    · rfl
    · congr 1
      omega
  · rw [List.getElem?_eq_none (by rw [h.1]; omega), List.getElem?_eq_none (by simp; omega)]
theorem Half.step {us vs : List Value} {i k : Nat} {x y : Value} (h : Half us vs i) (hk : i + k + 1 = us.length) (hik : i < k) (hx : vs[i]? = some x) (hy : vs[k]? = some y) : Half us ((vs.set i y).set k x) (i + 1) := by
  refine ⟨by simp [h.1], fun j hj => ?_⟩
  have h1 := h.2 i (by omega)
  have h2 := h.2 k (by omega)
  rw [if_neg (by omega)] at h1 h2
  rw [List.getElem?_set, List.getElem?_set]
  by_cases hjk : k = j
  · subst hjk
    rw [if_pos rfl, if_pos (by simp [h.1]; omega), if_pos (by omega), show us.length - 1 - k = i by omega, ← h1, hx]
  · rw [if_neg hjk]
    by_cases hji : i = j
    · subst hji
      rw [if_pos rfl, if_pos (by rw [h.1]; omega), if_pos (by omega), show us.length - 1 - i = k by omega, ← h2, hy]
    · rw [if_neg hji, h.2 j hj]
      by_cases hc : j < i ∨ us.length ≤ j + i
      · rw [if_pos hc, if_pos (by omega)]
      · rw [if_neg hc, if_neg (by omega)]

theorem infoS : (Try.prog.info? 22).map (fun i => (i.zero, i.size, i.bytes)) = some (some (.slice none 0 0), 1, 24) := by kernel_rfl

/-- What SplitRight hands back. -/
def RightOk (u : List Int) (most : Nat) (l : List Int) (w : World) (e : Ending) (w' : World) : Prop :=
  ∃ A N C us ps, e = .returned (.slice A N C) ∧ Reads w' w'.heap.size 1 A N us ∧ Parts w us ps ∧ N = ps.length ∧ SR u most l ps ∧ Below w.heap.size w w'

set_option maxRecDepth 100000 in
set_option maxHeartbeats 3200000 in
theorem right_any (ad bd : Addr) (l u : List Int) (c d n m most : Nat) (w : World) (hl : IA w ad l) (hu : IA w bd u) (hn : n = l.length) (hm : m = u.length) (hm0 : 1 ≤ m) (hc : n ≤ c) (hcm : c ≤ maxLen) (hs : n ≤ 2000) (hs2 : m ≤ 2000) (hmost : most < 256) :
    Calls Try.prog 11 #[.slice (some ad) n c, .slice (some bd) m d, .int .i64 most] w (RightOk u most l w) := by
  obtain ⟨iI, hiI, hzI0, hzI1, hzI2⟩ := info_parts infoS
  have hune : u ≠ [] := by rintro rfl; simp at hm; omega
  have HL := Lib.hid hl
  have HU := Lib.hid hu
  have HN := Lib.hid hn
  have HM := Lib.hid hm
  have HNE := Lib.hid hune
  have hcm' : c ≤ 9223372036854775807 := by unfold maxLen at hcm; omega
  clear hl hu hn hm hune hcm
  go_enter Try.func11, Try.ntmps11
  go_wp2_with fail
  go_loopw [7, 8, 9] (fun v vt va wr => ∃ (t n' c' : Nat) (a : Int) (A' : Addr) (us : List Value) (ps : List (List Int)), v = .slice (some A') n' c' ∧ vt = .int .i64 t ∧ va = .int .i64 a ∧ t ≤ n ∧ a + m ≤ t ∧ -(m : Int) ≤ a ∧ n' ≤ most ∧ n' + t ≤ n ∧ n' = ps.length ∧ wr.ownsRow w.heap.size 22 1 (.slice (some A') n' c') n' us ∧ Parts w us ps ∧ (∀ r, SR u (most - n') (l.take t) r → SR u most l (r ++ ps.reverse)) ∧ (n' = most ∨ ∀ j : Nat, a < j → ¬ Occ (l.take t) u j) ∧ Below w.heap.size w wr) (fun _ _ va _ => (intOf va + 1).toNat)
  case atStart =>
    refine ⟨n, 0, 0, (n : Int) - m, _, [], [], rfl, rfl, rfl, Nat.le_refl _, by omega, by omega, Nat.zero_le _, by omega, rfl, ?_, ⟨rfl, fun i v p h => by simp at h⟩, fun r hr => ?_, .inr fun j hj ho => ?_, (Below.refl _ _).alloc (Nat.le_refl _) _⟩
    · have := World.ownsRow_made (base := w.heap.size) (e := 22) (size := 1) w #[] 0 (by omega) (by simp [maxLen]) rfl
      simpa using this
    · rw [HN.out, List.take_of_length_le (Nat.le_refl _)] at hr
      simpa using hr
    · have := ho.le HNE.out
      rw [List.length_take, ← HN.out, ← HM.out] at this
      omega
  case round =>
    obtain ⟨t, n', c', a, A', us, ps, rfl, rfl, rfl, htn, hat, ham, hnm, hnt, hnp, hrow, hpar, hsr, hno, hb⟩ := hrel
    have HROW := Lib.hid hrow
    have HP := Lib.hid hpar
    have HSR := Lib.hid hsr
    have HNO := Lib.hid hno
    have HNP := Lib.hid hnp
    have HB := Lib.hid hb
    have hsz := hb.size
    clear hrow hpar hsr hno hnp hb
    by_cases ha : 0 ≤ a
    · obtain ⟨k, rfl⟩ : ∃ k : Nat, a = k := ⟨a.toNat, by omega⟩
      by_cases hfull : n' = most
      · subst hfull
        go_wp2_with fail
        go_roundw
        case rel => exact ⟨t, n', c', (k : Int) - 1, A', us, ps, rfl, rfl, by go_num, htn, by omega, by omega, Nat.le_refl _, hnt, HNP.out, HROW.out, HP.out, HSR.out, .inl rfl, HB.out⟩
        case measure => simp [intOf]
      · have hkm : k + m ≤ n := by omega
        have hkmt : (k : Int) + m ≤ t := by omega
        have hfull' : ¬ (n' : Int) = most := by omega
        go_wp2_with fail
        refine (stands_any ad bd l u c d n m k _ (HL.out.below HB.out) (HU.out.below HB.out) HN.out HM.out hkm hs).mono ?_
        rintro e w1 ⟨b, q, rfl, hbo, rfl⟩
        have HBO := Lib.hid hbo
        clear hbo
        cases b with
        | false =>
          go_wp2_with fail
          go_roundw
          case rel =>
            refine ⟨t, n', c', (k : Int) - 1, A', us, ps, rfl, rfl, by go_num, htn, by omega, by omega, hnm, hnt, HNP.out, HROW.out, HP.out, HSR.out, .inr fun j hj ho => ?_, below_drewN HB.out q⟩
            rcases HNO.out with h | h
            · exact hfull h
            · by_cases hjk : j = k
              · subst hjk
                have := HBO.out.2 (ho.of_take HNE.out).1
                cases this
              · exact h j (by omega) ho
          case measure => simp [intOf]
        | true =>
          have hocc := Lib.hid (HBO.out.1 rfl)
          have HB2 := Lib.hid (below_drewN HB.out q)
          have hrow2 : (wr.drewN q).ownsRow w.heap.size 22 1 (.slice (some A') n' c') n' us := HROW.out
          have HROW2 := Lib.hid hrow2
          clear hrow2
          obtain ⟨wq, hwq⟩ : ∃ wq, wr.drewN q = wq := ⟨_, rfl⟩
          have hszq : w.heap.size ≤ wq.heap.size := by rw [← hwq]; exact hsz
          rw [hwq] at HB2 HROW2 ⊢
          clear hwq HBO HB HROW
          obtain ⟨p, hp⟩ : ∃ p, p = k + m := ⟨_, rfl⟩
          have hpe : (k : Int) + m = p := by omega
          have hpt : p ≤ t := by omega
          have hpt' : (p : Int) ≤ t := by omega
          have HPE := Lib.hid hp
          have hpk : k < p := by omega
          have hp2 : p ≤ n := by omega
          clear hp
          have hnext : ∀ r, SR u (most - (n' + 1)) (l.take k) r → SR u most l (r ++ (ps ++ [(l.drop p).take (t - p)]).reverse) := by
            intro r hr
            have h0 := HNO.out.resolve_left hfull
            have hlast : IsLast (l.take t) u k := ⟨hocc.out.take (by rw [← HM.out]; omega), fun j hj => h0 j (by omega)⟩
            have hst := SR.step (most - (n' + 1)) (l.take t) k r hlast (by rwa [List.take_take, Nat.min_eq_left (by omega)])
            rw [show most - (n' + 1) + 1 = most - n' by omega, ← HM.out, ← HPE.out, List.drop_take] at hst
            have := HSR.out _ hst
            simpa using this
          have HNX := Lib.hid hnext
          clear hnext
          have hlen : ((l.drop p).take (t - p)).length = t - p := by rw [List.length_take, List.length_drop, ← HN.out]; omega
          have hsv : ∀ x, p < c → SV w (.slice (some (ad.add p)) (t - p) x) ((l.drop p).take (t - p)) := fun x _ => ⟨_, x, by rw [hlen], (HL.out.drop p).take _⟩
          have hsv2 : ∀ x, t - p = 0 → SV w (.slice (some ad) 0 x) ((l.drop p).take (t - p)) := fun x h0 => ⟨ad, x, by rw [hlen, h0], by rw [h0]; intro j v hj; simp at hj⟩
          have HSV := Lib.hid hsv
          have HSV2 := Lib.hid hsv2
          clear hlen hsv hsv2
          rcases (show p < c ∨ c = p by omega) with hpc | hpc
          · go_wp2_with
              (refine wpList_append_any _ (by rfl) (.tmp 40) (.tmp 48) 34 (by rfl) w.heap.size 22 iI (.slice none 0 0) 1 24 Try.underlying34 hiI hzI0 hzI1 hzI2 rfl (Nat.lt_add_one 0) (.slice (some A') n' c') n' us (by rfl) ?_ (wq.heap.size + 1) (some ⟨wq.heap.size, 0, none⟩) 1 1 [.slice (some (ad.add p)) (t - p) (c - p)] (by rfl) ?_ ?_ ?_ ?_ ?_ (n' + 1) ?_ (us ++ [.slice (some (ad.add p)) (t - p) (c - p)]) ?_ ?_
               · exact HROW2.out.alloc _
               · exact Reads.of_block (heap_alloc_new wq _) rfl
               · (simp [Value.oneCell'])
               · (unfold maxLen; omega)
               · omega
               · (simp; omega)
               · rfl
               · rfl
               intro A2 c2 w2 hap)
            have hb3 : Below w.heap.size w w2 := (HB2.out.alloc hszq _).grown hap.grown (by simp; omega) (fun g hg => (HROW2.out.lt g hg).1)
            have hown2 := hap.own
            obtain ⟨g, cap, hv, _, _⟩ := hown2.form (by omega)
            have hA2 : A2 = some ⟨g, 0, none⟩ := by injection hv
            subst hA2
            have HB3 := Lib.hid hb3
            have HOWN := Lib.hid hown2
            clear hap hv hb3 hown2
            go_roundw
            case rel => exact ⟨k, n' + 1, c2, (k : Int) - m, ⟨g, 0, none⟩, _, _, rfl, rfl, by go_num, by omega, by omega, by omega, by omega, by omega, by rw [List.length_append, ← HNP.out]; rfl, HOWN.out, HP.out.snoc (HSV.out _ hpc), HNX.out, .inr (fun j hj ho => by have := ho.le HNE.out; rw [List.length_take, ← HM.out] at this; omega), HB3.out⟩
            case measure => simp [intOf]; omega
          · obtain rfl : t = p := by omega
            subst hpc
            go_wp2_with
              (refine wpList_append_any _ (by rfl) (.tmp 40) (.tmp 48) 34 (by rfl) w.heap.size 22 iI (.slice none 0 0) 1 24 Try.underlying34 hiI hzI0 hzI1 hzI2 rfl (Nat.lt_add_one 0) (.slice (some A') n' c') n' us (by rfl) ?_ (wq.heap.size + 1) (some ⟨wq.heap.size, 0, none⟩) 1 1 [.slice (some ad) 0 0] (by rfl) ?_ ?_ ?_ ?_ ?_ (n' + 1) ?_ (us ++ [.slice (some ad) 0 0]) ?_ ?_
               · exact HROW2.out.alloc _
               · exact Reads.of_block (heap_alloc_new wq _) rfl
               · (simp [Value.oneCell'])
               · (unfold maxLen; omega)
               · omega
               · (simp; omega)
               · rfl
               · rfl
               intro A2 c2 w2 hap)
            have hb3 : Below w.heap.size w w2 := (HB2.out.alloc hszq _).grown hap.grown (by simp; omega) (fun g hg => (HROW2.out.lt g hg).1)
            have hown2 := hap.own
            obtain ⟨g, cap, hv, _, _⟩ := hown2.form (by omega)
            have hA2 : A2 = some ⟨g, 0, none⟩ := by injection hv
            subst hA2
            have HB3 := Lib.hid hb3
            have HOWN := Lib.hid hown2
            clear hap hv hb3 hown2
            go_roundw
            case rel => exact ⟨k, n' + 1, c2, (k : Int) - m, ⟨g, 0, none⟩, _, _, rfl, rfl, by go_num, by omega, by omega, by omega, by omega, by omega, by rw [List.length_append, ← HNP.out]; rfl, HOWN.out, HP.out.snoc (HSV2.out _ (by omega)), HNX.out, .inr (fun j hj ho => by have := ho.le HNE.out; rw [List.length_take, ← HM.out] at this; omega), HB3.out⟩
            case measure => simp [intOf]; omega
    · have HEND := Lib.hid (show SR u most l (ps ++ [l.take t]).reverse from by
        have h0 : SR u (most - n') (l.take t) [l.take t] := by
          rcases HNO.out with h | h
          · rw [h, Nat.sub_self]
            exact .zero _
          · exact .none _ _ fun j => h j (by omega)
        have := HSR.out _ h0
        simpa using this)
      have HPQ := Lib.hid (HP.out.snoc (v := .slice (some ad) t c) (p := l.take t) ⟨ad, c, by rw [List.length_take, ← HN.out, Nat.min_eq_left htn], HL.out.take t⟩)
      have hQlen : (ps ++ [l.take t]).length = n' + 1 := by rw [List.length_append, ← HNP.out]; rfl
      have HQL := Lib.hid hQlen
      clear hQlen HSR HNO
      have htc : (t : Int) ≤ c := by omega
      go_wp2_with
        (refine wpList_append_any _ (by rfl) (.tmp 57) (.tmp 61) 34 (by rfl) w.heap.size 22 iI (.slice none 0 0) 1 24 Try.underlying34 hiI hzI0 hzI1 hzI2 rfl (Nat.lt_add_one 0) (.slice (some A') n' c') n' us (by rfl) ?_ (wr.heap.size + 1) (some ⟨wr.heap.size, 0, none⟩) 1 1 [.slice (some ad) t c] (by rfl) ?_ ?_ ?_ ?_ ?_ (n' + 1) ?_ (us ++ [.slice (some ad) t c]) ?_ ?_
         · exact HROW.out.alloc _
         · exact Reads.of_block (heap_alloc_new wr _) rfl
         · (simp [Value.oneCell'])
         · (unfold maxLen; omega)
         · omega
         · (simp; omega)
         · rfl
         · rfl
         intro A2 c2 w2 hap)
      have hb3 : Below w.heap.size w w2 := (HB.out.alloc hsz _).grown hap.grown (by simp; omega) (fun g hg => (HROW.out.lt g hg).1)
      have hown2 := hap.own
      obtain ⟨h1, h2⟩ := hown2
      rcases h2 with ⟨h2, h3⟩ | ⟨g, cap, cur, hv, hwg, hg, hnc, hcm2, hcs, htk⟩
      · omega
      injection hv with hA2 _ hc2
      subst hA2 hc2
      rw [Nat.mul_one] at htk hcs
      obtain ⟨us', hus'⟩ : ∃ us', us ++ [.slice (some ad) t c] = us' := ⟨_, rfl⟩
      rw [hus'] at htk HPQ
      have hul : us'.length = n' + 1 := by rw [← htk, List.length_take, Array.length_toList, hcs, Nat.min_eq_left hnc]
      have HB3 := Lib.hid hb3
      have HG := Lib.hid hg
      have HTK := Lib.hid htk
      have HCS := Lib.hid hcs
      have HUL := Lib.hid hul
      have HWG := Lib.hid hwg
      clear hap hb3 h1 hus' htk hg hcs hul hwg HROW HP HB
      go_wp2_with fail
      go_loopw [10, 11] (fun vi vk w3 => ∃ (i : Nat) (vs : List Value) (cur' : Array Value), vi = .int .i64 i ∧ vk = .int .i64 ((n' : Int) - i) ∧ 2 * i ≤ n' + 1 ∧ w3.heap[g]? = some (.cells cur' 22 (0, 0)) ∧ cur'.toList.take (n' + 1) = vs ∧ cur'.size = c2 ∧ Half us' vs i ∧ Below w.heap.size w w3) (fun vi vk _ => (intOf vk + 1 - intOf vi).toNat)
      case atStart => exact ⟨0, us', cur, rfl, by simp, by omega, HG.out, HTK.out, HCS.out, Half.start us', HB3.out⟩
      case round =>
        obtain ⟨i, vs, cur', rfl, rfl, hi, hg3, htk3, hcs3, hhalf, hb3⟩ := hrel
        have HH := Lib.hid hhalf
        have HTK3 := Lib.hid htk3
        have HCS3 := Lib.hid hcs3
        have HB4 := Lib.hid hb3
        have HG3 := Lib.hid hg3
        clear hhalf htk3 hb3
        have hvl : vs.length = n' + 1 := HH.out.1.trans HUL.out
        by_cases hik : 2 * i < n'
        · obtain ⟨k, hk⟩ : ∃ k, k = n' - i := ⟨_, rfl⟩
          have hkk : (n' : Int) - i = k := by omega
          rw [hkk]
          have hlt : (i : Int) < k := by omega
          have hin : (i : Int) < n' + 1 := by omega
          have hkn : (k : Int) < n' + 1 := by omega
          have hsum : i + k + 1 = us'.length := by rw [HUL.out]; omega
          obtain ⟨x, hx⟩ : ∃ x, vs[i]? = some x := ⟨_, List.getElem?_eq_getElem (by omega)⟩
          obtain ⟨y, hy⟩ : ∃ y, vs[k]? = some y := ⟨_, List.getElem?_eq_getElem (by omega)⟩
          have tk : ∀ j z, vs[j]? = some z → wr.cell? ⟨g, j, none⟩ = some z := fun j z hz => by
            rw [cell_of_row wr g j cur' _ (0, 0) HG3.out]
            rw [← HTK3.out, List.getElem?_take] at hz
            split at hz
            · simpa using hz
            · cases hz
          obtain ⟨xa, xn, xc, rfl⟩ := HPQ.out.form (i := i) (v := x) (by rw [← hx, HH.out.2 i (by omega), if_neg (by omega)])
          obtain ⟨ya, yn, yc, rfl⟩ := HPQ.out.form (i := k) (v := y) (by rw [← hy, HH.out.2 k (by omega), if_neg (by omega)])
          have cx := tk i _ hx
          have cy := tk k _ hy
          have fx := frozen_of_row wr g i cur' _ HG3.out
          have fy := frozen_of_row wr g k cur' _ HG3.out
          have hne : i ≠ k := by omega
          have HX := Lib.hid hx
          have HY := Lib.hid hy
          have HSUM := Lib.hid hsum
          clear hx hy tk hsum hk hkk hvl hg3 hcs3
          go_wp2_with fail
          go_region
          have hrow3 := heap_setCell_same _ g k _ _ (.slice (some xa) xn xc) (heap_setCell_same wr g i cur' _ (.slice (some ya) yn yc) HG3.out)
          have hb5 := ((HB4.out.setCell (p := ⟨g, i, none⟩) HWG.out (.slice (some ya) yn yc)).setCell (p := ⟨g, k, none⟩) HWG.out (.slice (some xa) xn xc))
          have HR5 := Lib.hid hrow3
          have HB5 := Lib.hid hb5
          clear hrow3 hb5 cx cy fx fy
          go_wp2_with fail
          go_roundw
          case rel =>
            have hh1 := HSUM.out
            have hh2 := HUL.out
            refine ⟨i + 1, _, _, by go_num, by go_num, by omega, HR5.out, rfl, by simp [HCS3.out], ?_, HB5.out.drew⟩
            have := HH.out.step HSUM.out (by omega) HX.out HY.out
            rw [← HTK3.out] at this
            rw [Array.toList_setIfInBounds, Array.toList_setIfInBounds, List.take_set, List.take_set]
            exact this
          case measure => have := HSUM.out; have := HUL.out; simp [intOf]; omega
        · have hge : ¬ (i : Int) < (n' : Int) - i := by omega
          have hrev := HH.out.stop (by rw [HUL.out]; omega)
          have HREV := Lib.hid hrev
          clear hg3 hcs3 hrev
          go_wp2_with fail
          go_ret
          have hr := Lib.hid (Reads.of_own (w := wr) (base := w.heap.size) (e := 22) (size := 1) (A := some ⟨g, 0, none⟩) (n := n' + 1) (c := c2) (xs := vs) ⟨by rw [Nat.mul_one]; exact hvl, .inr ⟨g, c2, cur', rfl, HWG.out, HG3.out, hnc, hcm2, by rw [Nat.mul_one]; exact HCS3.out, by rw [Nat.mul_one]; exact HTK3.out⟩⟩)
          exact ⟨_, _, _, vs, _, rfl, hr.out, by rw [HREV.out]; exact HPQ.out.rev, by rw [List.length_reverse, HQL.out], HEND.out, HB4.out⟩
end Go.Proofs.Ytkjmbnfchiippaa
