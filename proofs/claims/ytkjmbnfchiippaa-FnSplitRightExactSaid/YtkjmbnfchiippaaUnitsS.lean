/- spec.Units, laws.units9. -/
import Derived.Test.YtkjmbnfchiippaaPointsS
import Derived.Test.YtkjmbnfchiippaaSplit
import Derived.Test.YtkjmbnfchiippaaApp
namespace Go.Proofs.Ytkjmbnfchiippaa
open Go.RowKit

theorem runesL_step {s : ByteArray} {b i k n : Nat} (hi : i < s.size) (h : Utf8.decode s i = (k, n)) : runesL s (b + 1) i = (k : Int) :: runesL s b (i + n) := by
  rw [runesL, if_pos hi, h]
theorem runesL_stop {s : ByteArray} {b i : Nat} (hi : ¬ i < s.size) : runesL s b i = [] := by
  cases b with
  | zero => rfl
  | succ b => rw [runesL, if_neg hi]

theorem infoI : (Try.prog.info? 3).map (fun i => (i.zero, i.size, i.bytes)) = some (some (.int .i64 0), 1, 8) := by kernel_rfl
theorem ints_oneCell (l : List Int) : ∀ u ∈ l.map (Value.int .i64), u.oneCell' = true := by
  intro u hu
  obtain ⟨n, _, rfl⟩ := List.mem_map.1 hu
  rfl

theorem dec_step {s : ByteArray} {i kr n : Nat} (hi : i < s.size) (hd : Utf8.decode s i = (kr, n)) (h1 : n = 1 → kr < 128) : s.data.toList.take i ++ enc (kr : Int) = s.data.toList.take (i + n) := by
  have hne : s.data.toList.drop i ≠ [] := by
    intro e
    have := congrArg List.length e
    simp at this
    omega
  have hdl : Lib.decodeL (s.data.toList.drop i) = (kr, n) := by rw [Lib.decodeL_drop]; exact hd
  have hg := decode_good (s.data.toList.drop i)
  have he := Lib.encode_decode (s.data.toList.drop i) hne (fun hb => by
    rw [hdl] at hb
    have h2 := h1 hb.2
    have h3 : kr = 65533 := hb.1
    omega)
  rw [hdl] at he hg
  rw [enc_def, encode_eq kr hg, he, List.take_add]

theorem own_cap1 {w : World} {B : Nat} {e : TypeId} {A : Option Addr} {n c : Nat} {us : List Value} (h : w.ownsRow B e 1 (.slice A n c) n us) : n ≤ c ∧ c ≤ maxLen := by
  rcases h.2 with ⟨he, _⟩ | ⟨g, cap, cur, he, _, hg, hnc, hcm, _⟩
  · injection he with _ h1 h2
    subst h1 h2
    exact ⟨Nat.le_refl _, Nat.zero_le _⟩
  · injection he with _ h1 h2
    subst h2
    exact ⟨hnc, by first | exact hcm | omega⟩
/-- Integers lie from an address on. -/
def IA (w : World) (ad : Addr) (l : List Int) : Prop := ∀ j u, l[j]? = some u → w.cell? (ad.add j) = some (.int .i64 u)
theorem IA.below {w w' : World} {ad : Addr} {l : List Int} (h : IA w ad l) (hb : Below w.heap.size w w') : IA w' ad l := fun j u hu => keeps hb (h j u hu)
theorem IA.drewN {w : World} {ad : Addr} {l : List Int} (h : IA w ad l) (m : Nat) : IA (w.drewN m) ad l := h
theorem IA.drop {w : World} {ad : Addr} {l : List Int} (h : IA w ad l) (k : Nat) : IA w (ad.add k) (l.drop k) := fun j u hu => by
  rw [add_of_add]
  exact h _ u (by rw [← hu, List.getElem?_drop])
theorem IA.take {w : World} {ad : Addr} {l : List Int} (h : IA w ad l) (k : Nat) : IA w ad (l.take k) := fun j u hu => by
  rw [List.getElem?_take] at hu
  split at hu
  · exact h j u hu
  · cases hu

/-- What Units hands back. -/
def UnitsOk (s : ByteArray) (w : World) (e : Ending) (w' : World) : Prop :=
  ∃ A n c b, e = .returned (.tuple #[.slice A n c, .bool b]) ∧ Below w.heap.size w w' ∧
    (b = true → (∃ ad, A = some ad ∧ IA w' ad (runesOf s)) ∧ n = (runesOf s).length ∧ n ≤ c ∧ c ≤ maxLen ∧ (∀ r ∈ runesOf s, Utf8.valid r = true) ∧ encL (runesOf s) = s.data.toList)

set_option maxRecDepth 100000 in
set_option maxHeartbeats 800000 in
theorem units_any (s : ByteArray) (w : World) (hs : s.size ≤ 2000) :
    Calls Try.prog 12 #[.string s] w (UnitsOk s w) := by
  obtain ⟨iI, hiI, hzI0, hzI1, hzI2⟩ := info_parts infoI
  go_enter Try.func12, Try.ntmps12
  go_wp2_with fail
  go_loopw [4, 5] (fun v i wr => ∃ (k b n' : Nat) (A' : Addr) (c' : Nat) (xs : List Int), k ≤ s.size ∧ i = .int .i64 k ∧ v = .slice (some A') n' c' ∧ n' ≤ k ∧ wr.ownsRow w.heap.size 3 1 (.slice (some A') n' c') n' (xs.map (.int .i64)) ∧ xs ++ runesL s b k = runesOf s ∧ s.size ≤ k + b ∧ (∀ r ∈ xs, Utf8.valid r = true) ∧ encL xs = s.data.toList.take k ∧ Below w.heap.size w wr) (fun _ i _ => s.size - (intOf i).toNat)
  case atStart =>
    refine ⟨0, s.size, 0, _, 0, [], Nat.zero_le _, rfl, rfl, Nat.le_refl _, ?_, rfl, by omega, by simp, rfl, (Below.refl _ _).alloc (Nat.le_refl _) _⟩
    have := World.ownsRow_made (base := w.heap.size) (e := 3) (size := 1) w #[] 0 (by omega) (by simp [maxLen]) rfl
    simpa using this
  case round =>
    obtain ⟨k, b, n', A', c', xs, hk, rfl, rfl, hn, hrow, hxs, hb, hval, henc, hbel⟩ := hrel
    have HX := Lib.hid hxs
    have HV := Lib.hid hval
    have HEN := Lib.hid henc
    clear hxs hval henc
    by_cases hlt : k < s.size
    · go_wp2_with fail
      refine (point_any s k _ hs hlt).mono ?_
      rintro e w1 ⟨r, n, rfl, hor, rfl⟩
      rcases hor with rfl | ⟨⟨kr, hkr, hdec, hvr⟩, hn0, hn4, hkn, hn1⟩
      · go_wp2
        go_ret2
        exact ⟨_, 0, _, false, rfl, hbel, by simp⟩
      · have hn0' : ¬ (n : Int) = 0 := by omega
        have HD := Lib.hid hdec
        have HE2 := Lib.hid (dec_step hlt hdec (fun h => by have := hn1 h; omega))
        clear hn1
        have HVR := Lib.hid hvr
        have HR := Lib.hid hkr
        clear hdec hvr hkr
        have hsz := hbel.size
        go_wp2_with
          (refine wpList_append_any _ (by rfl) (.tmp 21) (.tmp 23) 22 (by rfl) w.heap.size 3 iI (.int .i64 0) 1 8 Try.underlying22 hiI hzI0 hzI1 hzI2 rfl (Nat.lt_add_one 0) (.slice (some A') n' c') n' (xs.map (.int .i64)) (by rfl) ?_ (wr.heap.size + 1) (some ⟨wr.heap.size, 0, none⟩) 1 1 ([r].map (.int .i64)) (by rfl) ?_ (ints_oneCell _) ?_ ?_ ?_ (n' + 1) ?_ ((xs ++ [r]).map (.int .i64)) ?_ ?_
           · exact hrow.alloc _
           · exact Reads.of_block (heap_alloc_new wr _) rfl
           · (unfold maxLen; omega)
           · omega
           · (simp; omega)
           · rfl
           · simp
           intro A2 c2 w2 hap)
        have hb2 : Below w.heap.size w w2 := (hbel.alloc hsz _).grown hap.grown (by simp; omega) (fun g hg => (hrow.lt g hg).1)
        have hown2 := hap.own
        obtain ⟨g, cap, hv, _, _⟩ := hown2.form (by omega)
        have hA2 : A2 = some ⟨g, 0, none⟩ := by injection hv
        subst hA2
        clear hap hrow hv
        go_roundw
        case rel =>
          refine ⟨k + n, b - 1, n' + 1, ⟨g, 0, none⟩, c2, xs ++ [r], hkn, by go_num, rfl, by omega, hown2, ?_, by omega, ?_, ?_, hb2⟩
          · have h1 : b = (b - 1) + 1 := by omega
            have h2 := HX.out
            rw [h1, runesL_step hlt HD.out, ← HR.out] at h2
            simpa using h2
          · intro q hq
            rcases List.mem_append.1 hq with hq | hq
            · exact HV.out q hq
            · obtain rfl : q = r := by simpa using hq
              exact HVR.out
          · rw [encL_app, HEN.out, HR.out, ← HE2.out]
            simp [encL]
        case measure => simp [intOf]; omega
    · have hxs := HX.out
      rw [runesL_stop hlt, List.append_nil] at hxs
      subst hxs
      have HCP := Lib.hid (own_cap1 hrow)
      have hln : n' = (runesOf s).length := by have := hrow.1; simp at this; omega
      have HIA := Lib.hid (show IA wr A' (runesOf s) from fun j x hx => by
        obtain ⟨ad', he, _, hcc⟩ := (Reads.of_own hrow).2 (by have := (List.getElem?_eq_some_iff.1 hx).1; omega)
        injection he with he
        subst he
        exact hcc j _ (by rw [List.getElem?_map, hx]; rfl))
      have HLN := Lib.hid hln
      clear hln
      go_wp2
      go_ret2
      exact ⟨some A', n', c', true, rfl, hbel, fun _ => ⟨⟨A', rfl, HIA.out⟩, HLN.out, HCP.out.1, HCP.out.2, HV.out, by rw [HEN.out, List.take_of_length_le (by simp; omega)]⟩⟩

theorem units9_any (s : ByteArray) (w : World) (hs : s.size ≤ 2147483647) :
    Calls Try.prog 5 #[.string s] w fun e w' => UnitsOk s w e w' ∧ (2000 < s.size → e = .returned (.tuple #[.slice none 0 0, .bool false])) := by
  by_cases h : s.size ≤ 2000
  · go_enter Try.func5, Try.ntmps5
    go_wp2_with fail
    refine (units_any s _ h).mono ?_
    rintro e w1 ⟨A, n, c, b, rfl, hb, hu⟩
    have HU := Lib.hid hu
    clear hu
    go_wp2
    go_ret2
    exact ⟨⟨A, n, c, b, rfl, hb, HU.out⟩, fun h => by omega⟩
  · go_enter Try.func5, Try.ntmps5
    go_wp2
    go_ret2
    exact ⟨⟨none, 0, 0, false, rfl, Below.refl _ _, by simp⟩, fun _ => rfl⟩
end Go.Proofs.Ytkjmbnfchiippaa
