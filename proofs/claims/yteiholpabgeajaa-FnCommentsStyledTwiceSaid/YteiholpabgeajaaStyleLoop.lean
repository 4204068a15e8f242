/- The contract of pass.Base.Fodder with the pass of styles: each element in its turn. -/
import Derived.Test.YteiholpabgeajaaStyleEl
import Derived.Deep.RegionHeld3
import Derived.Handy
namespace Go.Proofs.Yteiholpabgeajaa
open Go.RowKit

theorem mid_at (es : List El) (f : El → El) (k : Nat) {e : El} (h : es[k]? = some e) : ((es.take k).map f ++ es.drop k)[k]? = some e := by
  obtain ⟨hk, he⟩ := List.getElem?_eq_some_iff.1 h
  rw [List.getElem?_append_right (by simp; omega)]
  simp [h, Nat.min_eq_left (Nat.le_of_lt hk)]
theorem mid_set (es : List El) (f : El → El) (k : Nat) {e : El} (h : es[k]? = some e) : ((es.take k).map f ++ es.drop k).set k (f e) = (es.take (k + 1)).map f ++ es.drop (k + 1) := by
  obtain ⟨hk, he⟩ := List.getElem?_eq_some_iff.1 h
  rw [List.set_append_right _ _ (by simp; omega), List.take_succ_eq_append_getElem hk, he]
  have h1 : es.drop k = e :: es.drop (k + 1) := by rw [← he]; exact List.drop_eq_getElem_cons hk
  rw [h1]
  simp [Nat.min_eq_left (Nat.le_of_lt hk)]

theorem Copied.drew {w : World} {B n : Nat} {v : Value} {es : List El} (h : Copied w B v n es) : Copied w.drew B v n es := ⟨h.row.drew, h.len, fun e he => (h.com e he).drew, h.dist⟩
theorem RC.drew {w : World} {rc : Nat} {st : Int} (h : RC w rc st) : RC w.drew rc st := h
theorem FK.cell {w w' : World} {pf : Nat} {x : Value} (h : FK w w') (hp : w.heap[pf]? = some (.cells #[x] 35 (0, 0))) : w'.cell? ⟨pf, 0, none⟩ = some x := by rw [cell_of_row w' pf 0 _ _ (0, 0) (h pf _ hp)]; rfl

theorem nil_ahead (a : Addr) (w : World) : (nilAhead 359 40 (.pointer (some a)) "FodderElement").run Try.prog w = .ok (some false) w := by kernel_rfl
theorem method_fe (a : Addr) (w : World) : (method 359 40 (.pointer (some a)) "FodderElement").run Try.prog w = .ok (40, .pointer (some a)) w := by kernel_rfl
attribute [local go_sem] nil_ahead method_fe

set_option maxRecDepth 100000 in
set_option maxHeartbeats 1600000 in
theorem fodLoop (A' : Option Addr) (n c' pf rc B : Nat) (es : List El) (st : Int) (w : World) (hcop : Copied w B (.slice A' n c') n es) (hr : RC w rc st) (hpf : w.heap[pf]? = some (.cells #[.slice A' n c'] 35 (0, 0))) (hrc : B ≤ rc)
    (hst : st = 0 ∨ st = 1) (hcan : ∀ e ∈ es, CanStyle e) (hgood : ∀ e ∈ es, e.Good) (hn : n ≤ 200) (v0 v3 : Value) :
    Calls Try.prog 17 #[v0, .iface 40 (.pointer (some ⟨rc, 0, none⟩)), .pointer (some ⟨pf, 0, none⟩), v3] w fun r w' => ∃ u, r = .returned u ∧ Copied w' B (.slice A' n c') n (es.map (styE st)) ∧ w'.heap[pf]? = some (.cells #[.slice A' n c'] 35 (0, 0)) ∧ Below B w w' := by
  have hlen := hcop.len
  have hc0 : w.cell? ⟨pf, 0, none⟩ = some (.slice A' n c') := by rw [cell_of_row w pf 0 _ _ (0, 0) hpf]; rfl
  have HCP := Lib.hid hcop
  have HR := Lib.hid hr
  have HPF := Lib.hid hpf
  have HLEN := Lib.hid hlen
  clear hcop hr hpf hlen
  go_enter Try.func17, Try.ntmps17
  go_wp2_with fail
  clear hc0
  go_loopw [13] (fun i wr => ∃ k : Nat, k ≤ n ∧ i = .int .i64 k ∧ Copied wr B (.slice A' n c') n ((es.take k).map (styE st) ++ es.drop k) ∧ RC wr rc st ∧ wr.heap[pf]? = some (.cells #[.slice A' n c'] 35 (0, 0)) ∧ Below B w wr) (fun i _ => n - (intOf i).toNat)
  case atStart => exact ⟨0, Nat.zero_le _, rfl, by simpa using HCP.out, HR.out, HPF.out, Below.refl _ _⟩
  case round =>
    obtain ⟨k, hk, rfl, hcop, hr, hpf, hb⟩ := hrel
    have hc0 : wr.cell? ⟨pf, 0, none⟩ = some (.slice A' n c') := by rw [cell_of_row wr pf 0 _ _ (0, 0) hpf]; rfl
    have HC2 := Lib.hid hcop
    have HR2 := Lib.hid hr
    have HP2 := Lib.hid hpf
    have HB := Lib.hid hb
    clear hr hpf hb HCP HR HPF
    by_cases hlt : k < n
    · obtain ⟨ad, e, hA, hek, he0, he1, _, _⟩ := hcop.cellsAt hlt
      subst hA
      obtain ⟨e', he'⟩ : ∃ e', es[k]? = some e' := ⟨_, List.getElem?_eq_getElem (by have := HLEN.out; omega)⟩
      obtain rfl : e = e' := by
        rw [mid_at es _ k he'] at hek
        exact (Option.some.inj hek).symm
      have HE := Lib.hid he'
      have HEK := Lib.hid hek
      have hm := List.mem_of_getElem? he'
      have HCAN := Lib.hid (hcan e hm)
      have HMAX := Lib.hid (show e.n ≤ maxLen by have := (hgood e hm).2.2.2.2.1; unfold maxLen; omega)
      have HSZ := Lib.hid (hgood e hm).2.2.2.2.2.1
      clear hcop hek he' hm
      go_wp2_with fail
      go_region_held3 (fun w' => w'.cell? ⟨pf, 0, none⟩ = some (.slice (some ad) n c')) (first | exact hc0 | exact hfk.cell HP2.out)
        ((go_at_call 40; refine (fe_any e _ k B n rc (.slice (some ad) n c') st _ HC2.out.drew HEK.out HR2.out.drew hrc (ad.add (k * 4)) he0 he1 hst HCAN.out HMAX.out HSZ.out _ _).mono ?_; rintro _ w1 ⟨u, rfl, hcop1, hr1, hb1, hfk⟩))
      have hcn := hcop1
      rw [mid_set es (styE st) k HE.out] at hcn
      have HCN := Lib.hid hcn
      have HR3 := Lib.hid hr1
      have HP3 := Lib.hid (hfk pf _ HP2.out)
      have HB3 := Lib.hid (HB.out.drew.trans hb1)
      clear hcop1 hr1 hb1 hfk hcn hc0
      go_wp2_with fail
      go_roundw
      case rel => exact ⟨k + 1, by omega, by go_num, HCN.out, HR3.out, HP3.out, HB3.out⟩
      case measure => simp [intOf]; omega
    · obtain rfl : k = n := by omega
      have hall : (es.take k).map (styE st) ++ es.drop k = es.map (styE st) := by
        have := HLEN.out
        rw [List.take_of_length_le (by omega), List.drop_of_length_le (by omega), List.append_nil]
      have hc2 := HC2.out
      rw [hall] at hc2
      have HC3 := Lib.hid hc2
      clear hcop hc2 hall hc0
      go_wp2_with fail
      go_end0
      exact ⟨_, rfl, HC3.out, HP2.out, HB.out⟩
end Go.Proofs.Yteiholpabgeajaa
