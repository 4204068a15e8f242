/- The contract of EnforceCommentStyle.FodderElement on an element of a row of the call's own. -/
import Derived.Test.YteiholpabgeajaaStyle
namespace Go.Proofs.Yteiholpabgeajaa
open Go.RowKit

theorem set_same {es : List El} {k : Nat} {e : El} (h : es[k]? = some e) : es.set k e = es := by
  obtain ⟨hk, he⟩ := List.getElem?_eq_some_iff.1 h
  rw [← he]
  exact List.set_getElem_self hk

/-- Blocks that hold fodder by name stand as they stood. -/
def FK (w w' : World) : Prop := ∀ (j : Nat) (D : Array Value), w.heap[j]? = some (.cells D 35 (0, 0)) → w'.heap[j]? = some (.cells D 35 (0, 0))
theorem FK.refl (w : World) : FK w w := fun _ _ h => h
theorem FK.trans {a b c : World} (h : FK a b) (k : FK b c) : FK a c := fun j D hj => k j D (h j D hj)
theorem FK.set {w : World} {p : Addr} (u : Value) {C : Array Value} {T : TypeId} {z : Nat × Nat} (h : w.heap[p.block]? = some (.cells C T z)) (hT : T ≠ 35) : FK w (w.setCell p u) := fun j D hj => by
  refine (heap_setCell_other w p j u (fun e => ?_)).trans hj
  subst e
  rw [h] at hj
  injection hj with hj
  injection hj with _ ht
  exact hT ht
/-- What is behind the call. -/
def FE (w : World) (B rc n : Nat) (v : Value) (es' : List El) (st : Int) (r : Ending) (w' : World) : Prop := ∃ u, r = .returned u ∧ Copied w' B v n es' ∧ RC w' rc st ∧ Below B w w' ∧ FK w w'

theorem FE.same {w : World} {B rc n k : Nat} {v u : Value} {es : List El} {e : El} {st : Int} (hcop : Copied w B v n es) (he : es[k]? = some e) (hr : RC w rc st) (hs : styE st e = e) : FE w B rc n v (es.set k (styE st e)) st (.returned u) w := by
  rw [hs, set_same he]
  exact ⟨u, rfl, hcop, hr, Below.refl _ _, FK.refl _⟩
theorem FE.seen {w : World} {B rc n k : Nat} {v u : Value} {es : List El} {e : El} {st : Int} (hcop : Copied w B v n es) (he : es[k]? = some e) (hr : RC w rc st) (hrc : B ≤ rc) (hs : styE st e = e) : FE w B rc n v (es.set k (styE st e)) st (.returned u) (w.setCell ⟨rc, 12, none⟩ (.bool true)) := by
  rw [hs, set_same he]
  obtain ⟨C, sb, hb, _⟩ := hr
  exact ⟨u, rfl, hcop.seen ⟨C, sb, hb, ‹_›⟩, RC.seen ⟨C, sb, hb, ‹_›⟩, (Below.refl _ _).setCell hrc _, FK.set (p := ⟨rc, 12, none⟩) _ hb (by decide)⟩
theorem FE.line {w : World} {B rc n k : Nat} {v u : Value} {es : List El} {kd bl nd : Int} {cd : Addr} {ec : Nat} {s : ByteArray} {st : Int} (hcop : Copied w B v n es) (he : es[k]? = some ⟨kd, bl, nd, some cd, 1, ec, [s]⟩) (hr : RC w rc st) (hrc : B ≤ rc) (hk : kd ≠ 1) (s' : ByteArray) (hs : s' = styB st s) :
    FE w B rc n v (es.set k (styE st ⟨kd, bl, nd, some cd, 1, ec, [s]⟩)) st (.returned u) ((w.setCell cd (.string s')).setCell ⟨rc, 12, none⟩ (.bool true)) := by
  obtain ⟨h1, _, _⟩ := hcop.styled he s'
  have hcT : ∃ C z, w.heap[cd.block]? = some (.cells C 9 z) := by
    have hc := hcop.com _ (List.mem_of_getElem? he)
    rcases hc.2 with ⟨h', _⟩ | ⟨g, cap, cur, h', _, hg, _⟩
    · simp at h'
    · simp only [Value.slice.injEq, Option.some.injEq] at h'
      obtain ⟨rfl, _⟩ := h'
      exact ⟨cur, _, hg⟩
  have hcd : B ≤ cd.block ∧ cd.block ≠ rc := by
    have hm := List.mem_of_getElem? he
    have hc := hcop.com _ hm
    have h2 := own_not hc hr (by decide)
    have h3 := (hc.lt cd.block rfl).1
    refine ⟨h3, ?_⟩
    rcases h2 with h2 | h2
    · cases h2
    · exact fun e => h2 (by simp [Value.ownBlock, e])
  have h4 := hr.other hcd.2 (.string s')
  have e1 : styE st ⟨kd, bl, nd, some cd, 1, ec, [s]⟩ = ⟨kd, bl, nd, some cd, 1, ec, [s']⟩ := by
    unfold styE
    rw [if_pos ⟨hk, rfl⟩, hs]
    rfl
  rw [e1]
  obtain ⟨C, z, hC⟩ := hcT
  obtain ⟨C', sb, hb, _⟩ := h4
  exact ⟨u, rfl, h1.seen ⟨C', sb, hb, ‹_›⟩, RC.seen ⟨C', sb, hb, ‹_›⟩, ((Below.refl _ _).setCell hcd.1 _).setCell hrc _, (FK.set _ hC (by decide)).trans (FK.set (p := ⟨rc, 12, none⟩) _ hb (by decide))⟩

theorem ext_list (s : ByteArray) (k : Nat) : (s.extract k s.size).data.toList = s.data.toList.drop k := by
  have : (s.extract k s.size).data.toList = (s.data.toList.drop k).take (s.size - k) := by simp
  rw [this, List.take_of_length_le (by simp)]
theorem app_list (a b : ByteArray) : (a ++ b).data.toList = a.data.toList ++ b.data.toList := by simp
theorem of_list {a b : ByteArray} (h : a.data.toList = b.data.toList) : a = b := ByteArray.ext (Array.toList_inj.1 h)
theorem styB_hash (s : ByteArray) (t : List UInt8) (h : s.data.toList = 47 :: 47 :: t) : (⟨#[35]⟩ : ByteArray) ++ s.extract 2 s.size = styB 0 s := by
  refine of_list ?_
  rw [app_list, ext_list, h]
  unfold styB
  rw [h]
  rfl
theorem styB_slash (s : ByteArray) (t : List UInt8) (h : s.data.toList = 35 :: t) : (⟨#[47, 47]⟩ : ByteArray) ++ s.extract 1 s.size = styB 1 s := by
  refine of_list ?_
  rw [app_list, ext_list, h]
  unfold styB
  rw [h]
  rfl
theorem at_list {s : ByteArray} {k : Nat} {x : UInt8} (h : s.data.toList[k]? = some x) (hk : k < s.size) : s[k] = x := by
  obtain ⟨h1, h2⟩ := List.getElem?_eq_some_iff.1 h
  rw [← h2]
  rfl

set_option maxRecDepth 100000 in
set_option maxHeartbeats 1600000 in
theorem fe_any (e : El) (es : List El) (k B n rc : Nat) (v : Value) (st : Int) (w : World) (hcop : Copied w B v n es) (he : es[k]? = some e) (hr : RC w rc st) (hrc : B ≤ rc) (p : Addr) (hc0 : w.cell? p = some (.slice e.A e.n e.c)) (hc1 : w.cell? ⟨p.block, p.off + 1, none⟩ = some (.int .i64 e.kind))
    (hst : st = 0 ∨ st = 1) (hcan : CanStyle e) (hmax : e.n ≤ maxLen) (hsz : ∀ s ∈ e.cs, s.size ≤ 200) (v1 v3 : Value) :
    Calls Try.prog 40 #[.pointer (some ⟨rc, 0, none⟩), v1, .pointer (some p), v3] w (FE w B rc n v (es.set k (styE st e)) st) := by
  unfold maxLen at hmax
  obtain ⟨sb, c3, c12, f12⟩ := hr.cells
  by_cases hk : e.kind = 1
  · have F := Lib.hid (fun u => FE.same (u := u) hcop he hr (show styE st e = e by unfold styE; rw [if_neg (fun h => h.1 hk)]))
    rw [hk] at hc1
    clear hcop he hr hcan hsz hk
    go_enter Try.func40, Try.ntmps40
    go_wp2_with fail
    go_end0
    exact F.out _
  by_cases hn : e.n = 1
  · obtain ⟨kd, bl, nd, eA, en, ec, cs⟩ := e
    simp only at hn hk hc0 hc1 hmax hsz
    subst hn
    have hm := List.mem_of_getElem? he
    have hcl := hcop.lens _ hm
    simp only at hcl
    obtain ⟨s, rfl⟩ := List.length_eq_one_iff.1 hcl
    obtain ⟨cd, u, hA, _, _, _⟩ := (Reads.of_own (hcop.com _ hm)).at_ (show 0 < 1 by omega)
    simp only at hA
    subst hA
    obtain ⟨_, fcd, ccd⟩ := hcop.styled he s
    obtain ⟨⟨x, t, hx, hor⟩, hnb⟩ := hcan hk s rfl
    have hsz' := hsz s (by simp)
    have hs0 : 0 < s.size := by
      have : s.data.toList.length = s.size := by simp
      rw [hx] at this
      simp at this
      omega
    have hkb : (kd == 1) = false := by simpa using hk
    have hcdn : cd.block ≠ rc := by
      have h2 := own_not (hcop.com _ hm) hr (by decide)
      rcases h2 with h2 | h2
      · cases h2
      · exact fun e => h2 (by simp [Value.ownBlock, e])
    have h0 : s[0] = x := at_list (by rw [hx]; rfl) hs0
    have g3 : ∀ u, (w.setCell cd u).cell? ⟨rc, 3, none⟩ = some (.int .i64 st) := fun u => (World.cell?_setCell_other w _ _ u (fun e => hcdn (by rw [e]))).trans c3
    have g12 : ∀ u, (w.setCell cd u).cell? ⟨rc, 12, none⟩ = some (.bool sb) := fun u => (World.cell?_setCell_other w _ _ u (fun e => hcdn (by rw [e]))).trans c12
    have F1 := Lib.hid (fun u => FE.seen (u := u) (st := st) hcop he hr hrc)
    have F2 := Lib.hid (fun u => FE.line (u := u) hcop he hr hrc hk)
    clear hcop he hr hcan hsz hm hcl
    rcases hst with rfl | rfl
    · rcases hor with h35 | ⟨h47, t', rfl⟩
      · have hstL : styE 0 ⟨kd, bl, nd, some cd, 1, ec, [s]⟩ = ⟨kd, bl, nd, some cd, 1, ec, [s]⟩ := by
          unfold styE
          rw [if_pos ⟨hk, rfl⟩]
          have : styB 0 s = s := by
            unfold styB
            rw [hx]
            have h1 : ¬ x.toNat = 47 := by omega
            simp only [styL, if_true, if_neg h1]
            rw [← hx]
          simp [this]
        have FF := Lib.hid (fun u => F1.out u hstL)
        have h1 : ¬ ((s[0].toNat : Int) = 47) := by rw [h0]; omega
        clear F1 F2 hstL hnb hx h0
        go_enter Try.func40, Try.ntmps40
        go_wp2_with fail
        go_end0
        exact FF.out _
      · obtain rfl : x = 47 := UInt8.toNat_inj.1 h47
        have FF := Lib.hid (fun u => F2.out u _ (styB_hash s t' hx))
        have h1 : (s[0].toNat : Int) = 47 := by rw [h0]; rfl
        have hs2 : 2 ≤ s.size := by
          have : s.data.toList.length = s.size := by simp
          rw [hx] at this
          simp at this
          omega
        clear F1 F2 hnb hx h0
        go_enter Try.func40, Try.ntmps40
        go_wp2_with fail
        go_end0
        exact FF.out _
    · rcases hor with h35 | ⟨h47, t', rfl⟩
      · obtain rfl : x = 35 := UInt8.toNat_inj.1 h35
        have FF := Lib.hid (fun u => F2.out u _ (styB_slash s t hx))
        have h1 : (s[0].toNat : Int) = 35 := by rw [h0]; rfl
        have h33 : ∀ h : 1 < s.size, ¬ ((s[1].toNat : Int) = 33) := fun h he => hnb (by
          cases t with
          | nil =>
            have : s.data.toList.length = s.size := by simp
            rw [hx] at this
            simp at this
            omega
          | cons y t =>
            have hy : s[1] = y := at_list (by rw [hx]; rfl) h
            rw [hy] at he
            obtain rfl : y = 33 := UInt8.toNat_inj.1 (by show y.toNat = 33; omega)
            exact ⟨t, hx⟩)
        have H33 := Lib.hid h33
        clear F1 F2 hnb hx h0 h33
        cases sb
        all_goals
          by_cases hs1 : 1 < s.size
          all_goals
            try have g33 := H33.out hs1
            go_enter Try.func40, Try.ntmps40
            go_wp2_with fail
            go_end0
            exact FF.out _
      · obtain rfl : x = 47 := UInt8.toNat_inj.1 h47
        have hstL : styE 1 ⟨kd, bl, nd, some cd, 1, ec, [s]⟩ = ⟨kd, bl, nd, some cd, 1, ec, [s]⟩ := by
          unfold styE
          rw [if_pos ⟨hk, rfl⟩]
          have : styB 1 s = s := by
            unfold styB
            rw [hx]
            have h1 : ¬ (1 : Int) = 0 := by decide
            have h2 : ¬ (47 : UInt8).toNat = 35 := by decide
            simp only [styL, if_neg h1, if_neg h2]
            rw [← hx]
          simp [this]
        have FF := Lib.hid (fun u => F1.out u hstL)
        have h1 : (s[0].toNat : Int) = 47 := by rw [h0]; rfl
        clear F1 F2 hstL hnb hx h0
        go_enter Try.func40, Try.ntmps40
        go_wp2_with fail
        go_end0
        exact FF.out _
  · have F := Lib.hid (fun u => FE.seen (u := u) hcop he hr hrc (show styE st e = e by unfold styE; rw [if_neg (fun h => hn h.2)]))
    have hkb : (e.kind == 1) = false := by simpa using hk
    have hnb : ((e.n : Int) == 1) = false := by simp; omega
    clear hcop he hr hcan hsz
    go_enter Try.func40, Try.ntmps40
    go_wp2_with fail
    go_end0
    exact F.out _
end Go.Proofs.Yteiholpabgeajaa
