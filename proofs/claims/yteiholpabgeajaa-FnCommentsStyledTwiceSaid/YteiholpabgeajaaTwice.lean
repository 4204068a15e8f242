/- Plain: styles twice; what comments that are styled are like. -/
import Derived.Test.YteiholpabgeajaaStyled
namespace Go.Proofs.Yteiholpabgeajaa
open Go.RowKit

/-- The first line of a comment is short, and begins with no #! and no //!. -/
def LineLim (s : ByteArray) : Prop := s.size ≤ 150 ∧ NoBang s ∧ ¬ ∃ t, s.data.toList = 47 :: 47 :: 33 :: t
def ElLim (e : El) : Prop := ∀ s, e.cs[0]? = some s → LineLim s

theorem lineC_cases {s : ByteArray} (h : LineC s) : (∃ t, s.data.toList = 35 :: t) ∨ ∃ t, s.data.toList = 47 :: 47 :: t := by
  obtain ⟨x, t, hx, hor⟩ := h
  rcases hor with h | ⟨h, t', rfl⟩
  · obtain rfl : x = 35 := UInt8.toNat_inj.1 h
    exact .inl ⟨t, hx⟩
  · obtain rfl : x = 47 := UInt8.toNat_inj.1 h
    exact .inr ⟨t', hx⟩
theorem styB_list (st : Int) (s : ByteArray) : (styB st s).data.toList = styL st s.data.toList := by simp [styB]
theorem styL_0_35 (t : List UInt8) : styL 0 (35 :: t) = 35 :: t := rfl
theorem styL_0_47 (t : List UInt8) : styL 0 (47 :: 47 :: t) = 35 :: t := rfl
theorem styL_1_35 (t : List UInt8) : styL 1 (35 :: t) = 47 :: 47 :: t := rfl
theorem styL_1_47 (t : List UInt8) : styL 1 (47 :: 47 :: t) = 47 :: 47 :: t := rfl

theorem sty_sty {s o : Int} (hs : s = 0 ∨ s = 1) (ho : o = 0 ∨ o = 1) {c : ByteArray} (h : LineC c) : styB s (styB o c) = styB s c := by
  refine of_list ?_
  rw [styB_list, styB_list, styB_list]
  rcases lineC_cases h with ⟨t, e⟩ | ⟨t, e⟩ <;> rw [e] <;> rcases hs with rfl | rfl <;> rcases ho with rfl | rfl <;> rfl
theorem sty_line {o : Int} (ho : o = 0 ∨ o = 1) {c : ByteArray} (h : LineC c) : LineC (styB o c) := by
  unfold LineC
  rw [styB_list]
  rcases lineC_cases h with ⟨t, e⟩ | ⟨t, e⟩ <;> rw [e] <;> rcases ho with rfl | rfl
  · exact ⟨35, t, rfl, .inl rfl⟩
  · exact ⟨47, 47 :: t, rfl, .inr ⟨rfl, t, rfl⟩⟩
  · exact ⟨35, t, rfl, .inl rfl⟩
  · exact ⟨47, 47 :: t, rfl, .inr ⟨rfl, t, rfl⟩⟩
theorem sty_noBang {o : Int} (ho : o = 0 ∨ o = 1) {c : ByteArray} (h : LineC c) (hl : LineLim c) : NoBang (styB o c) := by
  obtain ⟨_, h1, h2⟩ := hl
  unfold NoBang at h1 ⊢
  rw [styB_list]
  rcases lineC_cases h with ⟨t, e⟩ | ⟨t, e⟩ <;> rw [e] at h1 h2 ⊢ <;> rcases ho with rfl | rfl
  · rw [styL_0_35]; exact h1
  · rw [styL_1_35]; rintro ⟨t', e'⟩; injection e' with e1; exact absurd e1 (by decide)
  · rw [styL_0_47]
    rintro ⟨t', e'⟩
    injection e' with _ e2
    exact h2 ⟨t', by rw [e2]⟩
  · rw [styL_1_47]; rintro ⟨t', e'⟩; injection e' with e1; exact absurd e1 (by decide)
theorem styL_len (o : Int) (l : List UInt8) : (styL o l).length ≤ l.length + 1 := by
  cases l with
  | nil => simp [styL]
  | cons x t => simp only [styL]; split <;> split <;> simp <;> omega
theorem styB_size (o : Int) (s : ByteArray) : (styB o s).size ≤ s.size + 1 := by
  have h := styL_len o s.data.toList
  have e : (styB o s).size = (styL o s.data.toList).length := by show (styL o s.data.toList).toArray.size = _; simp
  have e2 : s.data.toList.length = s.size := by simp
  omega
theorem sty_ok {o : Int} (ho : o = 0 ∨ o = 1) {c : ByteArray} (h : LineC c) (hok : LineOK c) : LineOK (styB o c) := by
  have e2 : ∀ s : ByteArray, s.size = s.data.toList.length := fun s => by simp
  obtain ⟨h1, h2⟩ := hok
  unfold LineOK feeds at *
  rw [e2] at h1 ⊢
  rw [styB_list]
  unfold feedsL at *
  rcases lineC_cases h with ⟨t, e⟩ | ⟨t, e⟩ <;> rw [e] at h1 h2 ⊢ <;> rcases ho with rfl | rfl
  · rw [styL_0_35]; exact ⟨by simp, h2⟩
  · rw [styL_1_35]; refine ⟨by simp, ?_⟩; simpa [List.countP_cons] using h2
  · rw [styL_0_47]; refine ⟨by simp, ?_⟩; simpa [List.countP_cons] using h2
  · rw [styL_1_47]; exact ⟨by simp, h2⟩

/-- What the law has of the elements. -/
structure Nice (els : List El) : Prop where
  plain : Plain els
  signed : ∀ e ∈ els, SignedEl e
  lim : ∀ e ∈ els, ElLim e
  lens : ∀ e ∈ els, e.cs.length = e.n
theorem Nice.good {els : List El} (h : Nice els) : ∀ e ∈ els, e.Good := h.plain.2.2.1
theorem Nice.can {els : List El} (h : Nice els) : ∀ e ∈ els, CanStyle e := fun e he hk c hc => ⟨h.signed e he hk c hc, (h.lim e he c (by rw [hc]; rfl)).2.1⟩
theorem Nice.small {els : List El} (h : Nice els) (st : Int) : ∀ e ∈ els, ∀ s, e.cs = [s] → (styB st s).size ≤ 200 := fun e he s hs => by
  have h1 := (h.lim e he s (by rw [hs]; rfl)).1
  have h2 := styB_size st s
  omega

theorem styE_n (st : Int) (e : El) : (styE st e).n = e.n := by unfold styE; split <;> rfl
theorem styE_kind (st : Int) (e : El) : (styE st e).kind = e.kind := by unfold styE; split <;> rfl
theorem styE_len (st : Int) {e : El} (h : e.cs.length = e.n) : (styE st e).cs.length = (styE st e).n := by
  rw [styE_n]
  unfold styE
  split
  · simpa using h
  · exact h
theorem styE_cs {st : Int} {e : El} (hk : e.kind ≠ 1) {c : ByteArray} (hc : e.cs = [c]) (hl : e.cs.length = e.n) : (styE st e).cs = [styB st c] := by
  unfold styE
  rw [if_pos ⟨hk, by rw [← hl, hc]; rfl⟩, hc]
  rfl
theorem styE_other {st : Int} {e : El} (h : ¬ (e.kind ≠ 1 ∧ e.n = 1)) : styE st e = e := by unfold styE; rw [if_neg h]

theorem styE_styE {s o : Int} (hs : s = 0 ∨ s = 1) (ho : o = 0 ∨ o = 1) {els : List El} (h : Nice els) {e : El} (he : e ∈ els) : (styE s (styE o e)).data = (styE s e).data := by
  by_cases hc : e.kind ≠ 1 ∧ e.n = 1
  · obtain ⟨c, hcs⟩ := List.length_eq_one_iff.1 ((h.lens e he).trans hc.2)
    have hL := h.signed e he hc.1 c hcs
    have h1 := styE_cs (st := o) hc.1 hcs (h.lens e he)
    have h2 := styE_cs (st := s) (e := styE o e) (by rw [styE_kind]; exact hc.1) h1 (styE_len o (h.lens e he))
    have h3 := styE_cs (st := s) hc.1 hcs (h.lens e he)
    have hrest : ∀ (st : Int) (e : El), (styE st e).kind = e.kind ∧ (styE st e).blanks = e.blanks ∧ (styE st e).indent = e.indent := fun st e => by unfold styE; split <;> exact ⟨rfl, rfl, rfl⟩
    obtain ⟨a1, a2, a3⟩ := hrest s (styE o e)
    obtain ⟨b1, b2, b3⟩ := hrest o e
    obtain ⟨d1, d2, d3⟩ := hrest s e
    simp only [El.data, Prod.mk.injEq]
    exact ⟨by rw [a1, b1, d1], by rw [a2, b2, d2], by rw [a3, b3, d3], by rw [h2, h3, sty_sty hs ho hL]⟩
  · rw [styE_other hc]

/-- What has the data of styled elements is nice enough. -/
theorem Nice.styled {els es : List El} (h : Nice els) {o : Int} (ho : o = 0 ∨ o = 1) (hd : es.map El.data = (els.map (styE o)).map El.data) (hl : ∀ e ∈ es, e.cs.length = e.n) :
    Plain es ∧ (∀ e ∈ es, e.Good) ∧ (∀ e ∈ es, CanStyle e) ∧ ∀ (st : Int), ∀ e ∈ es, ∀ s, e.cs = [s] → (styB st s).size ≤ 200 := by
  have hmem : ∀ e ∈ es, ∃ e0 ∈ els, (styE o e0).data = e.data := fun e he => by
    obtain ⟨e1, h1, h2⟩ := mem_congr hd e he
    obtain ⟨e0, h3, rfl⟩ := List.mem_map.1 h1
    exact ⟨e0, h3, h2⟩
  have hgood : ∀ e ∈ es, e.Good := good_congr hd hl (fun e he => by
    obtain ⟨e0, h0, rfl⟩ := List.mem_map.1 he
    exact styE_len o (h.lens e0 h0)) (fun e he => by
    obtain ⟨e0, h0, rfl⟩ := List.mem_map.1 he
    exact good_map o (h.good e0 h0) (h.lens e0 h0) (h.small o e0 h0))
  have hcase : ∀ e0 ∈ els, (styE o e0 = e0) ∨ ∃ c, e0.kind ≠ 1 ∧ e0.cs = [c] ∧ (styE o e0).cs = [styB o c] := fun e0 h0 => by
    by_cases hc : e0.kind ≠ 1 ∧ e0.n = 1
    · obtain ⟨c, hcs⟩ := List.length_eq_one_iff.1 ((h.lens e0 h0).trans hc.2)
      exact .inr ⟨c, hc.1, hcs, styE_cs hc.1 hcs (h.lens e0 h0)⟩
    · exact .inl (styE_other hc)
  refine ⟨⟨fun e he s hs => ?_, ?_, hgood, ?_⟩, hgood, fun e he => ?_, fun st e he s hs => ?_⟩
  · obtain ⟨e0, h0, h1⟩ := hmem e he
    simp only [El.data, Prod.mk.injEq] at h1
    rw [← h1.2.2.2] at hs
    rcases hcase e0 h0 with h2 | ⟨c, hk, hcs, h2⟩
    · rw [h2] at hs
      exact h.plain.1 e0 h0 s hs
    · rw [h2] at hs
      obtain rfl : s = styB o c := by simpa using hs
      exact sty_ok ho (h.signed e0 h0 hk c hcs) (h.plain.1 e0 h0 c (by rw [hcs]; simp))
  · have : es.length = els.length := by simpa using congrArg List.length hd
    rw [this]
    exact h.plain.2.1
  · intro i a b ha hb
    have hk : ∀ (j : Nat) x, es[j]? = some x → ∃ y, els[j]? = some y ∧ x.kind = y.kind := fun j x hx => by
      have := congrArg (fun l => l[j]?) hd
      simp only [List.getElem?_map, hx, Option.map_some] at this
      cases hy : els[j]? with
      | none => rw [hy] at this; cases this
      | some y =>
        rw [hy] at this
        simp only [Option.map_some, Option.some.injEq, El.data, Prod.mk.injEq] at this
        exact ⟨y, rfl, by rw [this.1, styE_kind]⟩
    obtain ⟨a', ha', ka⟩ := hk i a ha
    obtain ⟨b', hb', kb⟩ := hk (i + 1) b hb
    have := h.plain.2.2.2 i a' b' ha' hb'
    unfold FollowsP at this ⊢
    rw [ka, kb]
    exact this
  · obtain ⟨e0, h0, h1⟩ := hmem e he
    refine can_congr h1 ?_
    rcases hcase e0 h0 with h2 | ⟨c, hk, hcs, h2⟩
    · rw [h2]
      exact h.can e0 h0
    · intro _ c' hc'
      rw [h2] at hc'
      obtain rfl : styB o c = c' := by simpa using hc'
      exact ⟨sty_line ho (h.signed e0 h0 hk c hcs), sty_noBang ho (h.signed e0 h0 hk c hcs) (h.lim e0 h0 c (by rw [hcs]; rfl))⟩
  · obtain ⟨e0, h0, h1⟩ := hmem e he
    simp only [El.data, Prod.mk.injEq] at h1
    rw [← h1.2.2.2] at hs
    have h3 := styB_size st s
    rcases hcase e0 h0 with h2 | ⟨c, hk, hcs, h2⟩
    · rw [h2] at hs
      have := (h.lim e0 h0 s (by rw [hs]; rfl)).1
      omega
    · rw [h2] at hs
      obtain rfl : styB o c = s := by simpa using hs
      have h4 := styB_size o c
      have := (h.lim e0 h0 c (by rw [hcs]; rfl)).1
      omega

theorem Nice.twice {els es : List El} (h : Nice els) {s o : Int} (hs : s = 0 ∨ s = 1) (ho : o = 0 ∨ o = 1) (hd : es.map El.data = (els.map (styE o)).map El.data) (hl : ∀ e ∈ es, e.cs.length = e.n) : (es.map (styE s)).map El.data = (els.map (styE s)).map El.data := by
  rw [map_styE s hd hl (fun e he => by
    obtain ⟨e0, h0, rfl⟩ := List.mem_map.1 he
    exact styE_len o (h.lens e0 h0))]
  rw [List.map_map, List.map_map, List.map_map]
  refine List.map_congr_left fun e he => ?_
  exact styE_styE hs ho h he
end Go.Proofs.Yteiholpabgeajaa
