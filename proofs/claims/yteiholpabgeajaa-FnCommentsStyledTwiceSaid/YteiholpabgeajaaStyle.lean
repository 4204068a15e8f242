/- How comments are styled: the plain function; EnforceCommentStyle.FodderElement on an element of a row of the call's own. -/
import Derived.Test.YteiholpabgeajaaSigned
import Derived.Test.YteiholpabgeajaaFodder
namespace Go.Proofs.Yteiholpabgeajaa
open Go.RowKit

/-! ### Plain -/
def styL (st : Int) : List UInt8 → List UInt8
  | [] => []
  | x :: t => if st = 0 then (if x.toNat = 47 then 35 :: t.drop 1 else x :: t) else (if x.toNat = 35 then 47 :: 47 :: t else x :: t)
def styB (st : Int) (s : ByteArray) : ByteArray := ⟨(styL st s.data.toList).toArray⟩
def styE (st : Int) (e : El) : El := if e.kind ≠ 1 ∧ e.n = 1 then { e with cs := e.cs.map (styB st) } else e
/-- No comment that begins with #! . -/
def NoBang (s : ByteArray) : Prop := ¬ ∃ t, s.data.toList = 35 :: 33 :: t
def CanStyle (e : El) : Prop := e.kind ≠ 1 → ∀ c, e.cs = [c] → LineC c ∧ NoBang c

theorem list_B (s : ByteArray) : (⟨s.data.toList.toArray⟩ : ByteArray) = s := by cases s; simp

/-! ### The pass itself in memory -/
/-- The pass lies in block rc: its style, whether fodder was seen. -/
def RC (w : World) (rc : Nat) (st : Int) : Prop := ∃ (C : Array Value) (sb : Bool), w.heap[rc]? = some (.cells C 48 (0, 0)) ∧ C[3]? = some (.int .i64 st) ∧ C[12]? = some (.bool sb)
theorem RC.cells {w : World} {rc : Nat} {st : Int} (h : RC w rc st) : ∃ sb : Bool, w.cell? ⟨rc, 3, none⟩ = some (.int .i64 st) ∧ w.cell? ⟨rc, 12, none⟩ = some (.bool sb) ∧ w.frozen? ⟨rc, 12, none⟩ = false := by
  obtain ⟨C, sb, hb, h3, h12⟩ := h
  exact ⟨sb, by rw [cell_of_row w rc 3 C _ (0, 0) hb]; exact h3, by rw [cell_of_row w rc 12 C _ (0, 0) hb]; exact h12, frozen_of_row w rc 12 C _ hb⟩
theorem RC.seen {w : World} {rc : Nat} {st : Int} (h : RC w rc st) : RC (w.setCell ⟨rc, 12, none⟩ (.bool true)) rc st := by
  obtain ⟨C, sb, hb, h3, h12⟩ := h
  refine ⟨C.setIfInBounds 12 (.bool true), true, heap_setCell_same w rc 12 C _ _ hb, ?_, ?_⟩
  · rw [Array.getElem?_setIfInBounds_ne (by decide)]; exact h3
  · have hl : 12 < C.size := (Array.getElem?_eq_some_iff.1 h12).1
    simp [hl]
theorem RC.other {w : World} {rc : Nat} {st : Int} (h : RC w rc st) {p : Addr} (hp : p.block ≠ rc) (u : Value) : RC (w.setCell p u) rc st := by
  obtain ⟨C, sb, hb, h3, h12⟩ := h
  exact ⟨C, sb, (heap_setCell_other w p rc u (fun e => hp e.symm)).trans hb, h3, h12⟩

theorem own_not {w : World} {b rc : Nat} {e : TypeId} {s n : Nat} {v : Value} {xs : List Value} (h : w.ownsRow b e s v n xs) {st : Int} (hr : RC w rc st) (hne : e ≠ 48) : v.ownBlock = none ∨ v.ownBlock ≠ some rc := by
  rcases h.2 with ⟨rfl, _⟩ | ⟨g, cap, cur, rfl, _, hh, _⟩
  · exact .inl rfl
  · refine .inr fun he => ?_
    simp only [Value.ownBlock, Option.some.injEq] at he
    subst he
    obtain ⟨C, sb, hb, _⟩ := hr
    rw [hh] at hb
    injection hb with hb
    injection hb with _ ht
    exact hne ht
theorem grown_set (w : World) (p : Addr) (u : Value) : w.grownBy (w.setCell p u) (some p.block) :=
  ⟨rfl, rfl, rfl, by simp, fun k _ hk => heap_setCell_other w p k u (fun e => hk (by simp [e]))⟩

theorem Copied.seen {w : World} {B n rc : Nat} {v : Value} {es : List El} {st : Int} (h : Copied w B v n es) (hr : RC w rc st) : Copied (w.setCell ⟨rc, 12, none⟩ (.bool true)) B v n es := by
  have g := grown_set w ⟨rc, 12, none⟩ (.bool true)
  exact ⟨h.row.kept g (own_not h.row hr (by decide)), h.len, fun e he => (h.com e he).kept g (own_not (h.com e he) hr (by decide)), h.dist⟩

theorem flat_set (es : List El) : ∀ (k : Nat) (e e' : El), es[k]? = some e → e'.fcells = e.fcells → (es.set k e').flatMap El.fcells = es.flatMap El.fcells := by
  induction es with
  | nil => intro k e e' h; simp at h
  | cons x xs ih =>
    intro k e e' h hf
    cases k with
    | zero =>
      simp at h
      subst h
      simp [hf]
    | succ k =>
      simp at h
      simp [ih k e e' h hf]

/-- One line of a comment is laid anew. -/
theorem Copied.styled {w : World} {B n k : Nat} {v : Value} {es : List El} (h : Copied w B v n es) {kd bl nd : Int} {cd : Addr} {ec : Nat} {s : ByteArray} (he : es[k]? = some ⟨kd, bl, nd, some cd, 1, ec, [s]⟩) (s' : ByteArray) :
    Copied (w.setCell cd (.string s')) B v n (es.set k ⟨kd, bl, nd, some cd, 1, ec, [s']⟩) ∧ w.frozen? cd = false ∧ w.cell? cd = some (.string s) := by
  obtain ⟨hk, hke⟩ := List.getElem?_eq_some_iff.1 he
  have hm : (⟨kd, bl, nd, some cd, 1, ec, [s]⟩ : El) ∈ es := hke ▸ List.getElem_mem hk
  have hc := h.com _ hm
  simp only at hc
  obtain ⟨g, cap, hv, _, _⟩ := hc.form (by omega)
  have hcd : cd = ⟨g, 0, none⟩ := by injection hv with h1; injection h1
  have hcap : ec = cap := by injection hv
  subst hcd hcap
  obtain ⟨hst, hg⟩ := hc.stored 0 (.string s')
  have hrow := h.row.kept hg (own_ne h.row hc (by decide))
  refine ⟨⟨?_, by simpa using h.len, ?_, ?_⟩, hc.frozenAt 0, ?_⟩
  · rw [flat_set es k _ ⟨kd, bl, nd, some ⟨g, 0, none⟩, 1, ec, [s']⟩ he rfl]
    exact hrow
  · intro e hem
    obtain ⟨j, hj⟩ := List.getElem?_of_mem hem
    rw [List.getElem?_set] at hj
    by_cases hjk : k = j
    · subst hjk
      rw [if_pos rfl, if_pos hk] at hj
      cases hj
      exact hst
    · rw [if_neg hjk] at hj
      have hem' := List.mem_of_getElem? hj
      refine (h.com e hem').kept hg ?_
      by_cases hq : (Value.slice e.A e.n e.c).ownBlock = none
      · exact .inl hq
      · refine .inr fun heq => ?_
        obtain ⟨hjl, hje⟩ := List.getElem?_eq_some_iff.1 hj
        rcases Nat.lt_or_gt_of_ne hjk with hlt | hlt
        · have := (List.pairwise_iff_getElem.1 h.dist) k j hk hjl hlt
          rw [hke, hje] at this
          exact this heq.symm
        · have := (List.pairwise_iff_getElem.1 h.dist) j k hjl hk hlt
          rw [hke, hje] at this
          exact this heq
  · rw [List.pairwise_iff_getElem]
    intro i j hi hj hij
    have hi' : i < es.length := by simpa using hi
    have hj' : j < es.length := by simpa using hj
    have key : ∀ (m : Nat) (hm : m < (es.set k ⟨kd, bl, nd, some ⟨g, 0, none⟩, 1, ec, [s']⟩).length) (hm' : m < es.length), ((es.set k ⟨kd, bl, nd, some ⟨g, 0, none⟩, 1, ec, [s']⟩)[m]).A = es[m].A ∧ ((es.set k ⟨kd, bl, nd, some ⟨g, 0, none⟩, 1, ec, [s']⟩)[m]).n = es[m].n ∧ ((es.set k ⟨kd, bl, nd, some ⟨g, 0, none⟩, 1, ec, [s']⟩)[m]).c = es[m].c := by
      intro m hm hm'
      rw [List.getElem_set]
      split
      · rename_i hkm
        subst hkm
        rw [hke]
        exact ⟨rfl, rfl, rfl⟩
      · exact ⟨rfl, rfl, rfl⟩
    obtain ⟨a1, a2, a3⟩ := key i hi hi'
    obtain ⟨b1, b2, b3⟩ := key j hj hj'
    rw [a1, a2, a3, b1, b2, b3]
    exact (List.pairwise_iff_getElem.1 h.dist) i j hi' hj' hij
  · have := hc.cellAt 0 (by omega)
    simpa using this
end Go.Proofs.Yteiholpabgeajaa
