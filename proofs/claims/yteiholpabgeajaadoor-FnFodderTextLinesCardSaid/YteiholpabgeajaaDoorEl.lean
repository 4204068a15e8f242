/- Elements of fodder as plain data, how a slice of them lies in memory (of impl.Element and of ast.FodderElement), and how an argument that is such a slice is opened. Conditions: none of its own. -/
import Derived.Test.YteiholpabgeajaaDoorRows
import Derived.Test.YteiholpabgeajaaDoorWords
import Derived.Deep.Fields
import Derived.RowKit
import Derived.WideShapes
namespace Go.Proofs.YteiholpabgeajaaDoor
open Go.RowKit Go.ChangeShapes Go.WideShapes Go.Deep

/-- An element: its kind, blank lines, indent, and the lines of its comment, which lie at 'A' ('n' of them, capacity 'c'). -/
structure El where
  kind : Int
  blanks : Int
  indent : Int
  A : Option Addr
  n : Nat
  c : Nat
  cs : List ByteArray

namespace El
def cells (e : El) : List Value := [.int .i64 e.kind, .int .i64 e.blanks, .int .i64 e.indent, .slice e.A e.n e.c]
def fcells (e : El) : List Value := [.slice e.A e.n e.c, .int .i64 e.kind, .int .i64 e.blanks, .int .i64 e.indent]
def data (e : El) : Int × Int × Int × List ByteArray := (e.kind, e.blanks, e.indent, e.cs)
/-- What is known of an element that came in. -/
structure OK (w : World) (B : Nat) (e : El) : Prop where
  com : Reads w B 1 e.A e.n (e.cs.map .string)
  le : e.n ≤ e.c
  max : e.c ≤ maxLen
  strs : ∀ s ∈ e.cs, s.size ≤ maxLen
  k0 : -9223372036854775808 ≤ e.kind
  k1 : e.kind ≤ 9223372036854775807
  b0 : -9223372036854775808 ≤ e.blanks
  b1 : e.blanks ≤ 9223372036854775807
  i0 : -9223372036854775808 ≤ e.indent
  i1 : e.indent ≤ 9223372036854775807
theorem OK.len {w : World} {B : Nat} {e : El} (h : OK w B e) : e.cs.length = e.n := by have := h.com.1; simpa using this
theorem OK.keep {w w' : World} {B : Nat} {e : El} (h : OK w B e) (hk : ∀ p : Addr, p.block < B → w'.cell? p = w.cell? p) : OK w' B e :=
  { h with com := h.com.keep hk }
theorem OK.below {w w' : World} {B : Nat} {e : El} (h : OK w B e) (hb : Below B w w') : OK w' B e := h.keep fun _ hp => hb.cell hp
end El

theorem cells_length (els : List El) : (els.flatMap El.cells).length = els.length * 4 := by
  induction els with
  | nil => rfl
  | cons e es ih => simp only [List.flatMap_cons, List.length_append, ih, List.length_cons]; simp [El.cells]; omega
theorem fcells_length (els : List El) : (els.flatMap El.fcells).length = els.length * 4 := by
  induction els with
  | nil => rfl
  | cons e es ih => simp only [List.flatMap_cons, List.length_append, ih, List.length_cons]; simp [El.fcells]; omega
theorem cells_at (els : List El) : ∀ (i j : Nat) (hi : i < els.length), j < 4 → (els.flatMap El.cells)[i * 4 + j]? = (els[i]).cells[j]? := by
  induction els with
  | nil => intro i j hi; simp at hi
  | cons e es ih =>
    intro i j hi hj
    have hl : e.cells.length = 4 := rfl
    rw [List.flatMap_cons]
    cases i with
    | zero => rw [List.getElem?_append_left (by omega)]; simp
    | succ i =>
      rw [List.getElem?_append_right (by omega), show (i + 1) * 4 + j - e.cells.length = i * 4 + j by omega]
      simpa using ih i j (by simpa using hi) hj
theorem fcells_at (els : List El) : ∀ (i j : Nat) (hi : i < els.length), j < 4 → (els.flatMap El.fcells)[i * 4 + j]? = (els[i]).fcells[j]? := by
  induction els with
  | nil => intro i j hi; simp at hi
  | cons e es ih =>
    intro i j hi hj
    have hl : e.fcells.length = 4 := rfl
    rw [List.flatMap_cons]
    cases i with
    | zero => rw [List.getElem?_append_left (by omega)]; simp
    | succ i =>
      rw [List.getElem?_append_right (by omega), show (i + 1) * 4 + j - e.fcells.length = i * 4 + j by omega]
      simpa using ih i j (by simpa using hi) hj

/-- A slice value reads as elements (of impl.Element: 'cells'; of ast.FodderElement: 'fcells'). -/
def ElsAt (w : World) (B : Nat) (A : Option Addr) (n : Nat) (els : List El) : Prop := Reads w B 4 A n (els.flatMap El.cells) ∧ els.length = n ∧ ∀ e ∈ els, e.OK w B
theorem ElsAt.keep {w w' : World} {B : Nat} {A : Option Addr} {n : Nat} {els : List El} (h : ElsAt w B A n els) (hk : ∀ p : Addr, p.block < B → w'.cell? p = w.cell? p) : ElsAt w' B A n els :=
  ⟨h.1.keep hk, h.2.1, fun e he => (h.2.2 e he).keep hk⟩
theorem ElsAt.below {w w' : World} {B : Nat} {A : Option Addr} {n : Nat} {els : List El} (h : ElsAt w B A n els) (hb : Below B w w') : ElsAt w' B A n els := h.keep fun _ hp => hb.cell hp
theorem El.OK.more {w : World} {B B' : Nat} {e : El} (h : e.OK w B) (hB : B ≤ B') : e.OK w B' := { h with com := h.com.more hB }
theorem ElsAt.more {w : World} {B B' : Nat} {A : Option Addr} {n : Nat} {els : List El} (h : ElsAt w B A n els) (hB : B ≤ B') : ElsAt w B' A n els := ⟨h.1.more hB, h.2.1, fun e he => (h.2.2 e he).more hB⟩
/-- One element, cut out. -/
theorem ElsAt.one {w : World} {B : Nat} {ad : Addr} {n : Nat} {els : List El} (h : ElsAt w B (some ad) n els) {i : Nat} {e : El} (he : els[i]? = some e) : ElsAt w B (some (ad.add (i * 4))) 1 [e] := by
  obtain ⟨hr, hl, hok⟩ := h
  obtain ⟨hi, hie⟩ := List.getElem?_eq_some_iff.1 he
  obtain ⟨ad', hA, hb, hc⟩ := hr.2 (by omega)
  injection hA with hA
  subst hA
  refine ⟨⟨by simp [El.cells], fun _ => ⟨_, rfl, by rw [block_of_add]; exact hb, fun j u hj => ?_⟩⟩, rfl, fun x hx => ?_⟩
  · rw [add_of_add]
    have hj4 : j < 4 := by
      have := (List.getElem?_eq_some_iff.1 hj).1
      simpa [El.cells] using this
    refine hc _ _ ?_
    rw [cells_at els i j hi hj4, hie]
    simpa using hj
  · obtain rfl : x = e := by simpa using hx
    exact hok _ (hie ▸ List.getElem_mem hi)

/-- Element i's four cells, as a walk asks for them. -/
theorem ElsAt.cellsAt {w : World} {B : Nat} {A : Option Addr} {n : Nat} {els : List El} (h : ElsAt w B A n els) {i : Nat} (hi : i < n) :
    ∃ ad e, A = some ad ∧ ad.block < B ∧ els[i]? = some e ∧ e.OK w B ∧ w.cell? (ad.add (i * 4)) = some (.int .i64 e.kind) ∧ w.cell? ⟨(ad.add (i * 4)).block, (ad.add (i * 4)).off + 1, none⟩ = some (.int .i64 e.blanks) ∧
      w.cell? ⟨(ad.add (i * 4)).block, (ad.add (i * 4)).off + 2, none⟩ = some (.int .i64 e.indent) ∧ w.cell? ⟨(ad.add (i * 4)).block, (ad.add (i * 4)).off + 3, none⟩ = some (.slice e.A e.n e.c) := by
  obtain ⟨hr, hl, hok⟩ := h
  obtain ⟨ad, hA, hb, hc⟩ := hr.2 (by omega)
  have hi' : i < els.length := by omega
  have hat := cells_at els i
  have hs : ∀ j, 0 < j → (⟨(ad.add (i * 4)).block, (ad.add (i * 4)).off + j, none⟩ : Addr) = ad.add (i * 4 + j) := fun j hj => by
    rw [← add_of_add]
    conv => rhs; unfold Addr.add
    rw [if_neg (by omega)]
    rfl
  refine ⟨ad, els[i], hA, hb, List.getElem?_eq_getElem hi', hok _ (List.getElem_mem hi'), hc _ _ ?_, ?_, ?_, ?_⟩
  · have := hat 0 hi' (by omega); simpa [El.cells] using this
  · rw [hs 1 (by omega)]; refine hc _ _ ?_; have := hat 1 hi' (by omega); simpa [El.cells] using this
  · rw [hs 2 (by omega)]; refine hc _ _ ?_; have := hat 2 hi' (by omega); simpa [El.cells] using this
  · rw [hs 3 (by omega)]; refine hc _ _ ?_; have := hat 3 hi' (by omega); simpa [El.cells] using this

/-! ### An argument opened -/
theorem und22 : Tryd.prog.underlying 22 = some (.slice 26) := by kernel_rfl
theorem und25 : Tryd.prog.underlying 24 = some (.slice 9) := by kernel_rfl
theorem cell27 : Tryd.prog.cellsOf 26 = 4 := by kernel_rfl
theorem cell3 : Tryd.prog.cellsOf 3 = 1 := by kernel_rfl
theorem cell25 : Tryd.prog.cellsOf 24 = 1 := by kernel_rfl
theorem cell9 : Tryd.prog.cellsOf 9 = 1 := by kernel_rfl

section
variable {H : Type} {enc : TypeId × Value → H} {w : World} {base : Nat} {spare : Nat → Bool} {held : Bool}
theorem comment_of {fuel : Nat} {v : Value} {x : DataW H × List MemPlace} (h : DataW.trod enc Tryd.prog w base spare held fuel 24 [v] = some x) :
    ∃ (A : Option Addr) (n c : Nat) (cs : List ByteArray), v = .slice A n c ∧ n ≤ c ∧ c ≤ maxLen ∧ Reads w w.heap.size 1 A n (cs.map .string) ∧ ∀ s ∈ cs, s.size ≤ maxLen := by
  rcases open_strs Tryd.underlying24 Tryd.underlying9 cell9 h with ⟨hv, _⟩ | ⟨a, len, cap, m, Sx, hv, _, hl, hc, hm, _, hi⟩
  · obtain rfl : v = .slice none 0 0 := by simpa using hv
    exact ⟨none, 0, 0, [], rfl, Nat.le_refl _, Nat.zero_le _, Reads.none_, by simp⟩
  · obtain rfl : v = .slice (some a) len cap := by simpa using hv
    have hlm : len ≤ m := by rw [hm]; split <;> omega
    refine ⟨some a, len, cap, (List.range len).map Sx, rfl, hl, hc, Reads.of_cells (by omega) (by simp) (fun _ => ⟨a, rfl, fun j u hu => ?_⟩), ?_⟩
    · have hj : j < len := by
        have := (List.getElem?_eq_some_iff.1 hu).1
        simpa using this
      simp [hj] at hu
      rw [← hu]
      exact (hi j (by omega)).1
    · intro s hs
      obtain ⟨i, hi', rfl⟩ := List.mem_map.1 hs
      exact (hi i (by have := List.mem_range.1 hi'; omega)).2

theorem int_of {fuel : Nat} {v : Value} {x : DataW H × List MemPlace} (h : DataW.trod enc Tryd.prog w base spare held fuel 3 [v] = some x) :
    ∃ k : Int, v = .int .i64 k ∧ -9223372036854775808 ≤ k ∧ k ≤ 9223372036854775807 := by
  obtain ⟨k, e1, _, wf⟩ := DataW.trod_int Tryd.underlying3 h
  refine ⟨k, by simpa using e1, ?_⟩
  have h1 : IntKind.i64.min = -9223372036854775808 := rfl
  have h2 : IntKind.i64.max = 9223372036854775807 := rfl
  simp only [Lit.wf, Bool.and_eq_true, decide_eq_true_eq, h1, h2] at wf
  exact wf

theorem el_of {fuel : Nat} {c0 c1 c2 c3 : Value} {x : DataW H × List MemPlace} (h : DataW.trod enc Tryd.prog w base spare held fuel 26 [c0, c1, c2, c3] = some x) :
    ∃ e : El, [c0, c1, c2, c3] = e.cells ∧ e.OK w w.heap.size := by
  obtain ⟨xs, n, _, _, _, hlen, hg⟩ := DataW.trod_struct Tryd.underlying26 h
  match xs, hlen with
  | [y0, y1, y2, y3], _ =>
    have g0 : DataW.trod enc Tryd.prog w base spare held n 3 (([c0, c1, c2, c3].drop 0).take (Tryd.prog.cellsOf 3)) = some y0 := hg 0 _ rfl
    have g1 : DataW.trod enc Tryd.prog w base spare held n 3 (([c0, c1, c2, c3].drop 1).take (Tryd.prog.cellsOf 3)) = some y1 := hg 1 _ rfl
    have g2 : DataW.trod enc Tryd.prog w base spare held n 3 (([c0, c1, c2, c3].drop 2).take (Tryd.prog.cellsOf 3)) = some y2 := hg 2 _ rfl
    have g3 : DataW.trod enc Tryd.prog w base spare held n 24 (([c0, c1, c2, c3].drop 3).take (Tryd.prog.cellsOf 24)) = some y3 := hg 3 _ rfl
    rw [cell3] at g0 g1 g2
    rw [cell25] at g3
    obtain ⟨k, rfl, hk0, hk1⟩ := int_of (show DataW.trod enc Tryd.prog w base spare held n 3 [c0] = some y0 from g0)
    obtain ⟨b, rfl, hb0, hb1⟩ := int_of (show DataW.trod enc Tryd.prog w base spare held n 3 [c1] = some y1 from g1)
    obtain ⟨i, rfl, hi0, hi1⟩ := int_of (show DataW.trod enc Tryd.prog w base spare held n 3 [c2] = some y2 from g2)
    obtain ⟨A, m, c, cs, rfl, hl, hm, hr, hs⟩ := comment_of (show DataW.trod enc Tryd.prog w base spare held n 24 [c3] = some y3 from g3)
    exact ⟨⟨k, b, i, A, m, c, cs⟩, rfl, ⟨hr, hl, hm, hs, hk0, hk1, hb0, hb1, hi0, hi1⟩⟩

instance : Inhabited El := ⟨⟨0, 0, 0, none, 0, 0, []⟩⟩

theorem open_els {fuel : Nat} {v : Value} {x : DataW H × List MemPlace} (h : DataW.trod enc Tryd.prog w base spare held fuel 22 [v] = some x) :
    ∃ A n c els, v = .slice A n c ∧ n ≤ c ∧ c ≤ maxLen ∧ ElsAt w w.heap.size A n els := by
  rcases open_slice Tryd.underlying22 h with ⟨hv, _⟩ | ⟨a, len, cap, m, n, D, Pl, hv, _, hl, hc, hm, _, hi⟩
  · obtain rfl : v = .slice none 0 0 := by simpa using hv
    exact ⟨none, 0, 0, [], rfl, Nat.le_refl _, Nat.zero_le _, Reads.none_, rfl, by simp⟩
  · obtain rfl : v = .slice (some a) len cap := by simpa using hv
    have hlm : len ≤ m := by rw [hm]; split <;> omega
    rw [cell27] at hi
    have all : ∀ i, i < len → ∃ e : El, w.cells? base (a.add (i * 4)) 4 = some e.cells ∧ e.OK w w.heap.size := by
      intro i hil
      obtain ⟨cs', hcs, ht⟩ := hi i (by omega)
      obtain ⟨_, hcl, _⟩ := World.cells?_some hcs
      match cs', hcl with
      | [c0, c1, c2, c3], _ =>
        obtain ⟨e, he, hok⟩ := el_of ht
        exact ⟨e, by rw [hcs, he], hok⟩
    obtain ⟨E, hE⟩ := choose_lt (α := El) all
    have hEl : ∀ i (hi : i < len), ((List.range len).map E)[i]'(by simpa using hi) = E i := fun i hi => by simp
    refine ⟨some a, len, cap, (List.range len).map E, rfl, hl, hc, Reads.of_cells (by omega) ?_ (fun _ => ⟨a, rfl, ?_⟩), by simp, ?_⟩
    · rw [cells_length]; simp
    · intro j u hu
      have hj : j < len * 4 := by
        have := (List.getElem?_eq_some_iff.1 hu).1
        rw [cells_length] at this
        simpa using this
      have hj4 : j / 4 < len := by omega
      have hat := cells_at ((List.range len).map E) (j / 4) (j % 4) (by simpa using hj4) (by omega)
      rw [show j / 4 * 4 + j % 4 = j by omega, hu, hEl _ hj4] at hat
      obtain ⟨hc1, _⟩ := hE _ hj4
      obtain ⟨_, hcl, hcat⟩ := World.cells?_some hc1
      have := hcat (j % 4) (by omega)
      rw [add_of_add, show j / 4 * 4 + j % 4 = j by omega] at this
      rw [this, ← hat]
    · intro e he
      obtain ⟨i, hi', rfl⟩ := List.mem_map.1 he
      exact (hE i (List.mem_range.1 hi')).2
end
end Go.Proofs.YteiholpabgeajaaDoor
