/- Steps as plain data; how rows of them lie in memory (of impl.Step and of jsonnet.ChainStep); how an argument that is such a row is opened. -/
import Derived.Test.YtmbaijkbchkjoaaDoorRows
import Derived.Test.YtmbaijkbchkjoaaDoorWords
import Derived.Deep.Fields
import Derived.RowKit
import Derived.WideShapes
namespace Go.Proofs.YtmbaijkbchkjoaaDoor
open Go.RowKit Go.ChangeShapes Go.WideShapes Go.Deep

/-- A step: whether a field is taken out, and which; names (they lie at A), and how they are seen (they lie at B). -/
structure St where
  is : Bool
  rem : ByteArray
  A : Option Addr
  n : Nat
  c : Nat
  ns : List ByteArray
  B : Option Addr
  m : Nat
  d : Nat
  hs : List Int
namespace St
/-- Of impl.Step. -/
def cells (e : St) : List Value := [.bool e.is, .string e.rem, .slice e.A e.n e.c, .slice e.B e.m e.d]
/-- Of jsonnet.ChainStep. -/
def jcells (e : St) : List Value := [.string e.rem, .slice e.A e.n e.c, .slice e.B e.m e.d, .bool e.is]
structure OK (w : World) (B0 : Nat) (e : St) : Prop where
  names : Reads w B0 1 e.A e.n (e.ns.map .string)
  hides : Reads w B0 1 e.B e.m (e.hs.map (.int .i64))
  nc : e.n ≤ e.c
  cm : e.c ≤ maxLen
  md : e.m ≤ e.d
  dm : e.d ≤ maxLen
  rsz : e.rem.size ≤ maxLen
  strs : ∀ s ∈ e.ns, s.size ≤ maxLen
  ints : ∀ h ∈ e.hs, -9223372036854775808 ≤ h ∧ h ≤ 9223372036854775807
theorem OK.keep {w w' : World} {B : Nat} {e : St} (h : OK w B e) (hk : ∀ p : Addr, p.block < B → w'.cell? p = w.cell? p) : OK w' B e := { h with names := h.names.keep hk, hides := h.hides.keep hk }
theorem OK.below {w w' : World} {B : Nat} {e : St} (h : OK w B e) (hb : Below B w w') : OK w' B e := h.keep fun _ hp => hb.cell hp
theorem OK.more {w : World} {B B' : Nat} {e : St} (h : OK w B e) (hB : B ≤ B') : OK w B' e := { h with names := h.names.more hB, hides := h.hides.more hB }
theorem OK.carry {w w' : World} {e : St} (h : OK w w.heap.size e) (hb : Below w.heap.size w w') : OK w' w'.heap.size e := (h.below hb).more hb.size
end St

section
variable {f : St → List Value}
theorem flat_length (hf : ∀ e, (f e).length = 4) (els : List St) : (els.flatMap f).length = els.length * 4 := by
  induction els with
  | nil => rfl
  | cons e es ih => simp only [List.flatMap_cons, List.length_append, ih, List.length_cons, hf]; omega
theorem flat_at (hf : ∀ e, (f e).length = 4) (els : List St) : ∀ (i j : Nat) (hi : i < els.length), j < 4 → (els.flatMap f)[i * 4 + j]? = (f els[i])[j]? := by
  induction els with
  | nil => intro i j hi; simp at hi
  | cons e es ih =>
    intro i j hi hj
    have hl := hf e
    rw [List.flatMap_cons]
    cases i with
    | zero => rw [List.getElem?_append_left (by omega)]; simp
    | succ i =>
      rw [List.getElem?_append_right (by omega), show (i + 1) * 4 + j - (f e).length = i * 4 + j by omega]
      simpa using ih i j (by simpa using hi) hj
end
theorem four (e : St) : e.cells.length = 4 := rfl
theorem jfour (e : St) : e.jcells.length = 4 := rfl

/-- A slice value reads as steps. -/
def StsAt (w : World) (B : Nat) (A : Option Addr) (n : Nat) (els : List St) : Prop := Reads w B 4 A n (els.flatMap St.cells) ∧ els.length = n ∧ ∀ e ∈ els, e.OK w B
def JsAt (w : World) (B : Nat) (A : Option Addr) (n : Nat) (els : List St) : Prop := Reads w B 4 A n (els.flatMap St.jcells) ∧ els.length = n ∧ ∀ e ∈ els, e.OK w B
theorem StsAt.below {w w' : World} {A : Option Addr} {n : Nat} {els : List St} (h : StsAt w w.heap.size A n els) (hb : Below w.heap.size w w') : StsAt w' w'.heap.size A n els :=
  ⟨(h.1.keep fun _ hp => hb.cell hp).more hb.size, h.2.1, fun e he => (h.2.2 e he).carry hb⟩
theorem JsAt.below {w w' : World} {A : Option Addr} {n : Nat} {els : List St} (h : JsAt w w.heap.size A n els) (hb : Below w.heap.size w w') : JsAt w' w'.heap.size A n els :=
  ⟨(h.1.keep fun _ hp => hb.cell hp).more hb.size, h.2.1, fun e he => (h.2.2 e he).carry hb⟩

/-- Element i's four cells, as a walk asks for them. -/
theorem four_cells {f : St → List Value} (hf : ∀ e, (f e).length = 4) {w : World} {B : Nat} {A : Option Addr} {n : Nat} {els : List St} (hr : Reads w B 4 A n (els.flatMap f)) (hl : els.length = n) {i : Nat} (hi : i < n) :
    ∃ ad e, A = some ad ∧ ad.block < B ∧ els[i]? = some e ∧ w.cell? (ad.add (i * 4)) = (f e)[0]? ∧ w.cell? ⟨(ad.add (i * 4)).block, (ad.add (i * 4)).off + 1, none⟩ = (f e)[1]? ∧
      w.cell? ⟨(ad.add (i * 4)).block, (ad.add (i * 4)).off + 2, none⟩ = (f e)[2]? ∧ w.cell? ⟨(ad.add (i * 4)).block, (ad.add (i * 4)).off + 3, none⟩ = (f e)[3]? := by
  obtain ⟨ad, hA, hb, hc⟩ := hr.2 (by omega)
  have hi' : i < els.length := by omega
  have hat := flat_at hf els i
  have hs : ∀ j, 0 < j → (⟨(ad.add (i * 4)).block, (ad.add (i * 4)).off + j, none⟩ : Addr) = ad.add (i * 4 + j) := fun j hj => by
    rw [← add_of_add]
    conv => rhs; unfold Addr.add
    rw [if_neg (by omega)]
    rfl
  have each : ∀ j, j < 4 → w.cell? (ad.add (i * 4 + j)) = (f els[i])[j]? := fun j hj => by
    have h4 := hf els[i]
    rw [List.getElem?_eq_getElem (by omega)]
    refine hc _ _ ?_
    rw [hat j hi' hj, List.getElem?_eq_getElem (by omega)]
  refine ⟨ad, els[i], hA, hb, List.getElem?_eq_getElem hi', each 0 (by omega), ?_, ?_, ?_⟩
  · rw [hs 1 (by omega)]; exact each 1 (by omega)
  · rw [hs 2 (by omega)]; exact each 2 (by omega)
  · rw [hs 3 (by omega)]; exact each 3 (by omega)

/-! ### An argument opened -/
theorem undS : Tryd.prog.underlying 22 = some (.slice 29) := by kernel_rfl
theorem cellS : Tryd.prog.cellsOf 29 = 4 := by kernel_rfl
theorem cellB : Tryd.prog.cellsOf 4 = 1 := by kernel_rfl
theorem cellStr : Tryd.prog.cellsOf 9 = 1 := by kernel_rfl
theorem cellInt : Tryd.prog.cellsOf 3 = 1 := by kernel_rfl
theorem cellNs : Tryd.prog.cellsOf 26 = 1 := by kernel_rfl
theorem cellHs : Tryd.prog.cellsOf 27 = 1 := by kernel_rfl

section
variable {H : Type} {enc : TypeId × Value → H} {w : World} {base : Nat} {spare : Nat → Bool} {held : Bool}
theorem names_of {fuel : Nat} {v : Value} {x : DataW H × List MemPlace} (h : DataW.trod enc Tryd.prog w base spare held fuel 26 [v] = some x) :
    ∃ (A : Option Addr) (n c : Nat) (cs : List ByteArray), v = .slice A n c ∧ n ≤ c ∧ c ≤ maxLen ∧ Reads w w.heap.size 1 A n (cs.map .string) ∧ ∀ s ∈ cs, s.size ≤ maxLen := by
  rcases open_strs Tryd.underlying26 Tryd.underlying9 cellStr h with ⟨hv, _⟩ | ⟨a, len, cap, m, Sx, hv, _, hl, hc, hm, _, hi⟩
  · obtain rfl : v = .slice none 0 0 := by simpa using hv
    exact ⟨none, 0, 0, [], rfl, Nat.le_refl _, Nat.zero_le _, Reads.none_, by simp⟩
  · obtain rfl : v = .slice (some a) len cap := by simpa using hv
    have hlm : len ≤ m := by rw [hm]; split <;> omega
    refine ⟨some a, len, cap, (List.range len).map Sx, rfl, hl, hc, Reads.of_cells (by omega) (by simp) (fun _ => ⟨a, rfl, fun j u hu => ?_⟩), ?_⟩
    · have hj : j < len := by
        have := (List.getElem?_eq_some_iff.1 hu).1
        simpa using this
      simp [hj] at hu
      rw [← hu]
      exact (hi j (by omega)).1
    · intro s hs
      obtain ⟨i, hi', rfl⟩ := List.mem_map.1 hs
      exact (hi i (by have := List.mem_range.1 hi'; omega)).2
theorem int_of {fuel : Nat} {v : Value} {x : DataW H × List MemPlace} (h : DataW.trod enc Tryd.prog w base spare held fuel 3 [v] = some x) :
    ∃ k : Int, v = .int .i64 k ∧ -9223372036854775808 ≤ k ∧ k ≤ 9223372036854775807 := by
  obtain ⟨k, e1, _, wf⟩ := DataW.trod_int Tryd.underlying3 h
  refine ⟨k, by simpa using e1, ?_⟩
  have h1 : IntKind.i64.min = -9223372036854775808 := rfl
  have h2 : IntKind.i64.max = 9223372036854775807 := rfl
  simp only [Lit.wf, Bool.and_eq_true, decide_eq_true_eq, h1, h2] at wf
  exact wf
instance : Inhabited Value := ⟨.nilIface⟩
theorem ints_of {fuel : Nat} {v : Value} {x : DataW H × List MemPlace} (h : DataW.trod enc Tryd.prog w base spare held fuel 27 [v] = some x) :
    ∃ (A : Option Addr) (n c : Nat) (xs : List Int), v = .slice A n c ∧ n ≤ c ∧ c ≤ maxLen ∧ Reads w w.heap.size 1 A n (xs.map (.int .i64)) ∧ ∀ h ∈ xs, -9223372036854775808 ≤ h ∧ h ≤ 9223372036854775807 := by
  rcases open_slice1 Tryd.underlying27 cellInt h with ⟨hv, _⟩ | ⟨a, len, cap, m, n, V, D, Pl, hv, hb, hl, hm, hmm, _, hx⟩
  · obtain rfl : v = .slice none 0 0 := by simpa using hv
    exact ⟨none, 0, 0, [], rfl, Nat.le_refl _, Nat.zero_le _, Reads.none_, by simp⟩
  · obtain rfl : v = .slice (some a) len cap := by simpa using hv
    have hlm : len ≤ m := by rw [hmm]; split <;> omega
    have each : ∀ i, i < len → ∃ k : Int, V i = .int .i64 k ∧ -9223372036854775808 ≤ k ∧ k ≤ 9223372036854775807 := fun i hi => int_of (hx i (by omega)).2
    obtain ⟨X, hX⟩ := choose_lt each
    refine ⟨some a, len, cap, (List.range len).map X, rfl, hl, hm, Reads.of_cells (by omega) (by simp) (fun _ => ⟨a, rfl, fun j u hu => ?_⟩), fun k hk => ?_⟩
    · have hj : j < len := by
        have := (List.getElem?_eq_some_iff.1 hu).1
        simpa using this
      simp [hj] at hu
      rw [← hu, ← (hX j hj).1]
      exact (hx j (by omega)).1
    · obtain ⟨i, hi', rfl⟩ := List.mem_map.1 hk
      exact (hX i (List.mem_range.1 hi')).2
theorem bool_of {fuel : Nat} {v : Value} {x : DataW H × List MemPlace} (h : DataW.trod enc Tryd.prog w base spare held fuel 4 [v] = some x) : ∃ b, v = .bool b := by
  cases fuel with
  | zero => simp [DataW.trod] at h
  | succ n =>
    simp only [DataW.trod, Tryd.underlying4] at h
    cases v <;> simp_all
theorem str_of {fuel : Nat} {v : Value} {x : DataW H × List MemPlace} (h : DataW.trod enc Tryd.prog w base spare held fuel 9 [v] = some x) : ∃ s, v = .string s ∧ s.size ≤ maxLen := by
  cases fuel with
  | zero => simp [DataW.trod] at h
  | succ n =>
    simp only [DataW.trod, Tryd.underlying9] at h
    cases v <;> simp_all
theorem st_of {fuel : Nat} {c0 c1 c2 c3 : Value} {x : DataW H × List MemPlace} (h : DataW.trod enc Tryd.prog w base spare held fuel 29 [c0, c1, c2, c3] = some x) :
    ∃ e : St, [c0, c1, c2, c3] = e.cells ∧ e.OK w w.heap.size := by
  obtain ⟨xs, n, _, _, _, hlen, hg⟩ := DataW.trod_struct Tryd.underlying29 h
  match xs, hlen with
  | [y0, y1, y2, y3], _ =>
    have g0 : DataW.trod enc Tryd.prog w base spare held n 4 (([c0, c1, c2, c3].drop 0).take (Tryd.prog.cellsOf 4)) = some y0 := hg 0 _ rfl
    have g1 : DataW.trod enc Tryd.prog w base spare held n 9 (([c0, c1, c2, c3].drop 1).take (Tryd.prog.cellsOf 9)) = some y1 := hg 1 _ rfl
    have g2 : DataW.trod enc Tryd.prog w base spare held n 26 (([c0, c1, c2, c3].drop 2).take (Tryd.prog.cellsOf 26)) = some y2 := hg 2 _ rfl
    have g3 : DataW.trod enc Tryd.prog w base spare held n 27 (([c0, c1, c2, c3].drop 3).take (Tryd.prog.cellsOf 27)) = some y3 := hg 3 _ rfl
    rw [cellB] at g0
    rw [cellStr] at g1
    rw [cellNs] at g2
    rw [cellHs] at g3
    obtain ⟨b, rfl⟩ := bool_of (show DataW.trod enc Tryd.prog w base spare held n 4 [c0] = some y0 from g0)
    obtain ⟨s, rfl, hs⟩ := str_of (show DataW.trod enc Tryd.prog w base spare held n 9 [c1] = some y1 from g1)
    obtain ⟨A, k, c, cs, rfl, hl, hm, hr, hss⟩ := names_of (show DataW.trod enc Tryd.prog w base spare held n 26 [c2] = some y2 from g2)
    obtain ⟨B, m, d, xs, rfl, hl2, hm2, hr2, hss2⟩ := ints_of (show DataW.trod enc Tryd.prog w base spare held n 27 [c3] = some y3 from g3)
    exact ⟨⟨b, s, A, k, c, cs, B, m, d, xs⟩, rfl, ⟨hr, hr2, hl, hm, hl2, hm2, hs, hss, hss2⟩⟩
instance : Inhabited St := ⟨⟨false, ⟨#[]⟩, none, 0, 0, [], none, 0, 0, []⟩⟩
theorem open_sts {fuel : Nat} {v : Value} {x : DataW H × List MemPlace} (h : DataW.trod enc Tryd.prog w base spare held fuel 22 [v] = some x) :
    ∃ A n c els, v = .slice A n c ∧ n ≤ c ∧ c ≤ maxLen ∧ StsAt w w.heap.size A n els := by
  rcases open_slice Tryd.underlying22 h with ⟨hv, _⟩ | ⟨a, len, cap, m, n, D, Pl, hv, _, hl, hc, hm, _, hi⟩
  · obtain rfl : v = .slice none 0 0 := by simpa using hv
    exact ⟨none, 0, 0, [], rfl, Nat.le_refl _, Nat.zero_le _, Reads.none_, rfl, by simp⟩
  · obtain rfl : v = .slice (some a) len cap := by simpa using hv
    have hlm : len ≤ m := by rw [hm]; split <;> omega
    rw [cellS] at hi
    have all : ∀ i, i < len → ∃ e : St, w.cells? base (a.add (i * 4)) 4 = some e.cells ∧ e.OK w w.heap.size := by
      intro i hil
      obtain ⟨cs', hcs, ht⟩ := hi i (by omega)
      obtain ⟨_, hcl, _⟩ := World.cells?_some hcs
      match cs', hcl with
      | [c0, c1, c2, c3], _ =>
        obtain ⟨e, he, hok⟩ := st_of ht
        exact ⟨e, by rw [hcs, he], hok⟩
    obtain ⟨E, hE⟩ := choose_lt (α := St) all
    have hEl : ∀ i (hi : i < len), ((List.range len).map E)[i]'(by simpa using hi) = E i := fun i hi => by simp
    refine ⟨some a, len, cap, (List.range len).map E, rfl, hl, hc, Reads.of_cells (by omega) ?_ (fun _ => ⟨a, rfl, ?_⟩), by simp, ?_⟩
    · rw [flat_length four]; simp
    · intro j u hu
      have hj : j < len * 4 := by
        have := (List.getElem?_eq_some_iff.1 hu).1
        rw [flat_length four] at this
        simpa using this
      have hj4 : j / 4 < len := by omega
      have hat := flat_at four ((List.range len).map E) (j / 4) (j % 4) (by simpa using hj4) (by omega)
      rw [show j / 4 * 4 + j % 4 = j by omega, hu, hEl _ hj4] at hat
      obtain ⟨hc1, _⟩ := hE _ hj4
      obtain ⟨_, hcl, hcat⟩ := World.cells?_some hc1
      have := hcat (j % 4) (by omega)
      rw [add_of_add, show j / 4 * 4 + j % 4 = j by omega] at this
      rw [this, ← hat]
    · intro e he
      obtain ⟨i, hi', rfl⟩ := List.mem_map.1 he
      exact (hE i (List.mem_range.1 hi')).2
end
end Go.Proofs.YtmbaijkbchkjoaaDoor
