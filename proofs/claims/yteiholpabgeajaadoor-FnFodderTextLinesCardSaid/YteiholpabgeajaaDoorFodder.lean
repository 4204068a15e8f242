/- Contracts of ast.FodderElementCountNewlines, impl.fodder (it copies elements), ast.FodderCountNewlines, impl.FodderLines. -/
import Derived.Test.YteiholpabgeajaaDoorElem
import Derived.Test.YteiholpabgeajaaDoorApp
import Derived.Deep.RegionHeld3
namespace Go.Proofs.YteiholpabgeajaaDoor
open Go.RowKit

/-- What an element counts. -/
def El.lines (e : El) : Int := if e.kind = 1 then 0 else if e.kind = 0 then 1 else e.n + e.blanks

theorem countEl_any (e : El) (w : World) (hk : e.kind = 0 ∨ e.kind = 1 ∨ e.kind = 2) (h0 : 0 ≤ e.blanks) (h1 : e.blanks ≤ 1000) (h2 : e.n ≤ 1000) :
    Calls Tryd.prog 20 #[.agg #[.slice e.A e.n e.c, .int .i64 e.kind, .int .i64 e.blanks, .int .i64 e.indent]] w fun r w' => r = .returned (.int .i64 e.lines) ∧ Below w.heap.size w w' := by
  obtain ⟨kd, bl, nd, A, n, c, cs⟩ := e
  simp only at hk h0 h1 h2
  rcases hk with rfl | rfl | rfl
  all_goals
    go_enter Tryd.func20, Tryd.ntmps20
    go_wp2
    go_ret
    exact ⟨rfl, (Below.refl _ _).alloc (Nat.le_refl _) _⟩

/-- Elements that the call itself has laid: a row of them, their comments in rows of their own. -/
structure Copied (w : World) (base : Nat) (v : Value) (n : Nat) (es : List El) : Prop where
  row : w.ownsRow base 44 4 v n (es.flatMap El.fcells)
  len : es.length = n
  com : ∀ e ∈ es, w.ownsRow base 9 1 (.slice e.A e.n e.c) e.n (e.cs.map .string)
  dist : es.Pairwise fun a b => (Value.slice a.A a.n a.c).ownBlock ≠ (Value.slice b.A b.n b.c).ownBlock

theorem own_ne {w : World} {b b' : Nat} {e e' : TypeId} {s s' n n' : Nat} {v v' : Value} {xs xs' : List Value} (h : w.ownsRow b e s v n xs) (h' : w.ownsRow b' e' s' v' n' xs') (hne : e ≠ e') : v.ownBlock = none ∨ v.ownBlock ≠ v'.ownBlock := by
  rcases h.2 with ⟨rfl, _⟩ | ⟨g, cap, cur, rfl, _, hh, _⟩
  · exact .inl rfl
  · refine .inr fun he => ?_
    rcases h'.2 with ⟨rfl, _⟩ | ⟨g', cap', cur', rfl, _, hh', _⟩
    · simp [Value.ownBlock] at he
    · simp only [Value.ownBlock, Option.some.injEq] at he
      subst he
      rw [hh] at hh'
      injection hh' with hh'
      injection hh' with _ ht
      exact hne ht

theorem copied_step {wr w2 w3 : World} {B k : Nat} {A' A2 A3 : Option Addr} {c' c2 c3 ne : Nat} {es : List El} {kd bl nd : Int} {cse : List ByteArray} (X Y : Obj) (hB : B ≤ wr.heap.size)
    (hcop : Copied wr B (.slice A' k c') k es)
    (hap : Appended ((wr.alloc X).alloc (.cells #[] 9)).drew w2 B 9 1 (.slice (some ⟨wr.heap.size + 1, 0, none⟩) 0 0) A2 ne c2 (cse.map .string))
    (hap3 : Appended (w2.alloc Y) w3 B 44 4 (.slice A' k c') A3 (k + 1) c3 (es.flatMap El.fcells ++ [.slice A2 ne c2, .int .i64 kd, .int .i64 bl, .int .i64 nd])) :
    Copied w3 B (.slice A3 (k + 1) c3) (k + 1) (es ++ [⟨kd, bl, nd, A2, ne, c2, cse⟩]) ∧ (∀ w : World, B ≤ w.heap.size → Below B w wr → Below B w w3) := by
  have far : ∀ {v : Value} {e : TypeId} {s n : Nat} {xs : List Value}, wr.ownsRow B e s v n xs → v.ownBlock = none ∨ v.ownBlock ≠ some (wr.heap.size + 1) := by
    intro v e s n xs h
    by_cases hq : v.ownBlock = none
    · exact .inl hq
    · refine .inr fun e => ?_
      have := (h.lt _ e).2
      omega
  have toW2 : ∀ {v : Value} {e : TypeId} {s n : Nat} {xs : List Value}, wr.ownsRow B e s v n xs → (w2.alloc Y).ownsRow B e s v n xs := fun h => ((((h.alloc X).alloc _).drew).kept hap.grown (far h)).alloc Y
  have hrow := toW2 hcop.row
  have hne : (9 : TypeId) ≠ 44 := by decide
  refine ⟨⟨?_, by simp [hcop.len], ?_, ?_⟩, ?_⟩
  · have := hap3.own
    simpa [List.flatMap_append, El.fcells] using this
  · intro e he
    rcases List.mem_append.1 he with he | he
    · have h1 := toW2 (hcop.com e he)
      exact h1.kept hap3.grown (own_ne h1 hrow hne)
    · obtain rfl : e = ⟨kd, bl, nd, A2, ne, c2, cse⟩ := by simpa using he
      have h1 := hap.own.alloc Y
      exact h1.kept hap3.grown (own_ne h1 hrow hne)
  · rw [List.pairwise_append]
    refine ⟨hcop.dist, by simp, fun a ha b hb => ?_⟩
    obtain rfl : b = ⟨kd, bl, nd, A2, ne, c2, cse⟩ := by simpa using hb
    intro he
    have hl := hap.lies
    have hsz : (((wr.alloc X).alloc (.cells #[] 9)).drew).heap.size = wr.heap.size + 2 := by simp
    rw [hsz] at hl
    have ho := (hcop.com a ha).lt
    rw [he] at ho
    rcases hl with hl | hl
    · have := (ho (wr.heap.size + 1) hl).2; omega
    · have := (ho (wr.heap.size + 2) hl).2; omega
  · intro w hw hb
    have h1 : Below B w ((wr.alloc X).alloc (.cells #[] 9)).drew := ((hb.alloc hB X).alloc (by simp; omega) _).drew
    have h2 : Below B w w2 := h1.grown hap.grown (by simp; omega) (fun g hg => by have hg' : wr.heap.size + 1 = g := Option.some.inj hg; omega)
    have hs2 : B ≤ w2.heap.size := Nat.le_trans (by simp; omega) hap.grown.size
    exact (h2.alloc hs2 Y).grown hap3.grown (by simp; omega) (fun g hg => (hcop.row.lt g hg).1)

theorem infoF : (Tryd.prog.info? 44).map (fun i => (i.zero, i.size, i.bytes)) = some (some (.agg #[.slice none 0 0, .int .i64 0, .int .i64 0, .int .i64 0]), 4, 48) := by kernel_rfl
theorem infoS : (Tryd.prog.info? 9).map (fun i => (i.zero, i.size, i.bytes)) = some (some (.string ⟨#[]⟩), 1, 16) := by kernel_rfl

set_option maxRecDepth 100000 in
set_option maxHeartbeats 1600000 in
theorem fodder_any (A : Option Addr) (n c : Nat) (els : List El) (w : World) (h : ElsAt w w.heap.size A n els) (hg : ∀ e ∈ els, e.Good) (hn : n ≤ 200) :
    Calls Tryd.prog 11 #[.slice A n c] w fun r w' => ∃ A' c' es, r = .returned (.tuple #[.slice A' n c', .bool true]) ∧ es.map El.data = els.map El.data ∧ Copied w' w.heap.size (.slice A' n c') n es ∧ Below w.heap.size w w' := by
  obtain ⟨iF, hiF, hzF0, hzF1, hzF2⟩ := info_parts infoF
  obtain ⟨iS, hiS, hzS0, hzS1, hzS2⟩ := info_parts infoS
  go_enter Tryd.func11, Tryd.ntmps11
  go_wp2_with fail
  go_loopw [4, 9] (fun v i wr => ∃ (k : Nat) (A' : Option Addr) (c' : Nat) (es : List El), k ≤ n ∧ i = .int .i64 k ∧ v = .slice A' k c' ∧ es.map El.data = (els.take k).map El.data ∧ Copied wr w.heap.size (.slice A' k c') k es ∧ Below w.heap.size w wr) (fun _ i _ => n - (intOf i).toNat)
  case atStart => exact ⟨0, none, 0, [], Nat.zero_le _, rfl, rfl, rfl, ⟨World.ownsRow_nil _ _ _ _, rfl, by simp, by simp⟩, Below.refl _ _⟩
  case round =>
    obtain ⟨k, A', c', es, hk, rfl, rfl, hdata, hcop, hb⟩ := hrel
    have HD := Lib.hid hdata
    clear hdata
    by_cases hlt : k < n
    · obtain ⟨ad, e, rfl, hadb, hek, hok, hc0, hc1, hc2, hc3⟩ := (h.below hb).cellsAt hlt
      have hge := hg e (List.mem_of_getElem? hek)
      have HE := Lib.hid hek
      have HG := Lib.hid hge
      have hkk : 0 ≤ e.kind := by unfold El.Good at hge; omega
      have hk2 : e.kind ≤ 2 := by unfold El.Good at hge; omega
      have hsz := hb.size
      clear h hg hek hge
      obtain ⟨kd, bl, nd, Ae, ne, ce, cse⟩ := e
      simp only at hc0 hc1 hc2 hc3 hkk hk2
      have hne : ne ≤ 20 := by have := HG.out; unfold El.Good at this; exact this.2.2.2.2.1
      have hrd := hok.com
      have hrow := hcop.row
      have hlt' := hrow.lt
      have hA'ne : (Value.slice A' k c').ownBlock = none ∨ (Value.slice A' k c').ownBlock ≠ some (wr.heap.size + 1) := by
        by_cases hq : (Value.slice A' k c').ownBlock = none
        · exact .inl hq
        · refine .inr fun e => ?_
          have := (hlt' _ e).2
          omega
      have hA'ne3 : some wr.heap.size ≠ (Value.slice A' k c').ownBlock := fun e => by
        have := (hlt' _ e.symm).2
        omega
      have hB3 : ∀ X Y : Obj, wr.heap.size + 2 ≤ ((wr.alloc X).alloc Y).drew.heap.size := fun X Y => by simp
      have HN := Lib.hid hA'ne
      have HN3 := Lib.hid hA'ne3
      have HB3 := Lib.hid hB3
      clear hA'ne3 hB3
      have HL := Lib.hid hlt'
      have HC := Lib.hid hcop
      have ho : ∀ X : Obj, ((wr.alloc X).alloc (.cells #[] 9)).drew.ownsRow w.heap.size 9 1 (.slice (some ⟨wr.heap.size + 1, 0, none⟩) 0 0) 0 [] := fun X => by
        have := (World.ownsRow_made (base := w.heap.size) (e := 9) (size := 1) (wr.alloc X) #[] 0 (by simp; omega) (by simp [maxLen]) rfl).drew
        simpa using this
      have hrd2 : ∀ X Y : Obj, Reads ((wr.alloc X).alloc Y).drew w.heap.size 1 Ae ne (cse.map .string) := fun X Y => ((hrd.alloc hsz X).alloc (by simp; omega) Y).drew
      have hB2 : ∀ X Y : Obj, w.heap.size ≤ ((wr.alloc X).alloc Y).drew.heap.size := fun X Y => by simp; omega
      have hrow2 : ∀ X Y : Obj, ((wr.alloc X).alloc Y).drew.ownsRow w.heap.size 44 4 (.slice A' k c') k (es.flatMap El.fcells) := fun X Y => ((hrow.alloc X).alloc Y).drew
      have HO := Lib.hid ho
      have HR := Lib.hid hrd2
      have HB2 := Lib.hid hB2
      have HW := Lib.hid hrow2
      clear hA'ne hlt' hcop ho hrd2 hB2 hrow2
      go_wp2_with fail
      go_region_held3 (fun w' => w'.cell? ⟨wr.heap.size, 0, none⟩ = some (.int .i64 kd) ∧ w'.cell? ⟨wr.heap.size, 1, none⟩ = some (.int .i64 bl) ∧ w'.cell? ⟨wr.heap.size, 2, none⟩ = some (.int .i64 nd) ∧ w'.cell? ⟨wr.heap.size, 3, none⟩ = some (.slice Ae ne ce))
        (first
          | go_keep
          | (go_split_ands
             refine ⟨?_, ?_, ?_, ?_⟩
             all_goals (rw [hap.grown.cell_far _ (by simp; omega) (by simp [Value.ownBlock])]; assumption))
          | (go_split_ands
             refine ⟨?_, ?_, ?_, ?_⟩
             all_goals (rw [hap3.grown.cell_far _ (by simp; omega) HN3.out]; assumption)))
        ((first
          | (refine step_append_any _ (by rfl) (.tmp 28) (.tmp 30) 24 (by rfl) w.heap.size 9 iS (.string ⟨#[]⟩) 1 16 Tryd.underlying24 hiS hzS0 hzS1 hzS2 rfl (Nat.lt_add_one 0) (.slice (some ⟨wr.heap.size + 1, 0, none⟩) 0 0) 0 [] (by rfl) ?_ w.heap.size Ae ne ce (cse.map .string) (by rfl) ?_ (strings_oneCell _) ?_ ?_ ?_ ne ?_ (cse.map .string) ?_ ?_
             · exact HO.out _
             · exact HR.out _ _
             · unfold maxLen; omega
             · omega
             · exact HB2.out _ _
             · omega
             · rfl
             intro A2 c2 w2 hap
             have hsz2 : w.heap.size ≤ w2.heap.size := Nat.le_trans (HB2.out _ _) hap.grown.size
             have hsz3 : wr.heap.size + 2 ≤ w2.heap.size := Nat.le_trans (HB3.out _ _) hap.grown.size)
          | (refine step_append_any _ (by rfl) (.tmp 21) (.tmp 33) 35 (by rfl) w.heap.size 44 iF (.agg #[.slice none 0 0, .int .i64 0, .int .i64 0, .int .i64 0]) 4 48 Tryd.underlying35 hiF hzF0 hzF1 hzF2 rfl (Nat.lt_add_left 3 (Nat.lt_add_one 0)) (.slice A' k c') k (es.flatMap El.fcells) (by rfl) ?_ (w2.heap.size + 1) (some ⟨w2.heap.size, 0, none⟩) 1 1 [.slice A2 ne c2, .int .i64 kd, .int .i64 bl, .int .i64 nd] (by rfl) ?_ ?_ ?_ ?_ ?_ (k + 1) ?_ (es.flatMap El.fcells ++ [.slice A2 ne c2, .int .i64 kd, .int .i64 bl, .int .i64 nd]) ?_ ?_
             · (exact ((HW.out _ _).kept hap.grown HN.out).alloc _)
             · (exact Reads.of_block (heap_alloc_new w2 _) rfl)
             · (simp [Value.oneCell'])
             · (unfold maxLen; omega)
             · (omega)
             · (simp; omega)
             · (omega)
             · (rfl)
             intro A3 c3 w3 hap3)))
      obtain ⟨hcop', hb'⟩ := copied_step _ _ hsz HC.out hap hap3
      have hb3 := hb' w (Nat.le_refl _) hb
      clear hap hap3 hok hrd hrow
      go_wp2_with fail
      go_roundw
      case rel =>
        refine ⟨k + 1, A3, c3, _, by omega, by go_num, rfl, ?_, hcop', hb3⟩
        have hl : k < els.length := (List.getElem?_eq_some_iff.1 HE.out).1
        rw [List.take_succ_eq_append_getElem hl, List.map_append, List.map_append, HD.out]
        congr 1
        have := (List.getElem?_eq_some_iff.1 HE.out).2
        rw [this]
        rfl
      case measure => simp [intOf]; omega
    · have hlen := h.2.1
      obtain rfl : k = n := by omega
      have HL := Lib.hid hlen
      clear hlen h hg
      go_wp2_with fail
      go_ret2
      exact ⟨A', c', es, rfl, by rw [HD.out, List.take_of_length_le (by have := HL.out; omega)], hcop, hb⟩

/-- What elements count together. -/
def linesOf (es : List El) : Int := (es.map El.lines).sum
theorem lines_bd (e : El) (h : e.Good) : 0 ≤ e.lines ∧ e.lines ≤ 1020 := by
  unfold El.Good at h
  unfold El.lines
  obtain ⟨h1, h2, _, _, h5, _, _⟩ := h
  split
  · omega
  · split <;> omega

/-- Element i's four cells, of a row of the call's own. -/
theorem Copied.cellsAt {w : World} {B : Nat} {A : Option Addr} {n c : Nat} {es : List El} (h : Copied w B (.slice A n c) n es) {i : Nat} (hi : i < n) :
    ∃ ad e, A = some ad ∧ es[i]? = some e ∧ w.cell? (ad.add (i * 4)) = some (.slice e.A e.n e.c) ∧ w.cell? ⟨(ad.add (i * 4)).block, (ad.add (i * 4)).off + 1, none⟩ = some (.int .i64 e.kind) ∧
      w.cell? ⟨(ad.add (i * 4)).block, (ad.add (i * 4)).off + 2, none⟩ = some (.int .i64 e.blanks) ∧ w.cell? ⟨(ad.add (i * 4)).block, (ad.add (i * 4)).off + 3, none⟩ = some (.int .i64 e.indent) := by
  obtain ⟨ad, hA, _, hc⟩ := (Reads.of_own h.row).2 (by omega)
  have hi' : i < es.length := by rw [h.len]; exact hi
  have hat := fcells_at es i
  have hs : ∀ j, 0 < j → (⟨(ad.add (i * 4)).block, (ad.add (i * 4)).off + j, none⟩ : Addr) = ad.add (i * 4 + j) := fun j hj => by
    rw [← add_of_add]
    conv => rhs; unfold Addr.add
    rw [if_neg (by omega)]
    rfl
  refine ⟨ad, es[i], hA, List.getElem?_eq_getElem hi', hc _ _ ?_, ?_, ?_, ?_⟩
  · have := hat 0 hi' (by omega); simpa [El.fcells] using this
  · rw [hs 1 (by omega)]; refine hc _ _ ?_; have := hat 1 hi' (by omega); simpa [El.fcells] using this
  · rw [hs 2 (by omega)]; refine hc _ _ ?_; have := hat 2 hi' (by omega); simpa [El.fcells] using this
  · rw [hs 3 (by omega)]; refine hc _ _ ?_; have := hat 3 hi' (by omega); simpa [El.fcells] using this
/-- What the call has laid is kept below which nothing has turned. -/
theorem Copied.below {w w' : World} {B n : Nat} {v : Value} {es : List El} (h : Copied w B v n es) (hb : Below w.heap.size w w') : Copied w' B v n es := by
  have g : w.grownBy w' none := ⟨hb.os, hb.tape, hb.output, hb.size, fun i hi _ => hb.block i hi⟩
  have k : ∀ {v : Value}, v.ownBlock = none ∨ v.ownBlock ≠ none := fun {v} => by cases v.ownBlock <;> simp
  exact ⟨h.row.kept g k, h.len, fun e he => (h.com e he).kept g k, h.dist⟩

theorem linesOf_take (es : List El) (k : Nat) (e : El) (h : es[k]? = some e) : linesOf (es.take (k + 1)) = linesOf (es.take k) + e.lines := by
  obtain ⟨hl, he⟩ := List.getElem?_eq_some_iff.1 h
  rw [List.take_succ_eq_append_getElem hl, he]
  simp [linesOf]
theorem linesOf_bd (es : List El) (hg : ∀ e ∈ es, e.Good) : 0 ≤ linesOf es ∧ linesOf es ≤ 1020 * es.length := by
  induction es with
  | nil => simp [linesOf]
  | cons e es ih =>
    have h1 := ih fun x hx => hg x (List.mem_cons_of_mem _ hx)
    have h2 := lines_bd e (hg e (List.mem_cons_self ..))
    simp only [linesOf, List.map_cons, List.sum_cons, List.length_cons] at h1 ⊢
    omega
theorem linesOf_congr {es els : List El} (h : es.map El.data = els.map El.data) (hes : ∀ e ∈ es, e.cs.length = e.n) (hels : ∀ e ∈ els, e.cs.length = e.n) : linesOf es = linesOf els := by
  have key : ∀ (l : List El), (∀ e ∈ l, e.cs.length = e.n) → linesOf l = ((l.map El.data).map fun d => if d.1 = 1 then (0 : Int) else if d.1 = 0 then 1 else d.2.2.2.length + d.2.1).sum := by
    intro l hl
    unfold linesOf
    rw [List.map_map]
    congr 1
    refine List.map_congr_left fun e he => ?_
    simp [El.lines, El.data, hl e he]
  rw [key es hes, key els hels, h]

set_option maxRecDepth 100000 in
theorem count_any (A : Option Addr) (n c : Nat) (es : List El) (w : World) (B : Nat) (h : Copied w B (.slice A n c) n es) (hg : ∀ e ∈ es, e.Good) (hn : n ≤ 200) :
    Calls Tryd.prog 14 #[.slice A n c] w fun r w' => r = .returned (.int .i64 (linesOf es)) ∧ Below w.heap.size w w' := by
  go_enter Tryd.func14, Tryd.ntmps14
  go_wp2_with fail
  go_loopw [3, 8] (fun t i wr => ∃ k : Nat, k ≤ n ∧ i = .int .i64 k ∧ t = .int .i64 (linesOf (es.take k)) ∧ Below w.heap.size w wr) (fun _ i _ => n - (intOf i).toNat)
  case atStart => exact ⟨0, Nat.zero_le _, rfl, rfl, Below.refl _ _⟩
  case round =>
    obtain ⟨k, hk, rfl, rfl, hb⟩ := hrel
    have hlen := h.len
    by_cases hlt : k < n
    · obtain ⟨ad, e, rfl, hek, hc0, hc1, hc2, hc3⟩ := (h.below hb).cellsAt hlt
      have hge := hg e (List.mem_of_getElem? hek)
      have hst := linesOf_take es k e hek
      have hb1 := linesOf_bd (es.take k) (fun x hx => hg x (List.mem_of_mem_take hx))
      have hb2 := lines_bd e hge
      have hlt2 : (es.take k).length ≤ k := List.length_take_le _ _
      have HS := Lib.hid hst
      have HG := Lib.hid hge
      have hsz := hb.size
      clear h hg hst hek hge hlen
      have hk3 : e.kind = 0 ∨ e.kind = 1 ∨ e.kind = 2 := by have := HG.out; unfold El.Good at this; omega
      have hb0 : 0 ≤ e.blanks ∧ e.blanks ≤ 1000 ∧ e.n ≤ 1000 := by have := HG.out; unfold El.Good at this; omega
      go_wp2_with fail
      refine (countEl_any e _ hk3 hb0.1 hb0.2.1 hb0.2.2).mono ?_
      rintro r w1 ⟨rfl, hbw⟩
      have hb' : Below w.heap.size w w1 := (hb.alloc hsz _).trans (hbw.mono (by simp; omega))
      clear hk3
      go_wp2_with fail
      go_roundw
      case rel => exact ⟨k + 1, by omega, by go_num, by rw [HS.out], hb'⟩
      case measure => simp [intOf]; omega
    · obtain rfl : k = n := by omega
      have HL := Lib.hid hlen
      clear hlen h hg
      go_wp2_with fail
      go_ret
      exact ⟨by rw [List.take_of_length_le (by have := HL.out; omega)]; rfl, hb⟩

theorem Copied.lens {w : World} {B n : Nat} {v : Value} {es : List El} (h : Copied w B v n es) : ∀ e ∈ es, e.cs.length = e.n := fun e he => by
  have := (h.com e he).1
  simpa using this
theorem good_congr {es els : List El} (h : es.map El.data = els.map El.data) (hes : ∀ e ∈ es, e.cs.length = e.n) (hels : ∀ e ∈ els, e.cs.length = e.n) (hg : ∀ e ∈ els, e.Good) : ∀ e ∈ es, e.Good := by
  intro e he
  obtain ⟨i, hi, hie⟩ := List.getElem_of_mem he
  have hl : es.length = els.length := by simpa using congrArg List.length h
  have hd : (els[i]'(by omega)).data = e.data := by
    have := congrArg (fun l => l[i]?) h
    simp [hi, hl ▸ hi] at this
    rw [← hie, ← this]
  have hm := List.getElem_mem (l := els) (show i < els.length by omega)
  have h1 := hg _ hm
  have h2 := hels _ hm
  have h3 := hes e he
  simp only [El.data, Prod.mk.injEq] at hd
  unfold El.Good at h1 ⊢
  obtain ⟨d1, d2, d3, d4⟩ := hd
  rw [d1, d2, d3, d4] at h1
  rw [d4] at h2
  rw [← h2, h3] at h1
  exact h1

theorem lines_any (A : Option Addr) (n c : Nat) (els : List El) (w : World) (h : ElsAt w w.heap.size A n els) (hg : ∀ e ∈ els, e.Good) (hn : n ≤ 200) :
    Calls Tryd.prog 7 #[.slice A n c] w fun r w' => r = .returned (.tuple #[.int .i64 (linesOf els), .bool true]) ∧ Below w.heap.size w w' := by
  go_enter Tryd.func7, Tryd.ntmps7
  go_wp2_with fail
  refine (fodder_any A n c els _ h hg hn).mono ?_
  rintro r w1 ⟨A', c', es, rfl, hd, hcop, hb⟩
  have hels : ∀ e ∈ els, e.cs.length = e.n := fun e he => (h.2.2 e he).len
  have hsum := linesOf_congr hd hcop.lens hels
  have hges := good_congr hd hcop.lens hels hg
  have HS := Lib.hid hsum
  clear hsum hd h hg hels
  go_wp2_with fail
  refine (count_any A' n c' es _ _ hcop hges hn).mono ?_
  rintro r w2 ⟨rfl, hb2⟩
  have hb' := hb.trans (hb2.mono hb.size)
  go_wp2_with fail
  go_ret2
  exact ⟨by rw [HS.out]; rfl, hb'⟩
end Go.Proofs.YteiholpabgeajaaDoor
