/- What a map of fields holds, key by key: plain functions from keys to numbers; how a map in memory reads as one. -/
import Derived.Test.YtmbaijkbchkjoaaDoorRows
import Derived.Test.YtmbaijkbchkjoaaDoorWords
import Derived.Maps.RangeWalk
import Derived.Maps.OwnSet
import Derived.Maps.OwnOps
import Derived.Maps.Ext
import Derived.Sort.KeysCollected
namespace Go.Proofs.YtmbaijkbchkjoaaDoor
open Go.RowKit Go.Maps Go.Sort

/-- What a map of fields holds: at a name, how the field is seen. -/
abbrev FF := Lit → Option Int
def FF.none : FF := fun _ => Option.none
open Classical in
noncomputable def FF.put (F : FF) (kl : Lit) (v : Int) : FF := fun k => if k = kl then some v else F k
open Classical in
noncomputable def FF.del (F : FF) (kl : Lit) : FF := fun k => if k = kl then Option.none else F k
/-- What stands to the right is laid over what stands to the left: 1 (inherit) only where there is nothing. -/
def FF.over (L R : FF) : FF := fun k => match R k with
  | Option.none => L k
  | some v => if v = 1 then (match L k with | some u => some u | Option.none => some 1) else some v
theorem FF.over_none (L : FF) : L.over FF.none = L := by funext k; rfl
theorem FF.none_over (R : FF) : FF.none.over R = R := by
  funext k
  unfold FF.over FF.none
  cases h : R k with
  | none => rfl
  | some v => by_cases h1 : v = 1 <;> simp [h1]

abbrev DU := DataW Unit
def hideD (v : Int) : DU := .lit (.int .i64 v)
/-- The datum holds just what F says. -/
def RF (D : DU) (F : FF) : Prop := (∀ k, Maps.has D k = (F k).isSome) ∧ ∀ k v z, F k = some v → D.atKey k z = hideD v
theorem RF.empty : RF (.map []) FF.none := ⟨fun _ => rfl, fun _ _ _ h => by cases h⟩
theorem RF.put {D : DU} {F : FF} {kl : Lit} {v : Int} (h : RF D F) (hm : IsMap D) (hk : WideAt.IsKeyLit kl) : RF (D.put kl (hideD v)) (F.put kl v) := by
  refine ⟨fun k => ?_, fun k u z hu => ?_⟩
  · unfold FF.put
    by_cases e : k = kl
    · subst e
      rw [has_put_same hm hk, if_pos rfl]
      rfl
    · rw [has_put_other e, if_neg e]
      exact h.1 k
  · unfold FF.put at hu
    by_cases e : k = kl
    · subst e
      rw [if_pos rfl] at hu
      injection hu with hu
      subst hu
      exact atKey_put_same hm hk _ _
    · rw [if_neg e] at hu
      rw [atKey_put_other e]
      exact h.2 k u z hu
theorem RF.del {D : DU} {F : FF} {kl : Lit} (h : RF D F) : RF (D.del kl) (F.del kl) := by
  refine ⟨fun k => ?_, fun k u z hu => ?_⟩
  · unfold FF.del
    by_cases e : k = kl
    · subst e
      rw [has_del_same, if_pos rfl]
      rfl
    · rw [has_del_other e, if_neg e]
      exact h.1 k
  · unfold FF.del at hu
    by_cases e : k = kl
    · subst e
      rw [if_pos rfl] at hu
      cases hu
    · rw [if_neg e] at hu
      rw [atKey_del_other e]
      exact h.2 k u z hu
theorem RF.one {D D' : DU} {F : FF} (h : RF D F) (h' : RF D' F) (c : Canon D) (c' : Canon D') : D = D' := by
  refine Maps.ext c c' (fun k => by rw [h.1, h'.1]) fun k z hk => ?_
  rw [h.1] at hk
  obtain ⟨v, hv⟩ := Option.isSome_iff_exists.1 hk
  rw [h.2 k v z hv, h'.2 k v z hv]

theorem law9 : Keyed Tryd.prog 9 := string_keyed Tryd.underlying9

/-- A map of names to how they are seen (fieldHideMap). -/
def MapF (w : World) (b n : Nat) (F : FF) : Prop := ∃ D : DU, w.ownsMap Tryd.prog 9 (plainElem Tryd.prog 44) b n D ∧ RF D F
theorem own_below {w w' : World} {P : Program} {k : TypeId} {R : Value → Option (DU × List MemPlace)} {b n : Nat} {D : DU} (h : w.ownsMap P k R b n D) (hb : Below w.heap.size w w') : w'.ownsMap P k R b n D := by
  have hlt := h.lt
  obtain ⟨es, clock, h1, h2⟩ := h
  exact ⟨es, clock, (hb.block b hlt).trans h1, h2⟩
theorem MapF.below {w w' : World} {b n : Nat} {F : FF} (h : MapF w b n F) (hb : Below w.heap.size w w') : MapF w' b n F := by
  obtain ⟨D, h1, h2⟩ := h
  exact ⟨D, own_below h1 hb, h2⟩
theorem MapF.lt {w : World} {b n : Nat} {F : FF} (h : MapF w b n F) : b < w.heap.size := by
  obtain ⟨D, h1, _⟩ := h
  exact h1.lt
theorem MapF.mono {w : World} {b n n' : Nat} {F : FF} (h : MapF w b n F) (hn : n ≤ n') : MapF w b n' F := by
  obtain ⟨D, h1, h2⟩ := h
  exact ⟨D, h1.mono hn, h2⟩

/-- How a field of a flat object reads: how it is seen (no field's code lies here). -/
def fieldElem (v : Value) : Option (DU × List MemPlace) := match v with
  | .agg cs => match cs.toList with
    | [.nilIface, .int .i64 h] => if (Lit.int .i64 h).wf = true then some (hideD h, []) else none
    | _ => none
  | _ => none
theorem fieldElem_mk {h : Int} (hw : (Lit.int .i64 h).wf = true) : fieldElem (.agg #[.nilIface, .int .i64 h]) = some (hideD h, []) := by simp [fieldElem, hw]
theorem fieldElem_inv {v : Value} {z : DU × List MemPlace} (h : fieldElem v = some z) : ∃ c : Int, v = .agg #[.nilIface, .int .i64 c] ∧ z = (hideD c, []) ∧ (Lit.int .i64 c).wf = true := by
  unfold fieldElem at h
  split at h
  · rename_i cs
    split at h
    · rename_i c heq
      split at h
      · rename_i hw
        injection h with h
        refine ⟨c, ?_, h.symm, hw⟩
        congr 1
        apply Array.ext'
        exact heq
      · cases h
    · cases h
  · cases h
def MapS (w : World) (b n : Nat) (F : FF) : Prop := ∃ D : DU, w.ownsMap Tryd.prog 9 fieldElem b n D ∧ RF D F
theorem MapS.below {w w' : World} {b n : Nat} {F : FF} (h : MapS w b n F) (hb : Below w.heap.size w w') : MapS w' b n F := by
  obtain ⟨D, h1, h2⟩ := h
  exact ⟨D, own_below h1 hb, h2⟩
theorem MapS.lt {w : World} {b n : Nat} {F : FF} (h : MapS w b n F) : b < w.heap.size := by
  obtain ⟨D, h1, _⟩ := h
  exact h1.lt

/-- In the round of a range over a map that reads as R0: what stands to the left, and of what stands to the right what has come. -/
def Part (L R : FF) (left : Lit → Bool) : FF := fun k => if left k = true then L k else L.over R k
theorem Part.start {L R : FF} {D : DU} (h : RF D R) : Part L R (Maps.has D) = L := by
  funext k
  unfold Part
  by_cases hk : Maps.has D k = true
  · rw [if_pos hk]
  · rw [if_neg hk]
    rw [h.1] at hk
    unfold FF.over
    cases hr : R k with
    | none => rfl
    | some v => rw [hr] at hk; simp at hk
theorem Part.stop {L R : FF} {left : Lit → Bool} (h : ∀ k, left k = false) : Part L R left = L.over R := by
  funext k
  unfold Part
  rw [if_neg (by rw [h]; simp)]
theorem sameKey_ne' {k kl : Lit} (h : k ≠ kl) : k.sameKey kl = false := sameKey_ne h
open Classical in
theorem Part.strike {L R : FF} {left : Lit → Bool} {kl : Lit} (hk : WideAt.IsKeyLit kl) : Part L R (fun z => left z && !z.sameKey kl) = fun k => if k = kl then L.over R kl else Part L R left k := by
  funext k
  unfold Part
  by_cases e : k = kl
  · subst e
    simp [WideAt.sameKey_self hk]
  · simp [e, sameKey_ne e]
end Go.Proofs.YtmbaijkbchkjoaaDoor
