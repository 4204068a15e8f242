/- Plain: the code points of a string as the model's '[]rune(s)' lays them; the order of lists of integers. No program. -/
import Derived.Test.YtkjmbnfchiippaaWords
import Derived.Laws.IdiomStrings
namespace Go.Proofs.Ytkjmbnfchiippaa

/-- The code points from a place on. -/
def runesL (s : ByteArray) : Nat → Nat → List Int
  | 0, _ => []
  | bound + 1, i => if i < s.size then ((Utf8.decode s i).1 : Int) :: runesL s bound (i + (Utf8.decode s i).2) else []
theorem runesFrom_eq (s : ByteArray) : ∀ (bound i : Nat) (acc : Array Value), Conv.runesFrom s bound i acc = acc ++ ((runesL s bound i).map (Value.int .i32)).toArray
  | 0, _, acc => by simp [Conv.runesFrom, runesL]
  | bound + 1, i, acc => by
    unfold Conv.runesFrom runesL
    split
    · generalize Utf8.decode s i = d
      obtain ⟨r, width⟩ := d
      show Conv.runesFrom s bound (i + width) (acc.push (.int .i32 (Int.ofNat r))) = acc ++ ((((r : Int)) :: runesL s bound (i + width)).map (Value.int .i32)).toArray
      rw [runesFrom_eq s bound]
      apply Array.ext'
      simp
    · simp
theorem runesL_length (s : ByteArray) : ∀ bound i : Nat, (runesL s bound i).length ≤ bound
  | 0, _ => by simp [runesL]
  | bound + 1, i => by
    unfold runesL
    split
    · have := runesL_length s bound (i + (Utf8.decode s i).2)
      simp
      omega
    · simp
def runesOf (s : ByteArray) : List Int := runesL s s.size 0
theorem runesOf_length (s : ByteArray) : (runesOf s).length ≤ s.size := runesL_length s s.size 0
theorem runes_cells (s : ByteArray) : Conv.runesFrom s s.size 0 #[] = ((runesOf s).map (Value.int .i32)).toArray := by
  rw [runesFrom_eq]
  simp [runesOf]

/-- The order of lists: the first difference decides, else the length. -/
def cmpL : List Int → List Int → Int
  | [], [] => 0
  | [], _ :: _ => -1
  | _ :: _, [] => 1
  | a :: as, b :: bs => if a = b then cmpL as bs else if a < b then -1 else 1

theorem cmpL_vals : ∀ a b : List Int, cmpL a b = -1 ∨ cmpL a b = 0 ∨ cmpL a b = 1
  | [], [] => .inr (.inl rfl)
  | [], _ :: _ => .inl rfl
  | _ :: _, [] => .inr (.inr rfl)
  | a :: as, b :: bs => by
    unfold cmpL
    split
    · exact cmpL_vals as bs
    · split
      · exact .inl rfl
      · exact .inr (.inr rfl)
theorem cmpL_neg : ∀ a b : List Int, cmpL b a = -cmpL a b
  | [], [] => rfl
  | [], _ :: _ => rfl
  | _ :: _, [] => rfl
  | a :: as, b :: bs => by
    unfold cmpL
    by_cases h : a = b
    · rw [if_pos h, if_pos h.symm]; exact cmpL_neg as bs
    · rw [if_neg h, if_neg (fun e => h e.symm)]
      by_cases h2 : a < b
      · rw [if_pos h2, if_neg (by omega)]; rfl
      · rw [if_neg h2, if_pos (by omega)]
theorem cmpL_eq : ∀ a b : List Int, cmpL a b = 0 ↔ a = b
  | [], [] => by simp [cmpL]
  | [], _ :: _ => by simp [cmpL]
  | _ :: _, [] => by simp [cmpL]
  | a :: as, b :: bs => by
    unfold cmpL
    by_cases h : a = b
    · rw [if_pos h, cmpL_eq as bs, h]; simp
    · rw [if_neg h]
      constructor
      · intro e; split at e <;> omega
      · intro e; injection e with e1 _; exact absurd e1 h
theorem cmpL_trans : ∀ a b c : List Int, cmpL a b ≤ 0 → cmpL b c ≤ 0 → cmpL a c ≤ 0
  | [], b, c, _, _ => by cases c <;> simp [cmpL]
  | _ :: _, [], _, h, _ => by simp [cmpL] at h
  | _ :: _, _ :: _, [], _, h => by simp [cmpL] at h
  | a :: as, b :: bs, c :: cs, h1, h2 => by
    unfold cmpL at h1 h2 ⊢
    by_cases hab : a = b
    · subst hab
      by_cases hac : a = c
      · subst hac
        simp only [if_true] at h1 h2 ⊢
        exact cmpL_trans as bs cs h1 h2
      · rw [if_neg hac] at h2 ⊢
        exact h2
    · rw [if_neg hab] at h1
      have hlt : a < b := by
        by_cases h : a < b
        · exact h
        · rw [if_neg h] at h1; omega
      by_cases hbc : b = c
      · subst hbc
        rw [if_neg hab, if_pos hlt]; decide
      · rw [if_neg hbc] at h2
        have hlt2 : b < c := by
          by_cases h : b < c
          · exact h
          · rw [if_neg h] at h2; omega
        rw [if_neg (by omega), if_pos (by omega)]; decide
/-- What the law says of three. -/
theorem cmpL_three (a b c : List Int) (h1 : cmpL a b ≤ 0) (h2 : cmpL b c ≤ 0) : cmpL a c ≤ 0 ∧ (cmpL a c < 0 ∨ cmpL a b = 0 ∧ cmpL b c = 0) := by
  have h3 := cmpL_trans a b c h1 h2
  refine ⟨h3, ?_⟩
  rcases cmpL_vals a c with h | h | h
  · exact .inl (by omega)
  · have e := (cmpL_eq a c).1 h
    subst e
    have := cmpL_neg a b
    exact .inr ⟨by omega, by omega⟩
  · omega

/-- One step: the heads alike; the heads apart; an end. -/
theorem cmpL_drop {a b : List Int} {k : Nat} {x y : Int} (ha : a[k]? = some x) (hb : b[k]? = some y) :
    cmpL (a.drop k) (b.drop k) = if x = y then cmpL (a.drop (k + 1)) (b.drop (k + 1)) else if x < y then -1 else 1 := by
  obtain ⟨h1, h2⟩ := List.getElem?_eq_some_iff.1 ha
  obtain ⟨h3, h4⟩ := List.getElem?_eq_some_iff.1 hb
  rw [List.drop_eq_getElem_cons h1, List.drop_eq_getElem_cons h3, h2, h4]
  rfl
theorem cmpL_end {a b : List Int} {k : Nat} (h : k = a.length ∨ k = b.length) (ha : k ≤ a.length) (hb : k ≤ b.length) :
    cmpL (a.drop k) (b.drop k) = if a.length < b.length then -1 else if b.length < a.length then 1 else 0 := by
  rcases h with h | h
  · rw [List.drop_of_length_le (by omega : a.length ≤ k)]
    by_cases h2 : k < b.length
    · rw [List.drop_eq_getElem_cons h2, if_pos (by omega)]; rfl
    · rw [List.drop_of_length_le (by omega), if_neg (by omega), if_neg (by omega)]; rfl
  · rw [List.drop_of_length_le (l := b) (by omega : b.length ≤ k)]
    by_cases h2 : k < a.length
    · rw [List.drop_eq_getElem_cons h2, if_neg (by omega), if_pos (by omega)]; rfl
    · rw [List.drop_of_length_le (by omega), if_neg (by omega), if_neg (by omega)]; rfl
end Go.Proofs.Ytkjmbnfchiippaa
