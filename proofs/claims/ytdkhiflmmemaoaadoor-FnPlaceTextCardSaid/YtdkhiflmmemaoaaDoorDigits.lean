/- Plain: the decimal numeral tells its number; two numerals with a sign between them tell both. No program. -/
import Derived.Lib.ItoaMem
import Derived.Lib.ItoaLen
namespace Go.Proofs.YtdkhiflmmemaoaaDoor
open Go.Lib

/-- A byte of a numeral is a digit; the numeral's value. -/
theorem digits_mem : ∀ (u : Nat) (b : UInt8), b ∈ decDigits u → b ≠ 58 := by
  intro u
  induction u using Nat.strongRecOn with
  | _ u ih =>
    intro b hb
    have hd : ∀ d : Nat, d < 10 → UInt8.ofNat (48 + d) ≠ 58 := by
      intro d hd e
      have := congrArg UInt8.toNat e
      simp at this
      omega
    rw [decDigits] at hb
    split at hb
    · rename_i h
      obtain rfl := List.mem_singleton.1 hb
      exact hd u h
    · rename_i h
      rcases List.mem_append.1 hb with hb | hb
      · exact ih (u / 10) (by omega) b hb
      · obtain rfl := List.mem_singleton.1 hb
        exact hd (u % 10) (by omega)
def numVal (l : List UInt8) : Nat := l.foldl (fun a b => a * 10 + (b.toNat - 48)) 0
theorem numVal_digits : ∀ u : Nat, numVal (decDigits u) = u := by
  intro u
  induction u using Nat.strongRecOn with
  | _ u ih =>
    have hd : ∀ d : Nat, d < 10 → (UInt8.ofNat (48 + d)).toNat = 48 + d := by
      intro d hd
      simp
      omega
    rw [decDigits]
    split
    · rename_i h
      show 0 * 10 + ((UInt8.ofNat (48 + u)).toNat - 48) = u
      rw [hd u h]
      omega
    · rename_i h
      unfold numVal at ih ⊢
      rw [List.foldl_append, ih (u / 10) (by omega)]
      show u / 10 * 10 + ((UInt8.ofNat (48 + u % 10)).toNat - 48) = u
      rw [hd _ (by omega)]
      omega
theorem digits_inj {u v : Nat} (h : decDigits u = decDigits v) : u = v := by
  rw [← numVal_digits u, h, numVal_digits]

theorem split_at {x : UInt8} : ∀ {a b c d : List UInt8}, (∀ y ∈ a, y ≠ x) → (∀ y ∈ c, y ≠ x) → a ++ x :: b = c ++ x :: d → a = c ∧ b = d
  | [], b, [], d, _, _, h => by simpa using h
  | [], b, y :: c, d, _, hc, h => by
    simp at h
    exact absurd h.1.symm (hc y (by simp))
  | y :: a, b, [], d, ha, _, h => by
    simp at h
    exact absurd h.1 (ha y (by simp))
  | y :: a, b, z :: c, d, ha, hc, h => by
    simp at h
    have := split_at (x := x) (fun q hq => ha q (by simp [hq])) (fun q hq => hc q (by simp [hq])) h.2
    exact ⟨by rw [h.1, this.1], this.2⟩

/-- Line and column, a colon between them. -/
def placeL (l c : Nat) : List UInt8 := decDigits l ++ 58 :: decDigits c
theorem placeL_inj {l c l' c' : Nat} (h : placeL l c = placeL l' c') : l = l' ∧ c = c' := by
  obtain ⟨h1, h2⟩ := split_at (digits_mem l) (digits_mem l') h
  exact ⟨digits_inj h1, digits_inj h2⟩
def placeS (l c : Nat) : ByteArray := ⟨(placeL l c).toArray⟩
theorem placeS_inj {l c l' c' : Nat} (h : placeS l c = placeS l' c') : l = l' ∧ c = c' := by
  unfold placeS at h
  injection h with h
  exact placeL_inj (by simpa using h)
end Go.Proofs.YtdkhiflmmemaoaaDoor
