/- Plain: how strings are written (in quotes, with escapes), and that two strings of valid UTF-8 that are written alike are the same. No program. -/
import Derived.Test.YtmopaolfimpohaaDoorUtf
namespace Go.Proofs.YtmopaolfimpohaaDoor

def hexd (n : Nat) : UInt8 := if n < 10 then (48 + n).toUInt8 else (87 + n).toUInt8
def hexv (b : UInt8) : Nat := if b.toNat < 58 then b.toNat - 48 else b.toNat - 87
theorem hexv_hexd (n : Nat) (h : n < 16) : hexv (hexd n) = n := by
  unfold hexd hexv
  by_cases h1 : n < 10
  · rw [if_pos h1, toNat_u8 _ (by omega), if_pos (by omega)]; omega
  · rw [if_neg h1, toNat_u8 _ (by omega), if_neg (by omega)]; omega

/-- One rune, as it is written. -/
def esc (r : Nat) : List UInt8 :=
  if r = 34 then [92, 34] else if r = 92 then [92, 92] else if r = 8 then [92, 98] else if r = 12 then [92, 102] else if r = 10 then [92, 110] else if r = 13 then [92, 114] else if r = 9 then [92, 116]
  else if r = 0 then [92, 117, 48, 48, 48, 48] else if r < 32 ∨ (127 ≤ r ∧ r ≤ 159) then [92, 117, 48, 48, hexd (r / 16), hexd (r % 16)] else Lib.encodeRune (r : Int)

theorem encodeRune_len (r : Int) : 1 ≤ (Lib.encodeRune r).length ∧ (Lib.encodeRune r).length ≤ 4 := by
  have h := Lib.runeCells_le r
  rwa [Lib.runeCells_length] at h
theorem esc_len (r : Nat) : 1 ≤ (esc r).length ∧ (esc r).length ≤ 6 := by
  have := encodeRune_len (r : Int)
  unfold esc
  repeat' split
  all_goals first | (simp; done) | omega

/-- The rune that stands first. -/
def unescT (l : List UInt8) : List UInt8 → Nat
  | [] => (Lib.decodeL l).1
  | 34 :: _ => 34
  | 92 :: _ => 92
  | 98 :: _ => 8
  | 102 :: _ => 12
  | 110 :: _ => 10
  | 114 :: _ => 13
  | 116 :: _ => 9
  | _ :: t => hexv (t.getD 2 0) * 16 + hexv (t.getD 3 0)
def unesc (l : List UInt8) : Nat :=
  match l with
  | [] => 0
  | b :: t => if b = 92 then unescT [] t else (Lib.decodeL (b :: t)).1

theorem unesc_esc (r : Nat) (h : GoodRune r) (x : List UInt8) : unesc (esc r ++ x) = r := by
  unfold esc
  by_cases h1 : r = 34
  · rw [if_pos h1, h1]; rfl
  rw [if_neg h1]
  by_cases h2 : r = 92
  · rw [if_pos h2, h2]; rfl
  rw [if_neg h2]
  by_cases h3 : r = 8
  · rw [if_pos h3, h3]; rfl
  rw [if_neg h3]
  by_cases h4 : r = 12
  · rw [if_pos h4, h4]; rfl
  rw [if_neg h4]
  by_cases h5 : r = 10
  · rw [if_pos h5, h5]; rfl
  rw [if_neg h5]
  by_cases h6 : r = 13
  · rw [if_pos h6, h6]; rfl
  rw [if_neg h6]
  by_cases h7 : r = 9
  · rw [if_pos h7, h7]; rfl
  rw [if_neg h7]
  by_cases h8 : r = 0
  · rw [if_pos h8, h8]; rfl
  rw [if_neg h8]
  by_cases h9 : r < 32 ∨ (127 ≤ r ∧ r ≤ 159)
  · rw [if_pos h9]
    show hexv (hexd (r / 16)) * 16 + hexv (hexd (r % 16)) = r
    rw [hexv_hexd _ (by omega), hexv_hexd _ (by omega)]
    omega
  · rw [if_neg h9]
    have hd := decode_encode r h x
    obtain ⟨b, t, he, hlo, hhi⟩ := encode_head r h
    rw [he] at hd ⊢
    show (if b = 92 then unescT [] (t ++ x) else (Lib.decodeL (b :: (t ++ x))).1) = r
    have hb : b ≠ 92 := by
      intro e
      have e2 : b.toNat = 92 := by rw [e]; rfl
      by_cases hr : r < 128
      · have := hlo hr; omega
      · have := hhi (by omega); omega
    rw [if_neg hb]
    rw [List.cons_append] at hd
    rw [hd]

/-- A string's runes, each as it is written. -/
def body : Nat → List UInt8 → List UInt8
  | 0, _ => []
  | n + 1, l => if l = [] then [] else esc (Lib.decodeL l).1 ++ body n (l.drop (Lib.decodeL l).2)
theorem body_nil (n : Nat) : body n [] = [] := by cases n <;> simp [body]
theorem body_step {n : Nat} {l : List UInt8} (h : l ≠ []) : body (n + 1) l = esc (Lib.decodeL l).1 ++ body n (l.drop (Lib.decodeL l).2) := by rw [body, if_neg h]
theorem body_len : ∀ (n : Nat) (l : List UInt8), (body n l).length ≤ 6 * n
  | 0, _ => by simp [body]
  | n + 1, l => by
    unfold body
    split
    · simp
    · have h1 := (esc_len (Lib.decodeL l).1).2
      have h2 := body_len n (l.drop (Lib.decodeL l).2)
      rw [List.length_append]
      omega

theorem valid_parts {l : List UInt8} (h : l ≠ []) (hv : Lib.validD l = true) : l = Lib.encodeRune ((Lib.decodeL l).1 : Int) ++ l.drop (Lib.decodeL l).2 ∧ Lib.validD (l.drop (Lib.decodeL l).2) = true := by
  rw [Lib.validD_step l h] at hv
  split at hv
  · cases hv
  · rename_i hb
    exact ⟨by rw [Lib.encode_decode l h hb, List.take_append_drop], hv⟩

theorem body_inj : ∀ (n m : Nat) (l k : List UInt8), l.length ≤ n → k.length ≤ m → Lib.validD l = true → Lib.validD k = true → body n l = body m k → l = k := by
  intro n
  induction n with
  | zero =>
    intro m l k hl hk _ _ he
    obtain rfl : l = [] := List.eq_nil_of_length_eq_zero (by omega)
    by_cases h : k = []
    · exact h.symm
    · cases m with
      | zero => exact (List.eq_nil_of_length_eq_zero (by omega)).symm
      | succ m =>
        rw [body_nil, body_step h] at he
        have h1 := (esc_len (Lib.decodeL k).1).1
        have h2 := congrArg List.length he
        rw [List.length_append] at h2
        simp at h2
        omega
  | succ n ih =>
    intro m l k hl hk hv1 hv2 he
    by_cases h : l = []
    · subst h
      by_cases h' : k = []
      · exact h'.symm
      · cases m with
        | zero => exact (List.eq_nil_of_length_eq_zero (by omega)).symm
        | succ m =>
          rw [body_nil, body_step h'] at he
          have h1 := (esc_len (Lib.decodeL k).1).1
          have h2 := congrArg List.length he
          rw [List.length_append] at h2
          simp at h2
          omega
    · by_cases h' : k = []
      · subst h'
        rw [body_nil, body_step h] at he
        have h1 := (esc_len (Lib.decodeL l).1).1
        have h2 := congrArg List.length he
        rw [List.length_append, List.length_nil] at h2
        omega
      · cases m with
        | zero => exact absurd (List.eq_nil_of_length_eq_zero (by omega)) h'
        | succ m =>
          rw [body_step h, body_step h'] at he
          have hr := congrArg unesc he
          rw [unesc_esc _ (decode_good l), unesc_esc _ (decode_good k)] at hr
          rw [hr] at he
          have hb := List.append_cancel_left he
          obtain ⟨e1, v1⟩ := valid_parts h hv1
          obtain ⟨e2, v2⟩ := valid_parts h' hv2
          have w1 := Lib.decodeL_width l
          have w2 := Lib.decodeL_width k
          have hd := ih m _ _ (by rw [List.length_drop]; omega) (by rw [List.length_drop]; omega) v1 v2 hb
          rw [e1, e2, hr, hd]

def textL (l : List UInt8) : List UInt8 := 34 :: (body l.length l ++ [34])
theorem textL_inj {l k : List UInt8} (h1 : Lib.validD l = true) (h2 : Lib.validD k = true) (h : textL l = textL k) : l = k := by
  unfold textL at h
  injection h with _ h
  exact body_inj _ _ l k (Nat.le_refl _) (Nat.le_refl _) h1 h2 (List.append_cancel_right h)
theorem textL_len (l : List UInt8) : 2 ≤ (textL l).length ∧ (textL l).length ≤ 6 * l.length + 2 := by
  have := body_len l.length l
  simp [textL]
  omega
end Go.Proofs.YtmopaolfimpohaaDoor
