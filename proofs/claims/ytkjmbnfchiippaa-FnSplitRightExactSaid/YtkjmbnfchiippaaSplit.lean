/- Plain: where a list stands in another; the parts of a list from the right on, between so many separators at most; the same of code points and of their bytes. No program. -/
import Derived.Test.YtkjmbnfchiippaaUtfRunes
import Derived.Lib.LastIndexLaws
namespace Go.Proofs.Ytkjmbnfchiippaa
open Go.RowKit

/-- c stands in l at place k. -/
def Occ {α : Type} (l c : List α) (k : Nat) : Prop := (l.drop k).take c.length = c
/-- No beginning of c is its end. -/
def NB {α : Type} (c : List α) : Prop := ∀ n, 1 ≤ n → n < c.length → c.drop (c.length - n) ≠ c.take n
def IsLast {α : Type} (l c : List α) (k : Nat) : Prop := Occ l c k ∧ ∀ j, k < j → ¬ Occ l c j
open Classical in
/-- At how many places below k. -/
noncomputable def nocc {α : Type} (l c : List α) : Nat → Nat
  | 0 => 0
  | k + 1 => nocc l c k + if Occ l c k then 1 else 0
/-- The parts of l from the right on, with m separators c at most. -/
inductive SR {α : Type} (c : List α) : Nat → List α → List (List α) → Prop
  | zero (l : List α) : SR c 0 l [l]
  | none (m : Nat) (l : List α) (h : ∀ k, ¬ Occ l c k) : SR c m l [l]
  | step (m : Nat) (l : List α) (k : Nat) (r : List (List α)) (h : IsLast l c k) (hr : SR c m (l.take k) r) : SR c (m + 1) l (r ++ [l.drop (k + c.length)])

section
variable {α : Type} {l c : List α} {k j : Nat}
theorem Occ.le (h : Occ l c k) (hc : c ≠ []) : k + c.length ≤ l.length := by
  have h1 := congrArg List.length h
  rw [List.length_take, List.length_drop] at h1
  have : 0 < c.length := List.length_pos_iff.2 hc
  omega
theorem Occ.apart (hn : NB c) (h : Occ l c k) (h2 : Occ l c j) (hkj : k < j) : k + c.length ≤ j := by
  refine Decidable.by_contra fun hlt => hn (k + c.length - j) (by omega) (by omega) ?_
  have e1 : c.drop (c.length - (k + c.length - j)) = (l.drop j).take (k + c.length - j) := by
    have e : ((l.drop k).take c.length).drop (j - k) = (l.drop j).take (k + c.length - j) := by
      rw [List.drop_take, List.drop_drop]
      congr 1
      · omega
      · congr 1
        omega
    rw [show (l.drop k).take c.length = c from h] at e
    rw [← e]
    congr 1
    omega
  have e2 : c.take (k + c.length - j) = (l.drop j).take (k + c.length - j) := by
    have e : ((l.drop j).take c.length).take (k + c.length - j) = (l.drop j).take (k + c.length - j) := by
      rw [List.take_take]
      congr 1
      omega
    rwa [show (l.drop j).take c.length = c from h2] at e
  rw [e1, e2]
theorem Occ.of_take {n : Nat} (hc : c ≠ []) (h : Occ (l.take n) c k) : Occ l c k ∧ k + c.length ≤ n := by
  have hl := h.le hc
  rw [List.length_take] at hl
  have hn : k + c.length ≤ n := by omega
  refine ⟨?_, hn⟩
  unfold Occ at h ⊢
  rw [List.drop_take, List.take_take] at h
  rwa [Nat.min_eq_left (by omega)] at h
theorem Occ.take {n : Nat} (h : Occ l c k) (hn : k + c.length ≤ n) : Occ (l.take n) c k := by
  unfold Occ at h ⊢
  rw [List.drop_take, List.take_take, Nat.min_eq_left (by omega), h]

theorem nocc_hit (h : Occ l c k) : nocc l c (k + 1) = nocc l c k + 1 := by unfold nocc; rw [if_pos h]; cases k <;> rfl
theorem nocc_miss (h : ¬ Occ l c k) : nocc l c (k + 1) = nocc l c k := by unfold nocc; rw [if_neg h]; cases k <;> rfl
theorem nocc_quiet {a : Nat} : ∀ b, a ≤ b → (∀ j, a ≤ j → j < b → ¬ Occ l c j) → nocc l c b = nocc l c a
  | 0, h, _ => by obtain rfl : a = 0 := by omega
                  rfl
  | b + 1, h, hq => by
    by_cases he : a = b + 1
    · rw [he]
    · rw [nocc_miss (hq b (by omega) (by omega))]
      exact nocc_quiet b (by omega) fun j h1 h2 => hq j h1 (by omega)
theorem nocc_jump (hn : NB c) (hc : c ≠ []) (h : Occ l c k) : nocc l c (k + c.length) = nocc l c k + 1 := by
  have : 0 < c.length := List.length_pos_iff.2 hc
  rw [nocc_quiet (a := k + 1) (k + c.length) (by omega) (fun j h1 h2 h3 => by have := h.apart hn h3 (by omega); omega), nocc_hit h]
/-- In all. -/
noncomputable def occs {α : Type} (l c : List α) : Nat := nocc l c l.length
theorem nocc_end (hc : c ≠ []) (hk : k ≤ l.length) (h : l.length < k + c.length) : nocc l c k = occs l c := by
  refine (nocc_quiet _ hk fun j h1 h2 h3 => ?_).symm
  have := h3.le hc
  omega
theorem occs_last (hn : NB c) (hc : c ≠ []) (h : IsLast l c k) : occs l c = occs (l.take k) c + 1 := by
  have hle := h.1.le hc
  have h0 : 0 < c.length := List.length_pos_iff.2 hc
  unfold occs
  rw [nocc_quiet (a := k + 1) l.length (by omega) (fun j h1 h2 => h.2 j (by omega)), nocc_hit h.1, List.length_take, Nat.min_eq_left (by omega)]
  congr 1
  have : ∀ n, n ≤ k → nocc l c n = nocc (l.take k) c n := by
    intro n
    induction n with
    | zero => intro _; rfl
    | succ n ih =>
      intro hk
      by_cases ho : Occ l c n
      · rw [nocc_hit ho, nocc_hit (ho.take (ho.apart hn h.1 (by omega))), ih (by omega)]
      · rw [nocc_miss ho, nocc_miss (fun h => ho (h.of_take hc).1), ih (by omega)]
  exact this k (Nat.le_refl k)
theorem occs_zero (hc : c ≠ []) (h : occs l c = 0) : ¬ Occ l c k := by
  have : ∀ n, nocc l c n = 0 → ∀ j, j < n → ¬ Occ l c j := by
    intro n
    induction n with
    | zero => intro _ j hj; omega
    | succ n ih =>
      intro h0 j hj
      by_cases ho : Occ l c n
      · rw [nocc_hit ho] at h0; omega
      · rw [nocc_miss ho] at h0
        by_cases hjn : j = n
        · rw [hjn]; exact ho
        · exact ih h0 j (by omega)
  intro ho
  exact this _ h k (by have := ho.le hc; have := List.length_pos_iff.2 hc; omega) ho
theorem SR.more (hn : NB c) (hc : c ≠ []) {n : Nat} {r : List (List α)} (h : SR c n l r) : n = occs l c → ∀ m, n ≤ m → SR c m l r := by
  induction h with
  | zero l => intro h m _; exact .none m l fun k => occs_zero hc h.symm
  | none n l h => intro _ m _; exact .none m l h
  | step n l k r h hr ih =>
    intro he m hm
    have := occs_last hn hc h
    obtain ⟨m', rfl⟩ : ∃ m', m = m' + 1 := ⟨m - 1, by omega⟩
    exact .step m' l k r h (ih (by omega) m' (by omega))
theorem SR.uniq {n : Nat} {r : List (List α)} (h : SR c n l r) : ∀ r', SR c n l r' → r = r' := by
  induction h with
  | zero l => intro r' h'; cases h' <;> rfl
  | none n l h =>
    intro r' h'
    cases h' with
    | zero => rfl
    | none => rfl
    | step m l k r h2 hr => exact absurd h2.1 (h k)
  | step n l k r h hr ih =>
    intro r' h'
    cases h' with
    | none _ _ h2 => exact absurd h.1 (h2 k)
    | step m _ k2 r2 h2 hr2 =>
      obtain rfl : k = k2 := by
        rcases Nat.lt_trichotomy k k2 with hl | hl | hl
        · exact absurd h2.1 (h.2 _ hl)
        · exact hl
        · exact absurd h.1 (h2.2 _ hl)
      rw [ih r2 hr2]
end
/-- Code points written out. -/
def enc (r : Int) : List UInt8 := (Utf8.encode r).data.toList
theorem enc_def (r : Int) : enc r = (Utf8.encode r).data.toList := rfl
def encL (l : List Int) : List UInt8 := l.flatMap enc
theorem encL_app (a b : List Int) : encL (a ++ b) = encL a ++ encL b := List.flatMap_append
theorem encL_cons (a : Int) (b : List Int) : encL (a :: b) = enc a ++ encL b := by unfold encL; rw [List.flatMap_cons]
def AllV (l : List Int) : Prop := ∀ r ∈ l, Utf8.valid r = true
theorem valid_good {r : Int} (h : Utf8.valid r = true) : ∃ n : Nat, r = n ∧ GoodRune n := by
  unfold Utf8.valid at h
  simp only [Bool.or_eq_true, Bool.and_eq_true, decide_eq_true_eq] at h
  refine ⟨r.toNat, by omega, ?_⟩
  unfold GoodRune
  omega
theorem enc_eq {r : Int} (h : Utf8.valid r = true) : enc r = Lib.encodeRune r := by
  obtain ⟨n, rfl, hg⟩ := valid_good h
  rw [enc_def]
  exact encode_eq n hg
theorem enc_dec {r : Int} (h : Utf8.valid r = true) (x : List UInt8) : Lib.decodeL (enc r ++ x) = (r.toNat, (enc r).length) := by
  obtain ⟨n, rfl, hg⟩ := valid_good h
  rw [enc_eq h]
  exact decode_encode n hg x
def Cont (b : UInt8) : Prop := 128 ≤ b.toNat ∧ b.toNat < 192
theorem enc_form {r : Int} (h : Utf8.valid r = true) : ∃ b t, enc r = b :: t ∧ ¬ Cont b ∧ ∀ x ∈ t, Cont x := by
  obtain ⟨n, rfl, hg⟩ := valid_good h
  have hc : n < 128 ∨ (128 ≤ n ∧ n < 2048) ∨ (2048 ≤ n ∧ n < 65536) ∨ (65536 ≤ n ∧ n ≤ 1114111) := by
    unfold GoodRune at hg
    omega
  clear hg
  rw [enc_def]
  unfold Cont
  rcases hc with hc | hc | hc | hc
  · rw [enc1 n h hc]
    exact ⟨_, _, rfl, by rw [toNat_u8 _ (by omega)]; omega, by simp⟩
  · rw [enc2 n h hc.1 hc.2]
    refine ⟨_, _, rfl, by rw [toNat_u8 _ (by omega)]; omega, fun x hx => ?_⟩
    simp only [List.mem_cons, List.not_mem_nil, or_false] at hx
    subst hx
    rw [toNat_u8 _ (by omega)]; omega
  · rw [enc3 n h hc.1 hc.2]
    refine ⟨_, _, rfl, by rw [toNat_u8 _ (by omega)]; omega, fun x hx => ?_⟩
    simp only [List.mem_cons, List.not_mem_nil, or_false] at hx
    rcases hx with rfl | rfl <;> (rw [toNat_u8 _ (by omega)]; omega)
  · rw [enc4 n h hc.1]
    refine ⟨_, _, rfl, by rw [toNat_u8 _ (by omega)]; omega, fun x hx => ?_⟩
    simp only [List.mem_cons, List.not_mem_nil, or_false] at hx
    rcases hx with rfl | rfl | rfl <;> (rw [toNat_u8 _ (by omega)]; omega)
theorem enc_pos {r : Int} (h : Utf8.valid r = true) : 0 < (enc r).length := by
  obtain ⟨b, t, e, _⟩ := enc_form h
  rw [e]; simp
theorem enc_inj {r q : Int} {x y : List UInt8} (hr : Utf8.valid r = true) (hq : Utf8.valid q = true) (h : enc r ++ x = enc q ++ y) : r = q ∧ x = y := by
  have e1 := enc_dec hr x
  rw [h, enc_dec hq y] at e1
  injection e1 with e1 e2
  obtain ⟨n, rfl, _⟩ := valid_good hr
  obtain ⟨m, rfl, _⟩ := valid_good hq
  have hnm : n = m := by omega
  subst hnm
  exact ⟨rfl, List.append_cancel_left h⟩
theorem encL_prefix : ∀ {u l : List Int} {x : List UInt8}, AllV u → AllV l → encL u ++ x = encL l → ∃ v, l = u ++ v ∧ x = encL v
  | [], l, x, _, _, h => ⟨l, rfl, by simpa [encL] using h⟩
  | a :: u, [], x, hu, _, h => by
    have := congrArg List.length h
    have hp := enc_pos (hu a (List.mem_cons_self ..))
    rw [encL_cons] at this
    simp [encL] at this
    have h0 : (enc a).length = 0 := by rw [this.1]; rfl
    omega
  | a :: u, b :: l, x, hu, hl, h => by
    rw [encL_cons, encL_cons, List.append_assoc] at h
    obtain ⟨rfl, h2⟩ := enc_inj (hu a (List.mem_cons_self ..)) (hl b (List.mem_cons_self ..)) h
    obtain ⟨v, rfl, hv⟩ := encL_prefix (fun r hr => hu r (List.mem_cons_of_mem _ hr)) (fun r hr => hl r (List.mem_cons_of_mem _ hr)) h2
    exact ⟨v, rfl, hv⟩
/-- A place whose byte leads is a code point's place. -/
theorem encL_place : ∀ {l : List Int} {p : Nat} {b : UInt8}, AllV l → (encL l)[p]? = some b → ¬ Cont b → ∃ k, k < l.length ∧ p = (encL (l.take k)).length
  | [], p, b, _, h, _ => by simp [encL] at h
  | a :: l, p, b, hl, h, hb => by
    obtain ⟨b0, t, e, _, ht⟩ := enc_form (hl a (List.mem_cons_self ..))
    rw [encL_cons] at h
    by_cases hp : p < (enc a).length
    · rw [List.getElem?_append_left hp, e] at h
      cases p with
      | zero => exact ⟨0, by simp, by simp [encL]⟩
      | succ p => exact absurd (ht b (List.mem_of_getElem? (by simpa using h))) hb
    · rw [List.getElem?_append_right (by omega)] at h
      obtain ⟨k, hk, he⟩ := encL_place (fun r hr => hl r (List.mem_cons_of_mem _ hr)) h hb
      exact ⟨k + 1, by simp; omega, by rw [List.take_succ_cons, encL_cons, List.length_append]; omega⟩
theorem AllV.take {l : List Int} (h : AllV l) (k : Nat) : AllV (l.take k) := fun r hr => h r (List.mem_of_mem_take hr)
theorem AllV.drop {l : List Int} (h : AllV l) (k : Nat) : AllV (l.drop k) := fun r hr => h r (List.mem_of_mem_drop hr)
theorem encL_split (l : List Int) (k : Nat) : encL l = encL (l.take k) ++ encL (l.drop k) := by rw [← encL_app, List.take_append_drop]
theorem encL_drop (l : List Int) (k : Nat) : (encL l).drop (encL (l.take k)).length = encL (l.drop k) := by rw [encL_split l k, List.drop_left]
theorem encL_take (l : List Int) (k : Nat) : (encL l).take (encL (l.take k)).length = encL (l.take k) := by rw [encL_split l k, List.take_left]
theorem encL_mono (l : List Int) {j k : Nat} (h : j ≤ k) : (encL (l.take j)).length ≤ (encL (l.take k)).length := by
  have : l.take j = (l.take k).take j := by rw [List.take_take, Nat.min_eq_left h]
  rw [this, encL_split (l.take k) j, List.length_append]
  omega
theorem encL_ne {u : List Int} (hv : AllV u) (h : u ≠ []) : ∃ b t, encL u = b :: t ∧ ¬ Cont b := by
  cases u with
  | nil => exact absurd rfl h
  | cons a u =>
    obtain ⟨b, t, e, hb, _⟩ := enc_form (hv a (List.mem_cons_self ..))
    exact ⟨b, t ++ encL u, by rw [encL_cons, e]; rfl, hb⟩

section
variable {l u : List Int} {k : Nat}
theorem occ_enc (h : Occ l u k) : Occ (encL l) (encL u) (encL (l.take k)).length := by
  unfold Occ at h ⊢
  rw [encL_drop, encL_split (l.drop k) u.length, h, List.take_left]
theorem enc_occ {p : Nat} (hl : AllV l) (hu : AllV u) (hne : u ≠ []) (h : Occ (encL l) (encL u) p) : ∃ k, p = (encL (l.take k)).length ∧ Occ l u k := by
  obtain ⟨b, t, e, hb⟩ := encL_ne hu hne
  have hp : (encL l)[p]? = some b := by
    have h2 : ((encL l).drop p).take (encL u).length = encL u := h
    have h3 := congrArg (fun x : List UInt8 => x[0]?) h2
    simp only [List.getElem?_take, List.getElem?_drop] at h3
    rw [e] at h3
    simpa using h3
  obtain ⟨k, hk, rfl⟩ := encL_place hl hp hb
  refine ⟨k, rfl, ?_⟩
  unfold Occ at h ⊢
  rw [encL_drop] at h
  have h4 := List.take_append_drop (encL u).length (encL (l.drop k))
  rw [h] at h4
  obtain ⟨v, hv, _⟩ := encL_prefix hu (hl.drop k) h4
  rw [hv, List.take_left]
theorem isLast_enc (hl : AllV l) (hu : AllV u) (hne : u ≠ []) (h : IsLast l u k) : IsLast (encL l) (encL u) (encL (l.take k)).length := by
  refine ⟨occ_enc h.1, fun j hj ho => ?_⟩
  obtain ⟨k', rfl, ho'⟩ := enc_occ hl hu hne ho
  by_cases hk : k < k'
  · exact h.2 k' hk ho'
  · have := encL_mono l (show k' ≤ k by omega)
    omega
theorem sr_enc (hu : AllV u) (hne : u ≠ []) {m : Nat} {r : List (List Int)} (h : SR u m l r) : AllV l → SR (encL u) m (encL l) (r.map encL) := by
  induction h with
  | zero l => intro _; exact .zero _
  | none m l h =>
    intro hl
    exact .none m _ fun p hp => by
      obtain ⟨k, _, ho⟩ := enc_occ hl hu hne hp
      exact h k ho
  | step m l k r h hr ih =>
    intro hl
    have hs := SR.step m (encL l) _ (r.map encL) (isLast_enc hl hu hne h) (by rw [encL_take]; exact ih (hl.take k))
    rw [List.map_append, List.map_cons, List.map_nil]
    have e : (encL l).drop ((encL (l.take k)).length + (encL u).length) = encL (l.drop (k + u.length)) := by
      rw [← List.drop_drop, encL_drop, ← List.drop_drop]
      have h1 := encL_drop (l.drop k) u.length
      rwa [show (l.drop k).take u.length = u from h.1] at h1
    rwa [e] at hs
theorem nb_enc (hu : AllV u) (h : NB u) : NB (encL u) := by
  intro n h1 h2 he
  have hne : u ≠ [] := by rintro rfl; simp [encL] at h2
  obtain ⟨b, t, e, hb⟩ := encL_ne hu hne
  have hp : (encL u)[(encL u).length - n]? = some b := by
    have h3 := congrArg (fun x : List UInt8 => x[0]?) he
    simp only [List.getElem?_take, List.getElem?_drop, Nat.add_zero] at h3
    rw [if_pos (by omega)] at h3
    rw [h3, e]
    rfl
  obtain ⟨k, hk, hkl⟩ := encL_place hu hp hb
  have hk0 : k ≠ 0 := by
    rintro rfl
    simp [encL] at hkl
    have : (encL u).length - n = 0 := by simpa [encL] using hkl
    omega
  rw [hkl, encL_drop] at he
  have h4 := List.take_append_drop n (encL u)
  rw [← he] at h4
  obtain ⟨v, hv, _⟩ := encL_prefix (hu.drop k) hu h4
  refine h (u.length - k) (by omega) (by omega) ?_
  have hlen : (u.drop k).length = u.length - k := List.length_drop
  have h6 : u.take (u.length - k) = u.drop k := by
    rw [hv, List.length_append, hlen]
    have hz : v.length = k := by
      have := congrArg List.length hv
      rw [List.length_append, hlen] at this
      omega
    rw [hz, show u.length - k + k - k = (u.drop k).length by omega, List.take_left]
    conv => rhs; rw [← hv]
  rw [h6]
  congr 1
  omega
theorem validD_encL : ∀ {l : List Int}, AllV l → Lib.validD (encL l) = true
  | [], _ => rfl
  | a :: l, h => by
    have ha := h a (List.mem_cons_self ..)
    have hp := enc_pos ha
    rw [encL_cons, Lib.validD_step _ (by intro e; have := congrArg List.length e; rw [List.length_append] at this; simp only [List.length_nil] at this; omega), enc_dec ha]
    rw [if_neg ?_, List.drop_left]
    · exact validD_encL fun r hr => h r (List.mem_cons_of_mem _ hr)
    · rintro ⟨h1, h2⟩
      obtain ⟨n, rfl, _⟩ := valid_good ha
      have h3 : n = 65533 := h1
      subst h3
      have := enc3 65533 ha (by omega) (by omega)
      rw [enc_def] at h2
      rw [this] at h2
      cases h2
end

/-! ### strings.LastIndex -/
theorem occAt_iff (s c : List UInt8) (i : Nat) : Lib.occAt s c i = true ↔ Occ s c i := by
  unfold Lib.occAt Occ
  rw [List.isPrefixOf_iff_prefix, List.prefix_iff_eq_take]
  exact ⟨fun h => h.symm, fun h => h.symm⟩
theorem lastIndex_is {s c : List UInt8} {k : Nat} (hc : c ≠ []) (h : IsLast s c k) : Lib.lastIndex s c = k := by
  have hle := h.1.le hc
  unfold Lib.lastIndex
  rw [if_pos (by omega)]
  rcases Lib.lastOcc_spec s c (s.length - c.length + 1) with ⟨_, hn⟩ | ⟨i, _, he, hi, hn⟩
  · have := hn k (by omega)
    rw [(occAt_iff s c k).2 h.1] at this
    cases this
  · rw [he]
    rcases Nat.lt_trichotomy i k with hl | hl | hl
    · have := hn k hl (by omega)
      rw [(occAt_iff s c k).2 h.1] at this
      cases this
    · rw [hl]
    · exact absurd ((occAt_iff s c i).1 hi) (h.2 i hl)
theorem last_some {s c : List UInt8} (hc : c ≠ []) (h : 0 < occs s c) : ∃ k, IsLast s c k ∧ Lib.lastIndex s c = k := by
  have h0 : 0 < c.length := List.length_pos_iff.2 hc
  by_cases hle : c.length ≤ s.length
  · rcases Lib.lastOcc_spec s c (s.length - c.length + 1) with ⟨_, hn⟩ | ⟨i, _, _, hi, hn⟩
    · exfalso
      have : occs s c = 0 := by
        unfold occs
        rw [nocc_quiet (a := 0) s.length (Nat.zero_le _) fun j _ hj ho => ?_]
        · rfl
        · have := hn j (by have := ho.le hc; omega)
          rw [(occAt_iff s c j).2 ho] at this
          cases this
      omega
    · have hl : IsLast s c i := ⟨(occAt_iff s c i).1 hi, fun j hj ho => by
        have := hn j hj (by have := ho.le hc; omega)
        rw [(occAt_iff s c j).2 ho] at this
        cases this⟩
      exact ⟨i, hl, lastIndex_is hc hl⟩
  · exfalso
    have : occs s c = 0 := by
      unfold occs
      rw [nocc_quiet (a := 0) s.length (Nat.zero_le _) fun j _ hj ho => by have := ho.le hc; omega]
      rfl
    omega
end Go.Proofs.Ytkjmbnfchiippaa
