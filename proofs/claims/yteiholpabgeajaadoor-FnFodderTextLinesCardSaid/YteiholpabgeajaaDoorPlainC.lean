/- Contracts of spec.Feeds, laws.follows, laws.fodder: each tells just what it says. (The steps between the marks are printed by genplain.py.) -/
import Derived.Test.YteiholpabgeajaaDoorElem
import Derived.Deep.RegionHeld3
import Derived.IntWalk
namespace Go.Proofs.YteiholpabgeajaaDoor
open Go.RowKit

/-! ### Feeds -/
def feedsL (l : List UInt8) : Nat := l.countP (· == 10)
def feeds (s : ByteArray) : Nat := feedsL s.data.toList
theorem feedsL_le (l : List UInt8) : feedsL l ≤ l.length := List.countP_le_length
theorem take_snoc8 (s : ByteArray) (k : Nat) (h : k < s.size) : s.data.toList.take (k + 1) = s.data.toList.take k ++ [s[k]] := by
  rw [List.take_succ_eq_append_getElem (by simpa using h)]; rfl
theorem feedsL_snoc (l : List UInt8) (c : UInt8) : feedsL (l ++ [c]) = feedsL l + if c.toNat = 10 then 1 else 0 := by
  unfold feedsL
  rw [List.countP_append]
  have : (c == 10) = decide (c.toNat = 10) := by
    rw [Bool.eq_iff_iff, beq_iff_eq, decide_eq_true_eq, ← UInt8.toNat_inj]
    rfl
  simp [List.countP_cons, this]

theorem feeds_any (s : ByteArray) (w : World) (hs : s.size ≤ maxLen) :
    Calls Tryd.prog 8 #[.string s] w fun e w' => e = .returned (.int .i64 (feeds s : Nat)) ∧ w = w' := by
  unfold maxLen at hs
  go_enter Tryd.func8, Tryd.ntmps8
  go_wp2
  go_loop [3, 4] (fun n i => ∃ k : Nat, k ≤ s.size ∧ i = .int .i64 k ∧ n = .int .i64 (feedsL (s.data.toList.take k) : Nat)) (fun _ i => s.size - (intOf i).toNat)
  case atStart => exact ⟨0, Nat.zero_le _, rfl, rfl⟩
  case round =>
    obtain ⟨k, hk, rfl, rfl⟩ := hrel
    have hd := feedsL_le (s.data.toList.take k)
    have hl : (s.data.toList.take k).length ≤ k := List.length_take_le _ _
    by_cases hlt : k < s.size
    · have hsn := feedsL_snoc (s.data.toList.take k) s[k]
      rw [← take_snoc8 s k hlt] at hsn
      obtain ⟨c, hc⟩ : ∃ c, s[k] = c := ⟨_, rfl⟩
      rw [hc] at hsn
      have HS := Lib.hid hsn
      clear hsn
      obtain ⟨u, hu⟩ : ∃ u : Nat, feedsL (s.data.toList.take k) = u := ⟨_, rfl⟩
      rw [hu] at hd HS ⊢
      have HU := Lib.hid hu
      clear hu
      have hsel : (c.toNat ≤ 10 ∧ 10 ≤ c.toNat) ∨ ¬ c.toNat = 10 := by omega
      rcases hsel with ⟨h1, h2⟩ | h1
      · go_wp2
        go_round
        case rel => exact ⟨k + 1, by omega, by go_num, by rw [HS.out, if_pos (by omega)]; go_num⟩
        case measure => simp [intOf]; omega
      · have h1' : ¬ (c.toNat : Int) = 10 := by omega
        go_wp2
        go_round
        case rel => exact ⟨k + 1, by omega, by go_num, by rw [HS.out, if_neg h1]; go_num⟩
        case measure => simp [intOf]; omega
    · go_wp2
      go_ret
      exact ⟨by rw [List.take_of_length_le (by simp; omega)]; rfl, rfl⟩

/-! ### follows -/
/-- b may follow a. -/
def FollowsP (a b : El) : Prop := (b.kind = 0 → a.kind = 1) ∧ (b.kind = 2 → a.kind ≠ 1)

set_option maxHeartbeats 800000 in
theorem follows_any (ak ab ai bk bb bi : Int) (aA bA : Option Addr) (an ac bn bc : Nat) (w : World) (v : Bool) (hv : v = true ↔ (bk = 0 → ak = 1) ∧ (bk = 2 → ak ≠ 1)) :
    Calls Tryd.prog 17 #[.agg #[.int .i64 ak, .int .i64 ab, .int .i64 ai, .slice aA an ac], .agg #[.int .i64 bk, .int .i64 bb, .int .i64 bi, .slice bA bn bc]] w fun r w' => r = .returned (.bool v) ∧ Below w.heap.size w w' := by
  have HV := Lib.hid hv
  clear hv
  have hb : bk < 0 ∨ (0 ≤ bk ∧ bk ≤ 0) ∨ (1 ≤ bk ∧ bk ≤ 1) ∨ (2 ≤ bk ∧ bk ≤ 2) ∨ 2 < bk := by omega
  have ha : ak < 1 ∨ (1 ≤ ak ∧ ak ≤ 1) ∨ 1 < ak := by omega
  have fin : ∀ (u : Bool) (W : World), Below w.heap.size w W → (u = true ↔ (bk = 0 → ak = 1) ∧ (bk = 2 → ak ≠ 1)) → (Ending.returned (.bool u) = .returned (.bool v) ∧ Below w.heap.size w W) := fun u W hW hu => by
    have : u = v := by rw [Bool.eq_iff_iff]; exact hu.trans HV.out.symm
    exact ⟨by rw [this], hW⟩
  have F := Lib.hid fin
  clear fin
  rcases hb with hb | ⟨hb, hb'⟩ | ⟨hb, hb'⟩ | ⟨hb, hb'⟩ | hb
  all_goals rcases ha with ha | ⟨ha, ha'⟩ | ha
  all_goals
    go_enter Tryd.func17, Tryd.ntmps17
    go_wp2
    go_ret
    exact F.out _ _ (((Below.refl _ _).alloc (Nat.le_refl _) _).alloc (by simp) _) (by simp; try omega)

/-! ### fodder -/
def Fod (els : List El) : Prop := els.length ≤ 100 ∧ (∀ e ∈ els, e.Good) ∧ ∀ (i : Nat) a b, els[i]? = some a → els[i + 1]? = some b → FollowsP a b

theorem element_yes (e : El) (w : World) (B : Nat) (h : e.OK w B) (hB : B ≤ w.heap.size) (hg : e.Good) :
    Calls Tryd.prog 16 #[.agg #[.int .i64 e.kind, .int .i64 e.blanks, .int .i64 e.indent, .slice e.A e.n e.c]] w fun r w' => r = .returned (.bool true) ∧ Below w.heap.size w w' :=
  (element_any e w B h hB).mono fun _ _ ⟨b, he, hb, hw⟩ => ⟨by rw [he, hb.2 hg], hw⟩
theorem element_no (e : El) (w : World) (B : Nat) (h : e.OK w B) (hB : B ≤ w.heap.size) (hg : ¬ e.Good) :
    Calls Tryd.prog 16 #[.agg #[.int .i64 e.kind, .int .i64 e.blanks, .int .i64 e.indent, .slice e.A e.n e.c]] w fun r w' => r = .returned (.bool false) ∧ Below w.heap.size w w' :=
  (element_any e w B h hB).mono fun _ _ ⟨b, he, hb, hw⟩ => ⟨by rw [he, show b = false by cases b; rfl; exact absurd (hb.1 rfl) hg], hw⟩

/-- What holds of the first k elements. -/
def FodTo (els : List El) (k : Nat) : Prop := (∀ (j : Nat) e, j < k → els[j]? = some e → e.Good) ∧ ∀ (j : Nat) a b, j + 1 < k → els[j]? = some a → els[j + 1]? = some b → FollowsP a b
theorem FodTo.step {els : List El} {k : Nat} {e : El} (h : FodTo els k) (he : els[k]? = some e) (hg : e.Good) (hf : ∀ (j : Nat) a, k = j + 1 → els[j]? = some a → FollowsP a e) : FodTo els (k + 1) := by
  refine ⟨fun j x hj hx => ?_, fun j a b hj ha hb => ?_⟩
  · by_cases hjk : j < k
    · exact h.1 j x hjk hx
    · obtain rfl : j = k := by omega
      rw [he] at hx; cases hx; exact hg
  · by_cases hjk : j + 1 < k
    · exact h.2 j a b hjk ha hb
    · obtain rfl : k = j + 1 := by omega
      rw [he] at hb; cases hb; exact hf j a rfl ha
theorem FodTo.all {els : List El} {n : Nat} (h : FodTo els n) (hl : els.length = n) (hn : n ≤ 100) : Fod els := by
  refine ⟨by omega, fun e he => ?_, fun i a b ha hb => ?_⟩
  · obtain ⟨j, hj⟩ := List.getElem?_of_mem he
    exact h.1 j e (by have := (List.getElem?_eq_some_iff.1 hj).1; omega) hj
  · exact h.2 i a b (by have := (List.getElem?_eq_some_iff.1 hb).1; omega) ha hb

set_option maxRecDepth 100000 in
set_option maxHeartbeats 1600000 in
theorem lawFodder_any (A : Option Addr) (n c : Nat) (els : List El) (w : World) (h : ElsAt w w.heap.size A n els) :
    Calls Tryd.prog 10 #[.slice A n c] w (Tells (Fod els) w) := by
  have hlen := h.2.1
  by_cases hn : 100 < n
  · have hno : ¬ Fod els := fun hf => by have := hf.1; omega
    have HN := Lib.hid hno
    clear hno h hlen
    go_enter Tryd.func10, Tryd.ntmps10
    go_wp2
    go_ret
    exact ⟨false, rfl, ⟨fun h => (by cases h), fun h => absurd h HN.out⟩, Below.refl _ _⟩
  have hd : decide ((100 : Int) < (n : Int)) = false := by simp; omega
  have HLEN := Lib.hid hlen
  clear hlen
  go_enter Tryd.func10, Tryd.ntmps10
  go_wp2_with fail
  clear hd
  go_loopw [3] (fun i wr => ∃ k : Nat, k ≤ n ∧ i = .int .i64 k ∧ FodTo els k ∧ Below w.heap.size w wr) (fun i _ => n - (intOf i).toNat)
  case atStart => exact ⟨0, Nat.zero_le _, rfl, ⟨fun j e hj => absurd hj (by omega), fun j a b hj => absurd hj (by omega)⟩, Below.refl _ _⟩
  case round =>
    obtain ⟨k, hk, rfl, hto, hb⟩ := hrel
    have HT := Lib.hid hto
    clear hto
    have hsz := hb.size
    by_cases hlt : k < n
    · obtain ⟨ad, e, rfl, hadb, hek, hok, hc0, hc1, hc2, hc3⟩ := (h.below hb).cellsAt hlt
      have HE := Lib.hid hek
      have HO := Lib.hid hok
      clear hek hok
      by_cases hg : e.Good
      · have HG := Lib.hid hg
        clear hg
        by_cases hk0 : k = 0
        · subst hk0
          have hst := HT.out.step HE.out HG.out (fun j a hj => by omega)
          have HS := Lib.hid hst
          have a0 : ad.add (0 * 4) = ad := by simp [Addr.add]
          rw [a0] at hc0 hc1 hc2 hc3
          clear hst h a0
          go_wp2_with fail
          refine wp_region_held_drew (S := fun w' => w'.cell? ad = some (.int .i64 e.kind) ∧ w'.cell? ⟨ad.block, ad.off + 1, none⟩ = some (.int .i64 e.blanks) ∧ w'.cell? ⟨ad.block, ad.off + 2, none⟩ = some (.int .i64 e.indent) ∧ w'.cell? ⟨ad.block, ad.off + 3, none⟩ = some (.slice e.A e.n e.c) ∧ e.OK w' w.heap.size ∧ w.heap.size ≤ w'.heap.size) (by kernel_rfl) ?_ (fun hHeld => ?_)
          · (try dsimp only)
            exact ⟨hc0, hc1, hc2, hc3, HO.out.keep (fun _ _ => rfl), hsz⟩
          --<printed>
          refine wpAnyH_take (i := 0) (v := ?_) rfl (by kernel_rfl) (by kernel_rfl) (by kernel_rfl) (fun _ _ _ h => h) (Or.inl ⟨by rfl, ?_⟩) (by assumption) ?_
          rotate_left
          · intro w hSw
            (try dsimp only at hSw)
            go_simp
            (try with_reducible rfl)
          (try simp only [Act.put, List.getElem_toArray, List.getElem_cons_zero, List.setIfInBounds_toArray, List.set_cons_zero, List.set_cons_succ])
          refine wpAnyH_take (i := 1) (v := ?_) rfl (by kernel_rfl) (by kernel_rfl) (by kernel_rfl) (fun _ _ _ h => h) (Or.inl ⟨by rfl, ?_⟩) (by assumption) ?_
          rotate_left
          · intro w hSw
            (try dsimp only at hSw)
            go_simp
            (try with_reducible rfl)
          (try simp only [Act.put, List.getElem_toArray, List.getElem_cons_succ, List.getElem_cons_zero, List.setIfInBounds_toArray, List.set_cons_zero, List.set_cons_succ])
          refine wpAnyH_take (i := 2) (v := ?_) rfl (by kernel_rfl) (by kernel_rfl) (by kernel_rfl) (fun _ _ _ h => h) (Or.inl ⟨by rfl, ?_⟩) (by assumption) ?_
          rotate_left
          · intro w hSw
            (try dsimp only at hSw)
            go_simp
            (try with_reducible rfl)
          (try simp only [Act.put, List.getElem_toArray, List.getElem_cons_succ, List.getElem_cons_zero, List.setIfInBounds_toArray, List.set_cons_zero, List.set_cons_succ])
          refine wpAnyH_take (i := 3) (v := ?_) rfl (by kernel_rfl) (by kernel_rfl) (by kernel_rfl) (fun _ _ _ h => h) (Or.inl ⟨by rfl, ?_⟩) (by assumption) ?_
          rotate_left
          · intro w hSw
            (try dsimp only at hSw)
            go_simp
            (try with_reducible rfl)
          (try simp only [Act.put, List.getElem_toArray, List.getElem_cons_succ, List.getElem_cons_zero, List.setIfInBounds_toArray, List.set_cons_zero, List.set_cons_succ])
          refine wpAnyH_ready (rs := [4]) (by kernel_rfl) (by simp) ?_
          refine AllReadyH.cons rfl (fun K hK => ?_) AllReadyH.nil
          go_simp
          refine (element_yes e _ w.heap.size (by go_split_ands; assumption) (by go_split_ands; assumption) HG.out).mono ?_
          rintro _ w1 ⟨rfl, hb1⟩
          go_wp2_with fail
          refine hK.out _ _ ?_ (fun hHeld2 => ?_)
          · (try dsimp only)
            go_split_ands
            refine ⟨keeps hb1 ?_, keeps hb1 ?_, keeps hb1 ?_, keeps hb1 ?_, ?_, ?_⟩ <;> first | assumption | exact El.OK.below (by assumption) (hb1.mono (by assumption)) | exact Nat.le_trans (by assumption) hb1.size
          clear hK K
          (try simp only [Act.put, List.getElem_toArray, List.getElem_cons_succ, List.getElem_cons_zero, List.setIfInBounds_toArray, List.set_cons_zero, List.set_cons_succ])
          refine wpAnyH_take (i := 5) (v := ?_) rfl (by kernel_rfl) (by kernel_rfl) (by kernel_rfl) (fun _ _ _ h => h) (Or.inl ⟨by rfl, ?_⟩) (by assumption) ?_
          rotate_left
          · intro w hSw
            (try dsimp only at hSw)
            go_simp
            (try with_reducible rfl)
          (try simp only [Act.put, List.getElem_toArray, List.getElem_cons_succ, List.getElem_cons_zero, List.setIfInBounds_toArray, List.set_cons_zero, List.set_cons_succ])
          refine wpAnyH_take (i := 6) (v := ?_) rfl (by kernel_rfl) (by kernel_rfl) (by kernel_rfl) (fun _ _ _ h => h) (Or.inl ⟨by rfl, ?_⟩) (by assumption) ?_
          rotate_left
          · intro w hSw
            (try dsimp only at hSw)
            go_simp
            (try with_reducible rfl)
          (try simp only [Act.put, List.getElem_toArray, List.getElem_cons_succ, List.getElem_cons_zero, List.setIfInBounds_toArray, List.set_cons_zero, List.set_cons_succ])
          refine wpAnyH_take (i := 7) (v := ?_) rfl (by kernel_rfl) (by kernel_rfl) (by kernel_rfl) (fun _ _ _ h => h) (Or.inl ⟨by rfl, ?_⟩) (by assumption) ?_
          rotate_left
          · intro w hSw
            (try dsimp only at hSw)
            go_simp
            (try with_reducible rfl)
          (try simp only [Act.put, List.getElem_toArray, List.getElem_cons_succ, List.getElem_cons_zero, List.setIfInBounds_toArray, List.set_cons_zero, List.set_cons_succ])
          refine wpAnyH_take (i := 8) (v := ?_) rfl (by kernel_rfl) (by kernel_rfl) (by kernel_rfl) (fun _ _ _ h => h) (Or.inl ⟨by rfl, ?_⟩) (by assumption) ?_
          rotate_left
          · intro w hSw
            (try dsimp only at hSw)
            go_simp
            (try with_reducible rfl)
          (try simp only [Act.put, List.getElem_toArray, List.getElem_cons_succ, List.getElem_cons_zero, List.setIfInBounds_toArray, List.set_cons_zero, List.set_cons_succ])
          refine wpAnyH_take (i := 9) (v := ?_) rfl (by kernel_rfl) (by kernel_rfl) (by kernel_rfl) (fun _ _ _ h => h) (Or.inl ⟨by rfl, ?_⟩) (by assumption) ?_
          rotate_left
          · intro w hSw
            (try dsimp only at hSw)
            go_simp
            (try with_reducible rfl)
          (try simp only [Act.put, List.getElem_toArray, List.getElem_cons_succ, List.getElem_cons_zero, List.setIfInBounds_toArray, List.set_cons_zero, List.set_cons_succ])
          refine wpAnyH_take (i := 10) (v := undef) rfl (by kernel_rfl) (by kernel_rfl) (by kernel_rfl) (fun _ _ _ h => h) (Or.inr ⟨by rfl, rfl⟩) (by assumption) ?_
          (try simp only [Act.put, List.getElem_toArray, List.getElem_cons_succ, List.getElem_cons_zero, List.setIfInBounds_toArray, List.set_cons_zero, List.set_cons_succ])
          refine wpAnyH_take (i := 11) (v := undef) rfl (by kernel_rfl) (by kernel_rfl) (by kernel_rfl) (fun _ _ _ h => h) (Or.inr ⟨by rfl, rfl⟩) (by assumption) ?_
          (try simp only [Act.put, List.getElem_toArray, List.getElem_cons_succ, List.getElem_cons_zero, List.setIfInBounds_toArray, List.set_cons_zero, List.set_cons_succ])
          refine wpAnyH_take (i := 12) (v := undef) rfl (by kernel_rfl) (by kernel_rfl) (by kernel_rfl) (fun _ _ _ h => h) (Or.inr ⟨by rfl, rfl⟩) (by assumption) ?_
          (try simp only [Act.put, List.getElem_toArray, List.getElem_cons_succ, List.getElem_cons_zero, List.setIfInBounds_toArray, List.set_cons_zero, List.set_cons_succ])
          refine wpAnyH_take (i := 13) (v := undef) rfl (by kernel_rfl) (by kernel_rfl) (by kernel_rfl) (fun _ _ _ h => h) (Or.inr ⟨by rfl, rfl⟩) (by assumption) ?_
          (try simp only [Act.put, List.getElem_toArray, List.getElem_cons_succ, List.getElem_cons_zero, List.setIfInBounds_toArray, List.set_cons_zero, List.set_cons_succ])
          refine wpAnyH_take (i := 14) (v := undef) rfl (by kernel_rfl) (by kernel_rfl) (by kernel_rfl) (fun _ _ _ h => h) (Or.inr ⟨by rfl, rfl⟩) (by assumption) ?_
          (try simp only [Act.put, List.getElem_toArray, List.getElem_cons_succ, List.getElem_cons_zero, List.setIfInBounds_toArray, List.set_cons_zero, List.set_cons_succ])
          refine wpAnyH_take (i := 15) (v := undef) rfl (by kernel_rfl) (by kernel_rfl) (by kernel_rfl) (fun _ _ _ h => h) (Or.inr ⟨by rfl, rfl⟩) (by assumption) ?_
          (try simp only [Act.put, List.getElem_toArray, List.getElem_cons_succ, List.getElem_cons_zero, List.setIfInBounds_toArray, List.set_cons_zero, List.set_cons_succ])
          refine wpAnyH_take (i := 16) (v := undef) rfl (by kernel_rfl) (by kernel_rfl) (by kernel_rfl) (fun _ _ _ h => h) (Or.inr ⟨by rfl, rfl⟩) (by assumption) ?_
          (try simp only [Act.put, List.getElem_toArray, List.getElem_cons_succ, List.getElem_cons_zero, List.setIfInBounds_toArray, List.set_cons_zero, List.set_cons_succ])
          refine wpAnyH_take (i := 17) (v := undef) rfl (by kernel_rfl) (by kernel_rfl) (by kernel_rfl) (fun _ _ _ h => h) (Or.inr ⟨by rfl, rfl⟩) (by assumption) ?_
          (try simp only [Act.put, List.getElem_toArray, List.getElem_cons_succ, List.getElem_cons_zero, List.setIfInBounds_toArray, List.set_cons_zero, List.set_cons_succ])
          refine wpAnyH_take (i := 18) (v := undef) rfl (by kernel_rfl) (by kernel_rfl) (by kernel_rfl) (fun _ _ _ h => h) (Or.inr ⟨by rfl, rfl⟩) (by assumption) ?_
          (try simp only [Act.put, List.getElem_toArray, List.getElem_cons_succ, List.getElem_cons_zero, List.setIfInBounds_toArray, List.set_cons_zero, List.set_cons_succ])
          refine wpAnyH_take (i := 19) (v := undef) rfl (by kernel_rfl) (by kernel_rfl) (by kernel_rfl) (fun _ _ _ h => h) (Or.inr ⟨by rfl, rfl⟩) (by assumption) ?_
          (try simp only [Act.put, List.getElem_toArray, List.getElem_cons_succ, List.getElem_cons_zero, List.setIfInBounds_toArray, List.set_cons_zero, List.set_cons_succ])
          refine wpAnyH_take (i := 20) (v := undef) rfl (by kernel_rfl) (by kernel_rfl) (by kernel_rfl) (fun _ _ _ h => h) (Or.inr ⟨by rfl, rfl⟩) (by assumption) ?_
          (try simp only [Act.put, List.getElem_toArray, List.getElem_cons_succ, List.getElem_cons_zero, List.setIfInBounds_toArray, List.set_cons_zero, List.set_cons_succ])
          refine wpAnyH_take (i := 21) (v := ?_) rfl (by kernel_rfl) (by kernel_rfl) (by kernel_rfl) (fun _ _ _ h => h) (Or.inl ⟨by rfl, ?_⟩) (by assumption) ?_
          rotate_left
          · intro w hSw
            (try dsimp only at hSw)
            go_simp
            (try with_reducible rfl)
          (try simp only [Act.put, List.getElem_toArray, List.getElem_cons_succ, List.getElem_cons_zero, List.setIfInBounds_toArray, List.set_cons_zero, List.set_cons_succ])
          refine wpAnyH_take (i := 22) (v := ?_) rfl (by kernel_rfl) (by kernel_rfl) (by kernel_rfl) (fun _ _ _ h => h) (Or.inl ⟨by rfl, ?_⟩) (by assumption) ?_
          rotate_left
          · intro w hSw
            (try dsimp only at hSw)
            go_simp
            (try with_reducible rfl)
          (try simp only [Act.put, List.getElem_toArray, List.getElem_cons_succ, List.getElem_cons_zero, List.setIfInBounds_toArray, List.set_cons_zero, List.set_cons_succ])
          refine wpAnyH_done (by kernel_rfl) ?_ _
          --</printed>
          go_wp2_with fail
          go_roundw
          case rel => exact ⟨1, by omega, by go_num, HS.out, hb.drew.trans (hb1.mono hsz)⟩
          case measure => simp [intOf]; omega
        · obtain ⟨j, rfl⟩ : ∃ j, k = j + 1 := ⟨k - 1, by omega⟩
          obtain ⟨ad', e', had, _, hek', hok', hd0, hd1, hd2, hd3⟩ := (h.below hb).cellsAt (show j < n by omega)
          obtain rfl := Option.some.inj had
          have HE' := Lib.hid hek'
          have HO' := Lib.hid hok'
          have hjn : j < n := by omega
          have hj0 : 0 ≤ (j : Int) + 1 := by omega
          have hjw : IntKind.i64.wrap (j : Int) = j := IntWalk.i64_in _ ⟨by omega, by omega⟩
          clear hek' hok' h hk0
          obtain ⟨v, hv⟩ : ∃ v : Bool, (v = true ↔ FollowsP e' e) := ⟨@decide (FollowsP e' e) (by unfold FollowsP; infer_instance), by simp⟩
          have HV := Lib.hid hv
          clear hv
          go_wp2_with fail
          go_region_held3 (fun w' => w'.cell? (ad.add ((j + 1) * 4)) = some (.int .i64 e.kind) ∧ w'.cell? ⟨(ad.add ((j + 1) * 4)).block, (ad.add ((j + 1) * 4)).off + 1, none⟩ = some (.int .i64 e.blanks) ∧ w'.cell? ⟨(ad.add ((j + 1) * 4)).block, (ad.add ((j + 1) * 4)).off + 2, none⟩ = some (.int .i64 e.indent) ∧ w'.cell? ⟨(ad.add ((j + 1) * 4)).block, (ad.add ((j + 1) * 4)).off + 3, none⟩ = some (.slice e.A e.n e.c) ∧ w'.cell? (ad.add (j * 4)) = some (.int .i64 e'.kind) ∧ w'.cell? ⟨(ad.add (j * 4)).block, (ad.add (j * 4)).off + 1, none⟩ = some (.int .i64 e'.blanks) ∧ w'.cell? ⟨(ad.add (j * 4)).block, (ad.add (j * 4)).off + 2, none⟩ = some (.int .i64 e'.indent) ∧ w'.cell? ⟨(ad.add (j * 4)).block, (ad.add (j * 4)).off + 3, none⟩ = some (.slice e'.A e'.n e'.c) ∧ e.OK w' w.heap.size ∧ w.heap.size ≤ w'.heap.size) (first | exact ⟨hc0, hc1, hc2, hc3, hd0, hd1, hd2, hd3, HO.out.keep (fun _ _ => rfl), hsz⟩ | (go_split_ands; (refine ⟨keeps hb1 ?_, keeps hb1 ?_, keeps hb1 ?_, keeps hb1 ?_, keeps hb1 ?_, keeps hb1 ?_, keeps hb1 ?_, keeps hb1 ?_, ?_, ?_⟩ <;> first | assumption | exact El.OK.below (by assumption) (hb1.mono (by assumption)) | exact Nat.le_trans (by assumption) hb1.size)))
            ((first | (go_at_call 16; refine (element_yes e _ w.heap.size (by go_split_ands; assumption) (by go_split_ands; assumption) HG.out).mono ?_; rintro _ w1 ⟨rfl, hb1⟩) | (go_at_call 17; refine (follows_any _ _ _ _ _ _ _ _ _ _ _ _ _ v HV.out).mono ?_; rintro _ w1 ⟨rfl, hb1⟩)))
          rename_i wA hbA _
          have hsA : w.heap.size ≤ wA.heap.size := Nat.le_trans hsz hbA.size
          have hbAll := hb.drew.trans ((hbA.mono hsz).trans (hb1.mono hsA))
          have HBL := Lib.hid hbAll
          cases v
          · have hno : ¬ Fod els := fun hf => by
              have := HV.out.2 (hf.2.2 j e' e HE'.out HE.out)
              cases this
            have HN := Lib.hid hno
            clear hno hbA hb1 hbAll hc0 hc1 hc2 hc3 hd0 hd1 hd2 hd3 hjw hj0
            go_wp2_with fail
            go_ret
            exact ⟨false, rfl, ⟨fun h => (by cases h), fun h => absurd h HN.out⟩, HBL.out⟩
          · have hst := HT.out.step HE.out HG.out (fun i a hi ha => by
              obtain rfl : i = j := by omega
              rw [HE'.out] at ha
              cases ha
              exact HV.out.1 rfl)
            have HS := Lib.hid hst
            clear hst hbA hb1 hbAll hc0 hc1 hc2 hc3 hd0 hd1 hd2 hd3 hjw hj0
            go_wp2_with fail
            go_roundw
            case rel => exact ⟨j + 1 + 1, by omega, by go_num, HS.out, HBL.out⟩
            case measure => simp [intOf]; omega
      · have hno : ¬ Fod els := fun hf => hg (hf.2.1 e (List.mem_of_getElem? HE.out))
        have HG := Lib.hid hg
        have HN := Lib.hid hno
        clear hg hno h
        go_wp2_with fail
        refine wp_region_held_drew (S := fun w' => w'.cell? (ad.add (k * 4)) = some (.int .i64 e.kind) ∧ w'.cell? ⟨(ad.add (k * 4)).block, (ad.add (k * 4)).off + 1, none⟩ = some (.int .i64 e.blanks) ∧ w'.cell? ⟨(ad.add (k * 4)).block, (ad.add (k * 4)).off + 2, none⟩ = some (.int .i64 e.indent) ∧ w'.cell? ⟨(ad.add (k * 4)).block, (ad.add (k * 4)).off + 3, none⟩ = some (.slice e.A e.n e.c) ∧ e.OK w' w.heap.size ∧ w.heap.size ≤ w'.heap.size) (by kernel_rfl) ?_ (fun hHeld => ?_)
        · (try dsimp only)
          exact ⟨hc0, hc1, hc2, hc3, HO.out.keep (fun _ _ => rfl), hsz⟩
        --<printed2>
        refine wpAnyH_take (i := 0) (v := ?_) rfl (by kernel_rfl) (by kernel_rfl) (by kernel_rfl) (fun _ _ _ h => h) (Or.inl ⟨by rfl, ?_⟩) (by assumption) ?_
        rotate_left
        · intro w hSw
          (try dsimp only at hSw)
          go_simp
          (try with_reducible rfl)
        (try simp only [Act.put, List.getElem_toArray, List.getElem_cons_zero, List.setIfInBounds_toArray, List.set_cons_zero, List.set_cons_succ])
        refine wpAnyH_take (i := 1) (v := ?_) rfl (by kernel_rfl) (by kernel_rfl) (by kernel_rfl) (fun _ _ _ h => h) (Or.inl ⟨by rfl, ?_⟩) (by assumption) ?_
        rotate_left
        · intro w hSw
          (try dsimp only at hSw)
          go_simp
          (try with_reducible rfl)
        (try simp only [Act.put, List.getElem_toArray, List.getElem_cons_succ, List.getElem_cons_zero, List.setIfInBounds_toArray, List.set_cons_zero, List.set_cons_succ])
        refine wpAnyH_take (i := 2) (v := ?_) rfl (by kernel_rfl) (by kernel_rfl) (by kernel_rfl) (fun _ _ _ h => h) (Or.inl ⟨by rfl, ?_⟩) (by assumption) ?_
        rotate_left
        · intro w hSw
          (try dsimp only at hSw)
          go_simp
          (try with_reducible rfl)
        (try simp only [Act.put, List.getElem_toArray, List.getElem_cons_succ, List.getElem_cons_zero, List.setIfInBounds_toArray, List.set_cons_zero, List.set_cons_succ])
        refine wpAnyH_take (i := 3) (v := ?_) rfl (by kernel_rfl) (by kernel_rfl) (by kernel_rfl) (fun _ _ _ h => h) (Or.inl ⟨by rfl, ?_⟩) (by assumption) ?_
        rotate_left
        · intro w hSw
          (try dsimp only at hSw)
          go_simp
          (try with_reducible rfl)
        (try simp only [Act.put, List.getElem_toArray, List.getElem_cons_succ, List.getElem_cons_zero, List.setIfInBounds_toArray, List.set_cons_zero, List.set_cons_succ])
        refine wpAnyH_ready (rs := [4]) (by kernel_rfl) (by simp) ?_
        refine AllReadyH.cons rfl (fun K hK => ?_) AllReadyH.nil
        go_simp
        refine (element_no e _ w.heap.size (by go_split_ands; assumption) (by go_split_ands; assumption) HG.out).mono ?_
        rintro _ w1 ⟨rfl, hb1⟩
        go_wp2_with fail
        refine hK.out _ _ ?_ (fun hHeld2 => ?_)
        · (try dsimp only)
          go_split_ands
          refine ⟨keeps hb1 ?_, keeps hb1 ?_, keeps hb1 ?_, keeps hb1 ?_, ?_, ?_⟩ <;> first | assumption | exact El.OK.below (by assumption) (hb1.mono (by assumption)) | exact Nat.le_trans (by assumption) hb1.size
        clear hK K
        (try simp only [Act.put, List.getElem_toArray, List.getElem_cons_succ, List.getElem_cons_zero, List.setIfInBounds_toArray, List.set_cons_zero, List.set_cons_succ])
        refine wpAnyH_take (i := 5) (v := ?_) rfl (by kernel_rfl) (by kernel_rfl) (by kernel_rfl) (fun _ _ _ h => h) (Or.inl ⟨by rfl, ?_⟩) (by assumption) ?_
        rotate_left
        · intro w hSw
          (try dsimp only at hSw)
          go_simp
          (try with_reducible rfl)
        (try simp only [Act.put, List.getElem_toArray, List.getElem_cons_succ, List.getElem_cons_zero, List.setIfInBounds_toArray, List.set_cons_zero, List.set_cons_succ])
        refine wpAnyH_take (i := 6) (v := ?_) rfl (by kernel_rfl) (by kernel_rfl) (by kernel_rfl) (fun _ _ _ h => h) (Or.inl ⟨by rfl, ?_⟩) (by assumption) ?_
        rotate_left
        · intro w hSw
          (try dsimp only at hSw)
          go_simp
          (try with_reducible rfl)
        (try simp only [Act.put, List.getElem_toArray, List.getElem_cons_succ, List.getElem_cons_zero, List.setIfInBounds_toArray, List.set_cons_zero, List.set_cons_succ])
        refine wpAnyH_take (i := 7) (v := undef) rfl (by kernel_rfl) (by kernel_rfl) (by kernel_rfl) (fun _ _ _ h => h) (Or.inr ⟨by rfl, rfl⟩) (by assumption) ?_
        (try simp only [Act.put, List.getElem_toArray, List.getElem_cons_succ, List.getElem_cons_zero, List.setIfInBounds_toArray, List.set_cons_zero, List.set_cons_succ])
        refine wpAnyH_take (i := 8) (v := undef) rfl (by kernel_rfl) (by kernel_rfl) (by kernel_rfl) (fun _ _ _ h => h) (Or.inr ⟨by rfl, rfl⟩) (by assumption) ?_
        (try simp only [Act.put, List.getElem_toArray, List.getElem_cons_succ, List.getElem_cons_zero, List.setIfInBounds_toArray, List.set_cons_zero, List.set_cons_succ])
        refine wpAnyH_take (i := 9) (v := undef) rfl (by kernel_rfl) (by kernel_rfl) (by kernel_rfl) (fun _ _ _ h => h) (Or.inr ⟨by rfl, rfl⟩) (by assumption) ?_
        (try simp only [Act.put, List.getElem_toArray, List.getElem_cons_succ, List.getElem_cons_zero, List.setIfInBounds_toArray, List.set_cons_zero, List.set_cons_succ])
        refine wpAnyH_take (i := 10) (v := undef) rfl (by kernel_rfl) (by kernel_rfl) (by kernel_rfl) (fun _ _ _ h => h) (Or.inr ⟨by rfl, rfl⟩) (by assumption) ?_
        (try simp only [Act.put, List.getElem_toArray, List.getElem_cons_succ, List.getElem_cons_zero, List.setIfInBounds_toArray, List.set_cons_zero, List.set_cons_succ])
        refine wpAnyH_take (i := 11) (v := undef) rfl (by kernel_rfl) (by kernel_rfl) (by kernel_rfl) (fun _ _ _ h => h) (Or.inr ⟨by rfl, rfl⟩) (by assumption) ?_
        (try simp only [Act.put, List.getElem_toArray, List.getElem_cons_succ, List.getElem_cons_zero, List.setIfInBounds_toArray, List.set_cons_zero, List.set_cons_succ])
        refine wpAnyH_take (i := 12) (v := undef) rfl (by kernel_rfl) (by kernel_rfl) (by kernel_rfl) (fun _ _ _ h => h) (Or.inr ⟨by rfl, rfl⟩) (by assumption) ?_
        (try simp only [Act.put, List.getElem_toArray, List.getElem_cons_succ, List.getElem_cons_zero, List.setIfInBounds_toArray, List.set_cons_zero, List.set_cons_succ])
        refine wpAnyH_take (i := 13) (v := undef) rfl (by kernel_rfl) (by kernel_rfl) (by kernel_rfl) (fun _ _ _ h => h) (Or.inr ⟨by rfl, rfl⟩) (by assumption) ?_
        (try simp only [Act.put, List.getElem_toArray, List.getElem_cons_succ, List.getElem_cons_zero, List.setIfInBounds_toArray, List.set_cons_zero, List.set_cons_succ])
        refine wpAnyH_take (i := 14) (v := undef) rfl (by kernel_rfl) (by kernel_rfl) (by kernel_rfl) (fun _ _ _ h => h) (Or.inr ⟨by rfl, rfl⟩) (by assumption) ?_
        (try simp only [Act.put, List.getElem_toArray, List.getElem_cons_succ, List.getElem_cons_zero, List.setIfInBounds_toArray, List.set_cons_zero, List.set_cons_succ])
        refine wpAnyH_take (i := 15) (v := undef) rfl (by kernel_rfl) (by kernel_rfl) (by kernel_rfl) (fun _ _ _ h => h) (Or.inr ⟨by rfl, rfl⟩) (by assumption) ?_
        (try simp only [Act.put, List.getElem_toArray, List.getElem_cons_succ, List.getElem_cons_zero, List.setIfInBounds_toArray, List.set_cons_zero, List.set_cons_succ])
        refine wpAnyH_take (i := 16) (v := undef) rfl (by kernel_rfl) (by kernel_rfl) (by kernel_rfl) (fun _ _ _ h => h) (Or.inr ⟨by rfl, rfl⟩) (by assumption) ?_
        (try simp only [Act.put, List.getElem_toArray, List.getElem_cons_succ, List.getElem_cons_zero, List.setIfInBounds_toArray, List.set_cons_zero, List.set_cons_succ])
        refine wpAnyH_take (i := 17) (v := undef) rfl (by kernel_rfl) (by kernel_rfl) (by kernel_rfl) (fun _ _ _ h => h) (Or.inr ⟨by rfl, rfl⟩) (by assumption) ?_
        (try simp only [Act.put, List.getElem_toArray, List.getElem_cons_succ, List.getElem_cons_zero, List.setIfInBounds_toArray, List.set_cons_zero, List.set_cons_succ])
        refine wpAnyH_take (i := 18) (v := undef) rfl (by kernel_rfl) (by kernel_rfl) (by kernel_rfl) (fun _ _ _ h => h) (Or.inr ⟨by rfl, rfl⟩) (by assumption) ?_
        (try simp only [Act.put, List.getElem_toArray, List.getElem_cons_succ, List.getElem_cons_zero, List.setIfInBounds_toArray, List.set_cons_zero, List.set_cons_succ])
        refine wpAnyH_take (i := 19) (v := undef) rfl (by kernel_rfl) (by kernel_rfl) (by kernel_rfl) (fun _ _ _ h => h) (Or.inr ⟨by rfl, rfl⟩) (by assumption) ?_
        (try simp only [Act.put, List.getElem_toArray, List.getElem_cons_succ, List.getElem_cons_zero, List.setIfInBounds_toArray, List.set_cons_zero, List.set_cons_succ])
        refine wpAnyH_take (i := 20) (v := undef) rfl (by kernel_rfl) (by kernel_rfl) (by kernel_rfl) (fun _ _ _ h => h) (Or.inr ⟨by rfl, rfl⟩) (by assumption) ?_
        (try simp only [Act.put, List.getElem_toArray, List.getElem_cons_succ, List.getElem_cons_zero, List.setIfInBounds_toArray, List.set_cons_zero, List.set_cons_succ])
        refine wpAnyH_take (i := 21) (v := undef) rfl (by kernel_rfl) (by kernel_rfl) (by kernel_rfl) (fun _ _ _ h => h) (Or.inr ⟨by rfl, rfl⟩) (by assumption) ?_
        (try simp only [Act.put, List.getElem_toArray, List.getElem_cons_succ, List.getElem_cons_zero, List.setIfInBounds_toArray, List.set_cons_zero, List.set_cons_succ])
        refine wpAnyH_take (i := 22) (v := ?_) rfl (by kernel_rfl) (by kernel_rfl) (by kernel_rfl) (fun _ _ _ h => h) (Or.inl ⟨by rfl, ?_⟩) (by assumption) ?_
        rotate_left
        · intro w hSw
          (try dsimp only at hSw)
          go_simp
          (try with_reducible rfl)
        (try simp only [Act.put, List.getElem_toArray, List.getElem_cons_succ, List.getElem_cons_zero, List.setIfInBounds_toArray, List.set_cons_zero, List.set_cons_succ])
        refine wpAnyH_done (by kernel_rfl) ?_ _
        --</printed2>
        go_wp2_with fail
        go_ret
        exact ⟨false, rfl, ⟨fun h => (by cases h), fun h => absurd h HN.out⟩, hb.drew.trans (hb1.mono hsz)⟩
    · obtain rfl : k = n := by omega
      have hf := HT.out.all HLEN.out (by omega)
      have HF := Lib.hid hf
      clear h hf
      go_wp2
      go_ret
      exact ⟨true, rfl, ⟨fun _ => HF.out, fun _ => rfl⟩, hb⟩
end Go.Proofs.YteiholpabgeajaaDoor
