/- FnNumsRemoved: for every two rows of numbers and every place the law returns true; the arguments read as they did. No condition. -/
import Derived.Test.YtchigdiclcgkbaaRemLaw
import Derived.ProofKit
import Derived.OpenShut
import Derived.Carry
import Derived.Laws.Cover2
import Derived.Deep.Strs
namespace Go.Proofs.Ytchigdiclcgkbaa
open Go.ChangeShapes Go.WideShapes Go.ChangeAt Go.RowKit Go.Deep

section
variable {H : Type} {enc : TypeId × Value → H} {w : World} {base : Nat} {spare : Nat → Bool} {held : Bool}
theorem cellF : Try.prog.cellsOf 31 = 1 := by kernel_rfl
theorem trod_flt {fuel : Nat} {v : Value} {x : DataW H × List MemPlace} (h : DataW.trod enc Try.prog w base spare held fuel 31 [v] = some x) : ∃ b, v = .float .f64 b := by
  cases fuel with
  | zero => simp [DataW.trod] at h
  | succ n =>
    simp only [DataW.trod, Try.underlying31] at h
    cases v <;> simp_all
instance : Inhabited Value := ⟨.nilIface⟩
theorem open_floats {fuel : Nat} {v : Value} {x : DataW H × List MemPlace} (h : DataW.trod enc Try.prog w base spare held fuel 22 [v] = some x) :
    ∃ A n c xs, v = .slice A n c ∧ n ≤ c ∧ c ≤ maxLen ∧ NumsAt w A n xs := by
  rcases open_slice1 Try.underlying22 cellF h with ⟨hv, _⟩ | ⟨a, len, cap, m, n, V, D, Pl, hv, hb, hl, hm, hmm, _, hx⟩
  · obtain rfl : v = .slice none 0 0 := by simpa using hv
    exact ⟨none, 0, 0, [], rfl, Nat.le_refl _, Nat.zero_le _, Reads.none_⟩
  · obtain rfl : v = .slice (some a) len cap := by simpa using hv
    have hlm : len ≤ m := by rw [hmm]; split <;> omega
    have each : ∀ i, i < len → ∃ b : Nat, V i = .float .f64 b := fun i hi => trod_flt (hx i (by omega)).2
    obtain ⟨X, hX⟩ := choose_lt each
    refine ⟨some a, len, cap, (List.range len).map X, rfl, hl, hm, Reads.of_cells (by omega) (by simp) (fun _ => ⟨a, rfl, fun j u hu => ?_⟩)⟩
    have hj : j < len := by
      have := (List.getElem?_eq_some_iff.1 hu).1
      simpa using this
    simp [hj] at hu
    rw [← hu, ← hX j hj]
    exact (hx j (by omega)).1
end

theorem own : ownKnob Try.prog.godebug = none := by kernel_rfl
theorem laidOut : laidOutB Try.prog = true := by kernel_rfl

set_option maxRecDepth 100000 in
theorem removed_lifted (os : Os) (started : os.Started) (H : Type) (enc : TypeId × Value → H) :
    ReturnsInHanded {} Try.checked os 3 .any (Rows.fnNumsRemovedSpec.pre6 enc Try.prog Try.f3 Rows.fnNumsRemovedRow.domain false) (Rows.fnNumsRemovedSpec.post enc Try.prog Try.f3 false true false false) := by
  refine returnsInHanded_of_change (C := Try.checked) own started (by kernel_rfl) Try.func3
    (ChangeSpec.witness6 (enc := enc) (C := Try.checked) false ⟨#[], #[.slice none 0 0, .slice none 0 0, .int .u8 0], []⟩ 8 (by kernel_rfl) (by kernel_rfl) (by kernel_rfl) (by kernel_rfl)) ?_
  intro W base args ds gs before hval0 hW _ _
  have hval : ∀ (j : Nat) t v, Try.f3.params[j]? = some t → args[j]? = some v → Value.okWide Try.prog W .any base t v := hval0
  have hW' := hW
  obtain ⟨p, q, hA0, hV, rfl, hfz, hnd⟩ := hW
  have hA : DataW.TrodAll enc Try.prog W 0 (fun _ => true) true Try.f3.params.toList args.toList ds p := hA0
  rw [Try.params3] at hA hval
  obtain ⟨v0, v1, v2, d0, d1, d2, p0, p1, p2, rfl, rfl, rfl, h0, h1, h2⟩ := trodAll_three hA
  obtain ⟨rfl, rfl⟩ := trodVars_none hV
  have h0k := h0
  have h1k := h1
  obtain ⟨a0, len0, cap0, rfl⟩ := okWide_slice Try.underlying22 (hval 0 22 v0 rfl rfl)
  obtain ⟨a1, len1, cap1, rfl⟩ := okWide_slice Try.underlying22 (hval 1 22 v1 rfl rfl)
  obtain ⟨fuel0, hf0⟩ := h0
  obtain ⟨fuel1, hf1⟩ := h1
  obtain ⟨A, n, c, xs, hv, hnc, hcm, hxs⟩ := open_floats (show DataW.trod enc Try.prog W 0 (fun _ => true) true fuel0 22 [.slice a0 len0 cap0] = some _ from hf0)
  obtain ⟨B, m, d, ys, hv1, hnd1, hcm1, hys⟩ := open_floats (show DataW.trod enc Try.prog W 0 (fun _ => true) true fuel1 22 [.slice a1 len1 cap1] = some _ from hf1)
  obtain ⟨k, rfl, rfl, rfl, w2⟩ := open_int Try.underlying5 (hval 2 5 v2 rfl rfl) h2
  rw [hv, hv1] at hW' ⊢
  rw [hv] at h0k
  rw [hv1] at h1k
  have hk : 0 ≤ k ∧ k ≤ 255 := by
    have w3 := w2
    have m1 : IntKind.u8.min = 0 := rfl
    have m2 : IntKind.u8.max = 255 := rfl
    simp only [Lit.wf, Bool.and_eq_true, decide_eq_true_eq, m1, m2] at w3
    exact w3
  obtain ⟨k, rfl⟩ := Int.eq_ofNat_of_zero_le hk.1
  have hlt0 : ∀ x ∈ p0, x.block < W.heap.size := fun x hx => by simpa using hW'.lt x (by simp [hx])
  have hlt1 : ∀ x ∈ p1, x.block < W.heap.size := fun x hx => by simpa using hW'.lt x (by simp [hx])
  clear hA0 hval0 hA hval
  refine (lawRemoved A B n m c d xs ys k W hxs hys (by omega)).mono fun e W' ⟨he, hb⟩ => ?_
  subst he
  exact ⟨_, rfl, post_of_below hW' (fun _ _ _ => trodAll_mk1 (shut_bool Try.underlying4 _)) (trodAll_mk3 (Below.trod laidOut (by kernel_rfl) (of_decide_eq_true (by kernel_rfl)) h0k hb hlt0) (Below.trod laidOut (by kernel_rfl) (of_decide_eq_true (by kernel_rfl)) h1k hb hlt1) (shut_int Try.underlying5 w2)) rfl (by simp) hb rfl⟩

theorem removed_holds : Rows.FnNumsRemovedSaid :=
  OpenClaim.holds_of_wide 3 Try.f3 rfl rfl rfl rfl rfl rfl rfl ⟨rfl, rfl, rfl, rfl, rfl⟩ rfl rfl rfl rfl rfl (by kernel_rfl) Try.func3 (by kernel_rfl)
    (of_decide_eq_true (by kernel_rfl)) (by unfold Func.isWrapper; first | (rw [if_pos (by decide +kernel)]; kernel_rfl) | (rw [if_neg (by decide +kernel)]; exact ⟨rfl, rfl⟩))
    (fun os started H enc _ => removed_lifted os started H enc)
#print axioms removed_holds
end Go.Proofs.Ytchigdiclcgkbaa
