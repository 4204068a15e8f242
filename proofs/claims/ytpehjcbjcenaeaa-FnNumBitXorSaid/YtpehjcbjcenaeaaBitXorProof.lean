/- FnNumBitXor: for every two numbers the law returns true; the arguments read as they did. No condition. -/
import Derived.Test.YtpehjcbjcenaeaaBitXor
import Derived.ProofKit
import Derived.OpenShut
import Derived.Laws.Cover2
namespace Go.Proofs.Ytpehjcbjcenaeaa
open Go.ChangeShapes Go.WideShapes Go.ChangeAt Go.RowKit

theorem own_bitXor : ownKnob Try.prog.godebug = none := by kernel_rfl

set_option maxRecDepth 100000 in
theorem bitXor_lifted (os : Os) (started : os.Started) (H : Type) (enc : TypeId × Value → H) :
    ReturnsInHanded {} Try.checked os 6 .any (Rows.fnNumBitXorSpec.pre6 enc Try.prog Try.f6 Rows.fnNumBitXorRow.domain false) (Rows.fnNumBitXorSpec.post enc Try.prog Try.f6 false true false false) := by
  refine returnsInHanded_of_change (C := Try.checked) own_bitXor started (by kernel_rfl) Try.func6
    (ChangeSpec.witness6 (enc := enc) (C := Try.checked) false ⟨#[], #[.float .f64 0, .float .f64 0], []⟩ 8 (by kernel_rfl) (by kernel_rfl) (by kernel_rfl) (by kernel_rfl)) ?_
  intro W base args ds gs before hval0 hW _ _
  have hval : ∀ (j : Nat) t v, Try.f6.params[j]? = some t → args[j]? = some v → Value.okWide Try.prog W .any base t v := hval0
  have hW' := hW
  obtain ⟨p, q, hA0, hV, rfl, hfz, hnd⟩ := hW
  have hA : DataW.TrodAll enc Try.prog W 0 (fun _ => true) true Try.f6.params.toList args.toList ds p := hA0
  rw [Try.params6] at hA hval
  obtain ⟨v0, v1, d0, d1, p0, p1, rfl, rfl, rfl, h0, h1⟩ := trodAll_two hA
  obtain ⟨rfl, rfl⟩ := trodVars_none hV
  obtain ⟨a, rfl, rfl, rfl, ha⟩ := open_float Try.underlying25 (hval 0 25 v0 rfl rfl) h0
  obtain ⟨b, rfl, rfl, rfl, hb0⟩ := open_float Try.underlying25 (hval 1 25 v1 rfl rfl) h1
  clear hA0 hval0
  refine (law_bitXor a b W).mono fun e W' ⟨he, hb⟩ => ?_
  subst he
  exact ⟨_, rfl, post_of_below hW' (fun _ _ _ => trodAll_mk1 (shut_bool Try.underlying4 _)) (trodAll_mk2 (shut_float Try.underlying25 ha) (shut_float Try.underlying25 hb0)) rfl rfl hb rfl⟩

theorem bitXor_holds : Rows.FnNumBitXorSaid :=
  OpenClaim.holds_of_wide 6 Try.f6 rfl rfl rfl rfl rfl rfl rfl ⟨rfl, rfl, rfl, rfl, rfl⟩ rfl rfl rfl rfl rfl (by kernel_rfl) Try.func6 (by kernel_rfl)
    (of_decide_eq_true (by kernel_rfl)) (by unfold Func.isWrapper; first | (rw [if_pos (by decide +kernel)]; kernel_rfl) | (rw [if_neg (by decide +kernel)]; exact ⟨rfl, rfl⟩))
    (fun os started H enc _ => bitXor_lifted os started H enc)
#print axioms bitXor_holds
end Go.Proofs.Ytpehjcbjcenaeaa
