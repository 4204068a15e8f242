/- FnTextApart (its card): for every two strings the law returns true. The arguments read as they did. Condition: the row's own ('laid': the library's variables read as their text lays them; the card ties that to the program's text). -/
import Derived.Test.YtmopaolfimpohaaDoorCards
import Derived.Test.YtmopaolfimpohaaDoorTie
import Derived.Test.YtmopaolfimpohaaDoorApartLaw
import Derived.Test.YtmopaolfimpohaaDoorWords
import Derived.ProofKit
import Derived.LaidMore
import Derived.OpenShut
import Derived.Stop.Joined
import Derived.SevenTiedAt
import Derived.Deep.Strs
import Derived.OpenVars
import Derived.Carry
import Derived.Lay
import Derived.Lib.LaidU8T
import Derived.PinnedBridge
import Derived.Lib.LaidTab
namespace Go.Proofs.YtmopaolfimpohaaDoor
open Go.ChangeShapes Go.WideShapes Go.ChangeAt Go.RowKit Go.Deep
open Go.ChangeMaps (open_string shut_string)

theorem own : ownKnob Tryd.prog.godebug = none := by kernel_rfl
theorem laidOut : laidOutB Tryd.prog = true := by kernel_rfl


theorem gD : Tryd.prog.globalNamed "math/bits.deBruijn64tab" = some 5 := by kernel_rfl
theorem tD : (Tryd.prog.globals[5]?).map (·.type) = some 66 := by kernel_rfl
theorem cB : Tryd.prog.cellsOf 5 = 1 := by kernel_rfl
theorem cD : Tryd.prog.cellsOf 66 = 64 := by kernel_rfl
def dbTab : List Int := [0, 1, 56, 2, 57, 49, 28, 3, 61, 58, 42, 50, 38, 29, 17, 4, 62, 47, 59, 36, 45, 43, 51, 22, 53, 39, 33, 30, 24, 18, 12, 5, 63, 55, 48, 27, 60, 41, 37, 16, 46, 35, 44, 21, 52, 32, 23, 11, 54, 26, 40, 15, 34, 20, 31, 10, 25, 14, 19, 9, 13, 8, 7, 6]
theorem accept_eq : Rows.laid_unicode_utf8_acceptRanges = Lib.acceptData := by kernel_rfl
theorem first_eq : Rows.laid_unicode_utf8_first = Lib.firstData := Pinned.utf8First_eq
theorem tabs_of_laid {W : World} (h : laidMetH Tryd.prog Rows.fnTextApartRow.laid W) : Tabs W := by
  rw [MakeChecks.laidMetH_plain _ _ _ (by kernel_rfl)] at h
  refine ⟨?_, ?_⟩
  · obtain ⟨g', t', cs, fuel, p, hg, hty, hvar, hd⟩ := Lib.laidMet.reads h (.tail _ (.head _))
    obtain rfl := Option.some.inj (gD.symm.trans hg)
    obtain rfl := Option.some.inj (tD.symm.trans hty)
    have hc := Lib.cells_of_tab (zs := dbTab) Tryd.underlying66 Tryd.underlying5 cB cD hd
    unfold DB
    rw [World.var?_cell hg hvar 15, ← Array.getElem?_toList, hc]
    rfl
  · have h3 := Lib.laidMet.reads h (.tail _ (.tail _ (.tail _ (.tail _ (.tail _ (.head _))))))
    have h4 := Lib.laidMet.reads h (.tail _ (.tail _ (.tail _ (.head _))))
    rw [first_eq] at h3
    rw [accept_eq] at h4
    exact utf8Tabs_of_readsT (U8Types.of196 Tryd.lays196) ⟨by kernel_rfl, by kernel_rfl, by kernel_rfl, by kernel_rfl, by kernel_rfl, by kernel_rfl, by kernel_rfl⟩ h3 h4

set_option maxRecDepth 100000 in
theorem lifted (os : Os) (started : os.Started) (H : Type) (enc : TypeId × Value → H) :
    ReturnsInHanded {} Tryd.checked os 3 .any (fun w args => (Rows.fnTextApartSpec.pre enc Tryd.prog Tryd.f3 [] false w args ∧ laidMetH Tryd.prog Rows.fnTextApartRow.laid w) ∧ sizedMet enc Tryd.prog Tryd.f3 (OpenSpec.ofChange Rows.fnTextApartSpec) false w args)
      (Rows.fnTextApartSpec.post enc Tryd.prog Tryd.f3 false true false false) := by
  refine returnsInHanded_of_change_and (C := Tryd.checked) (X := fun w _ => laidMetH Tryd.prog Rows.fnTextApartRow.laid w) (fun _ _ _ hh h => h.of_heap hh) own started (by kernel_rfl) Tryd.func3
    (ChangeSpec.witness_shaped (enc := enc) (C := Tryd.checked) (os := os) (X := fun w _ => laidMetH Tryd.prog Rows.fnTextApartRow.laid w) false (World.laidAll Tryd.prog os Rows.fnTextApartRow.laid) #[.string ⟨#[]⟩, .string ⟨#[]⟩] 8 (World.laidAll_os _ _ _)
      (World.shaped_of_ZipB (by kernel_rfl) (by kernel_rfl)) (by kernel_rfl) (by kernel_rfl) (by kernel_rfl)
      (by rw [MakeChecks.laidMetH_plain _ _ _ (by kernel_rfl)]; exact laidMet_laidAll _ (by kernel_rfl) (by kernel_rfl))) ?_
  intro W base args ds gs before hval0 hW _ _ hL _
  have hval : ∀ (j : Nat) t v, Tryd.f3.params[j]? = some t → args[j]? = some v → Value.okWide Tryd.prog W .any base t v := hval0
  have hW' := hW
  obtain ⟨p, q, hA0, hV, rfl, hfz, hnd⟩ := hW
  have hA : DataW.TrodAll enc Tryd.prog W 0 (fun _ => true) true Tryd.f3.params.toList args.toList ds p := hA0
  rw [Tryd.params3] at hA hval
  obtain ⟨v0, v1, d0, d1, p0, p1, rfl, rfl, rfl, h0, h1⟩ := trodAll_two hA
  obtain ⟨rfl, rfl⟩ := trodVars_none hV
  obtain ⟨s0, rfl, rfl, rfl, ws0⟩ := open_string Tryd.underlying9 (hval 0 9 v0 rfl rfl) h0
  obtain ⟨s1, rfl, rfl, rfl, ws1⟩ := open_string Tryd.underlying9 (hval 1 9 v1 rfl rfl) h1
  have hT := tabs_of_laid hL
  clear hA0 hval0 hA hval
  refine (law_apart s0 s1 W hT).mono fun e W' ⟨he, hb⟩ => ?_
  subst he
  exact ⟨_, rfl, post_of_below hW' (fun _ _ _ => trodAll_mk1 (shut_bool Tryd.underlying4 _)) (trodAll_mk2 (shut_string Tryd.underlying9 ws0) (shut_string Tryd.underlying9 ws1)) rfl (by simp) hb rfl⟩

theorem said : Rows.FnTextApartSaid :=
  OpenClaim.holds_of_wide 3 Tryd.f3 rfl rfl rfl rfl rfl rfl rfl ⟨rfl, rfl, rfl, rfl, rfl⟩ rfl rfl rfl rfl rfl (by kernel_rfl) Tryd.func3 (by kernel_rfl)
    (of_decide_eq_true (by kernel_rfl)) (by unfold Func.isWrapper; first | (rw [if_pos (by decide +kernel)]; kernel_rfl) | (rw [if_neg (by decide +kernel)]; exact ⟨rfl, rfl⟩))
    (fun os started H enc _ => lifted os started H enc)

theorem card_holds : Rows.FnTextApartCardSaid :=
  Claim7.holds_tied_plain_at .later [] _ _ _ _ said (fun _ h => by cases h) (by kernel_rfl) (fun _ h => by cases h) fnTextApart_row_tie rfl ⟨rfl, rfl⟩ (by kernel_rfl) rfl
    (fun f fn hf hfn => by
      obtain rfl : f = 3 := Option.some.inj ((show Tryd.prog.funcNamed "given.example/pub-rondel/laws.FnTextApart" = some 3 by kernel_rfl).symm.trans hf) |>.symm
      obtain rfl : fn = Tryd.f3 := (Option.some.inj (Tryd.func3.symm.trans hfn)).symm
      exact ⟨by kernel_rfl, fun j t ht => by
        rw [Tryd.params3] at ht
        have hm : t ∈ [9, 9] := by simpa using Array.mem_of_getElem? ht
        have hall : ([9, 9].all fun u => !Tryd.prog.wantsStandIn u) = true := by kernel_rfl
        exact (show Tryd.prog.wantsStandIn t = false by simpa using List.all_eq_true.1 hall t hm)⟩)
    (by kernel_rfl)
#print axioms card_holds
end Go.Proofs.YtmopaolfimpohaaDoor
