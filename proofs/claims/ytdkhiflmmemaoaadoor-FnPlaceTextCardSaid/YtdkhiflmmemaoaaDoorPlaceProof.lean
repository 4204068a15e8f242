/- FnPlaceText (its card): for every two places the law returns true; the arguments read as they did. Condition: the row's own ('laid': the library's tables read as their text lays them; the card ties that to the program's text). -/
import Derived.Test.YtdkhiflmmemaoaaDoorCards
import Derived.Test.YtdkhiflmmemaoaaDoorTie
import Derived.Test.YtdkhiflmmemaoaaDoorPlaceLaw
import Derived.Test.YtdkhiflmmemaoaaDoorWords
import Derived.ProofKit
import Derived.LaidMore
import Derived.OpenShut
import Derived.Stop.Joined
import Derived.SevenTiedAt
import Derived.Deep.Strs
import Derived.Lib.LaidPrint
import Derived.OpenVars
import Derived.Lib.SmallJoins
import Derived.Lib.LaidTab
import Derived.Carry
namespace Go.Proofs.YtdkhiflmmemaoaaDoor
open Go.ChangeShapes Go.WideShapes Go.ChangeAt Go.RowKit Go.Deep
open Go.ChangeMaps (open_string shut_string)

theorem own : ownKnob Tryd.prog.godebug = none := by kernel_rfl
theorem tT : (Tryd.prog.globals[0]?).map (·.type) = some 40 := by kernel_rfl
theorem cU : Tryd.prog.cellsOf 32 = 1 := by kernel_rfl
theorem cT : Tryd.prog.cellsOf 40 = 20 := by kernel_rfl

theorem pt_of_laid {W : World} (h : laidMetH Tryd.prog Rows.fnPlaceTextRow.laid W) : PT W := by
  have hr := Lib.laidMet.reads (show laidMet Tryd.prog Rows.fnPlaceTextRow.laid W from h) (.tail _ (.tail _ (.head _)))
  obtain ⟨g', t', cs, fuel, p, hg, hty, hvar, hd⟩ := hr
  obtain rfl := Option.some.inj (gT.symm.trans hg)
  obtain rfl := Option.some.inj (tT.symm.trans hty)
  have hc := Lib.cells_of_tab (zs := Lib.pow10Tab) Tryd.underlying40 Tryd.underlying32 cU cT hd
  unfold PT Lib.TabIs
  rw [hvar, ← hc]

theorem laidOut : laidOutB Tryd.prog = true := by kernel_rfl
theorem cP : Tryd.prog.cellsOf 23 = 2 := by kernel_rfl

theorem place_of {H : Type} {enc : TypeId × Value → H} {w : World} {base : Nat} {spare : Nat → Bool} {held : Bool} {r : Reach} {b0 : Nat} {v : Value} {d : DataW H} {p : List MemPlace}
    (hv : Value.okWide Tryd.prog w r b0 23 v) (h : DataW.Trod enc Tryd.prog w base spare held 23 v d p) : ∃ a c : Int, v = .agg #[.int .i64 a, .int .i64 c] := by
  obtain ⟨x0, x1, y0, y1, n0, rfl, rfl, rfl, g0, g1⟩ := Joins.open_agg2 Tryd.underlying23 (by kernel_rfl) cP hv h
  obtain ⟨a, e1, _, _⟩ := DataW.trod_int Tryd.underlying3 g0
  obtain ⟨c, e2, _, _⟩ := DataW.trod_int Tryd.underlying3 g1
  obtain rfl : x0 = .int .i64 a := by simpa using e1
  obtain rfl : x1 = .int .i64 c := by simpa using e2
  exact ⟨a, c, rfl⟩

/-- The door's own heap meets the condition. -/
theorem door_met (os : Os) (args : Array Value) : laidMetH Tryd.prog Rows.fnPlaceTextRow.laid ((World.doorLaid Tryd.prog 400 os).forCall (fun _ _ => 0) ⟨#[], args, []⟩).memory :=
  laidMet_of_run' 8 (by kernel_rfl) (by kernel_rfl)

set_option maxRecDepth 100000 in
theorem lifted (os : Os) (started : os.Started) (H : Type) (enc : TypeId × Value → H) :
    ReturnsInHanded {} Tryd.checked os 3 .any (fun w args => (Rows.fnPlaceTextSpec.pre enc Tryd.prog Tryd.f3 [] false w args ∧ laidMetH Tryd.prog Rows.fnPlaceTextRow.laid w) ∧ sizedMet enc Tryd.prog Tryd.f3 (OpenSpec.ofChange Rows.fnPlaceTextSpec) false w args)
      (Rows.fnPlaceTextSpec.post enc Tryd.prog Tryd.f3 false true false false) := by
  refine returnsInHanded_of_change_and (C := Tryd.checked) (X := fun w _ => laidMetH Tryd.prog Rows.fnPlaceTextRow.laid w) (fun _ _ _ hh h => h.of_heap hh) own started (by kernel_rfl) Tryd.func3
    (ChangeSpec.witness_shaped (enc := enc) (C := Tryd.checked) (os := os) (X := fun w _ => laidMetH Tryd.prog Rows.fnPlaceTextRow.laid w) false (World.doorLaid Tryd.prog 400 os) #[.agg #[.int .i64 0, .int .i64 0], .agg #[.int .i64 0, .int .i64 0]] 8 rfl (World.shaped_of_RefB (by kernel_rfl) (by kernel_rfl)) (by kernel_rfl) (by kernel_rfl) (by kernel_rfl) (door_met os _)) ?_
  intro W base args ds gs before hval0 hW _ _ hL _
  have hval : ∀ (j : Nat) t v, Tryd.f3.params[j]? = some t → args[j]? = some v → Value.okWide Tryd.prog W .any base t v := hval0
  have hW' := hW
  obtain ⟨p, q, hA0, hV, rfl, hfz, hnd⟩ := hW
  have hA : DataW.TrodAll enc Tryd.prog W 0 (fun _ => true) true Tryd.f3.params.toList args.toList ds p := hA0
  rw [Tryd.params3] at hA hval
  obtain ⟨v0, v1, d0, d1, p0, p1, rfl, rfl, rfl, h0, h1⟩ := trodAll_two hA
  obtain ⟨rfl, rfl⟩ := trodVars_none hV
  have h0k := h0
  have h1k := h1
  obtain ⟨a, c, rfl⟩ := place_of (hval 0 23 v0 rfl rfl) h0
  obtain ⟨b, d, rfl⟩ := place_of (hval 1 23 v1 rfl rfl) h1
  have hpt := pt_of_laid hL
  have hlt : ∀ x ∈ p0 ++ p1, x.block < W.heap.size := fun x hx => by simpa using hW'.lt x (by simpa using hx)
  clear hA0 hval0 hA hval
  refine (law_place a c b d W hpt).mono fun e W' ⟨he, hb⟩ => ?_
  subst he
  exact ⟨_, rfl, post_of_below hW' (fun _ _ _ => trodAll_mk1 (shut_bool Tryd.underlying4 _)) (trodAll_mk2 (Below.trod laidOut (by kernel_rfl) (of_decide_eq_true (by kernel_rfl)) h0k hb fun x hx => hlt x (List.mem_append_left _ hx)) (Below.trod laidOut (by kernel_rfl) (of_decide_eq_true (by kernel_rfl)) h1k hb fun x hx => hlt x (List.mem_append_right _ hx))) rfl (by simp) hb rfl⟩

theorem said : Rows.FnPlaceTextSaid :=
  OpenClaim.holds_of_wide 3 Tryd.f3 rfl rfl rfl rfl rfl rfl rfl ⟨rfl, rfl, rfl, rfl, rfl⟩ rfl rfl rfl rfl rfl (by kernel_rfl) Tryd.func3 (by kernel_rfl)
    (of_decide_eq_true (by kernel_rfl)) (by unfold Func.isWrapper; first | (rw [if_pos (by decide +kernel)]; kernel_rfl) | (rw [if_neg (by decide +kernel)]; exact ⟨rfl, rfl⟩))
    (fun os started H enc _ => lifted os started H enc)

theorem card_holds : Rows.FnPlaceTextCardSaid :=
  Claim7.holds_tied_plain_at .later [] _ _ _ _ said (fun _ h => by cases h) (by kernel_rfl) (fun _ h => by cases h) fnPlaceText_row_tie rfl ⟨rfl, rfl⟩ (by kernel_rfl) rfl
    (fun f fn hf hfn => by
      obtain rfl : f = 3 := Option.some.inj ((show Tryd.prog.funcNamed "given.example/pub-rondel/laws.FnPlaceText" = some 3 by kernel_rfl).symm.trans hf) |>.symm
      obtain rfl : fn = Tryd.f3 := (Option.some.inj (Tryd.func3.symm.trans hfn)).symm
      exact ⟨by kernel_rfl, fun j t ht => by
        rw [Tryd.params3] at ht
        have hm : t ∈ [23, 23] := by simpa using Array.mem_of_getElem? ht
        have hall : ([23, 23].all fun u => !Tryd.prog.wantsStandIn u) = true := by kernel_rfl
        exact (show Tryd.prog.wantsStandIn t = false by simpa using List.all_eq_true.1 hall t hm)⟩)
    (by kernel_rfl)
#print axioms card_holds
end Go.Proofs.YtdkhiflmmemaoaaDoor
