/- FnUnTexts (its card): for every operator number and every text the law returns true; the arguments and the listed variable read as they did. Condition: the row's own ('laid': the variable ast.uopStrings reads as its text lays it; the card ties that to the program's text). -/
import Derived.Test.YtgljagmcdppniaaDoorCards
import Derived.Test.YtgljagmcdppniaaDoorTie
import Derived.Test.YtgljagmcdppniaaDoorUnLaw
import Derived.Test.YtgljagmcdppniaaDoorWords
import Derived.ProofKit
import Derived.LaidMore
import Derived.OpenShut
import Derived.Stop.Joined
import Derived.SevenTiedAt
import Derived.Deep.Strs
import Derived.Lib.LaidPrint
import Derived.OpenVars
namespace Go.Proofs.YtgljagmcdppniaaDoor
open Go.ChangeShapes Go.WideShapes Go.ChangeAt Go.RowKit Go.Deep
open Go.ChangeMaps (open_string shut_string)

theorem own : ownKnob Tryd.prog.godebug = none := by kernel_rfl
theorem gU : Tryd.prog.globalNamed "given.example/pub-rondel/pub/jsonnet/ast.uopStrings" = some 0 := by kernel_rfl
theorem tU : (Tryd.prog.globals[0]?).map (·.type) = some 27 := by kernel_rfl
theorem c9 : Tryd.prog.cellsOf 9 = 1 := by kernel_rfl
theorem laidOut : laidOutB Tryd.prog = true := by kernel_rfl

theorem of_bytes {s : ByteArray} {l : List UInt8} (h : s.data.toList = l) : s = ⟨l.toArray⟩ := by
  obtain ⟨⟨d⟩⟩ := s
  simp at h
  subst h
  rfl

theorem ut_of_laid {W : World} (h : laidMetH Tryd.prog Rows.fnUnTextsRow.laid W) : UT W := by
  have hr := Lib.laidMet.reads (show laidMet Tryd.prog Rows.fnUnTextsRow.laid W from h) (.head _)
  obtain ⟨g', t', cs, fuel, p, hg, hty, hvar, hd⟩ := hr
  obtain rfl := Option.some.inj (gU.symm.trans hg)
  obtain rfl := Option.some.inj (tU.symm.trans hty)
  rcases open_strs Tryd.underlying27 Tryd.underlying9 c9 hd with ⟨_, hx⟩ | ⟨a, len, cap, m, Sx, hcs, _, hl, hm, hmm, hx, hi⟩
  · cases hx
  simp only [Rows.laid_given_example_pub_rondel_pub_jsonnet_ast_uopStrings, Prod.mk.injEq, DataW.slice.injEq] at hx
  have hlen : len = 4 := by
    have := congrArg List.length hx.1.1
    simpa using this.symm
  subst hlen
  have h4 : 4 ≤ m := by rw [hmm]; split <;> omega
  have he := hx.1.1
  simp only [List.range_succ, List.range_zero, List.nil_append, List.map_cons, List.map_nil, List.cons_append, List.cons.injEq, DataW.lit.injEq, Lit.string.injEq, and_true] at he
  obtain ⟨e0, e1, e2, e3⟩ := he
  have hat : ∀ (i : Nat) (b : UInt8), i < 4 → [b] = (Sx i).data.toList → W.cell? (a.add i) = some (.string ⟨#[b]⟩) := fun i b hi' e => by
    rw [(hi i (by omega)).1, of_bytes e.symm]
  have hadd : ∀ i, 0 < i → a.add i = ⟨a.block, a.off + i, none⟩ := fun i h0 => by unfold Addr.add; rw [if_neg (by omega)]
  refine ⟨a, cap, ?_, ?_, ?_, ?_, ?_⟩
  · rw [World.var?_cell hg hvar 0, ← Array.getElem?_toList, hcs]
    rfl
  · have := hat 0 33 (by omega) e0
    simpa [Addr.add] using this
  · rw [← hadd 1 (by omega)]; exact hat 1 126 (by omega) e1
  · rw [← hadd 2 (by omega)]; exact hat 2 43 (by omega) e2
  · rw [← hadd 3 (by omega)]; exact hat 3 45 (by omega) e3

theorem law_any (n : Int) (s : ByteArray) (w : World) (hu : UT w) :
    Calls Tryd.prog 3 #[.int .i64 n, .string s] w fun e w' => e = .returned (.bool true) ∧ Below w.heap.size w w' := by
  obtain ⟨k, hk⟩ := Un5.ex s
  by_cases hs : s.size ≤ 2147483647
  · by_cases h1 : 1 ≤ n ∧ n ≤ 4
    · exact law_yes n h1.1 h1.2 s k hk hs w hu
    · exact law_no n (by omega) s k hk hs w hu
  · exact law_big n s (by omega) w

/-- The door's own heap meets the condition. -/
theorem door_met (os : Os) (args : Array Value) : laidMetH Tryd.prog Rows.fnUnTextsRow.laid ((World.doorLaid Tryd.prog 400 os).forCall (fun _ _ => 0) ⟨#[], args, []⟩).memory :=
  laidMet_of_run' 8 (by kernel_rfl) (by kernel_rfl)

set_option maxRecDepth 100000 in
theorem lifted (os : Os) (started : os.Started) (H : Type) (enc : TypeId × Value → H) :
    ReturnsInHanded {} Tryd.checked os 3 .any (fun w args => (Rows.fnUnTextsSpec.pre enc Tryd.prog Tryd.f3 [] false w args ∧ laidMetH Tryd.prog Rows.fnUnTextsRow.laid w) ∧ sizedMet enc Tryd.prog Tryd.f3 (OpenSpec.ofChange Rows.fnUnTextsSpec) false w args)
      (Rows.fnUnTextsSpec.post enc Tryd.prog Tryd.f3 false true false false) := by
  refine returnsInHanded_of_change_and (C := Tryd.checked) (X := fun w _ => laidMetH Tryd.prog Rows.fnUnTextsRow.laid w) (fun _ _ _ hh h => h.of_heap hh) own started (by kernel_rfl) Tryd.func3
    (ChangeSpec.witness_shaped (enc := enc) (C := Tryd.checked) (os := os) (X := fun w _ => laidMetH Tryd.prog Rows.fnUnTextsRow.laid w) false (World.doorLaid Tryd.prog 400 os) #[.int .i64 0, .string ⟨#[]⟩] 8 rfl (World.shaped_of_RefB (by kernel_rfl) (by kernel_rfl)) (by kernel_rfl) (by kernel_rfl) (by kernel_rfl) (door_met os _)) ?_
  intro W base args ds gs before hval0 hW _ _ hL _
  have hval : ∀ (j : Nat) t v, Tryd.f3.params[j]? = some t → args[j]? = some v → Value.okWide Tryd.prog W .any base t v := hval0
  have hW' := hW
  obtain ⟨p, q, hA0, hV, rfl, hfz, hnd⟩ := hW
  have hA : DataW.TrodAll enc Tryd.prog W 0 (fun _ => true) true Tryd.f3.params.toList args.toList ds p := hA0
  rw [Tryd.params3] at hA hval
  obtain ⟨v0, v1, d0, d1, p0, p1, rfl, rfl, rfl, h0, h1⟩ := trodAll_two hA
  obtain ⟨n, rfl, rfl, rfl, w0⟩ := open_int Tryd.underlying3 (hval 0 3 v0 rfl rfl) h0
  obtain ⟨s, rfl, rfl, rfl, ws⟩ := open_string Tryd.underlying9 (hval 1 9 v1 rfl rfl) h1
  have hu := ut_of_laid hL
  clear hA0 hval0
  refine (law_any n s W hu).mono fun e W' ⟨he, hb⟩ => ?_
  subst he
  have hV' := Below.trodVars laidOut hb (by kernel_rfl) hV
  match gs, hV, hV' with
  | [], hV, _ => exact hV.elim
  | g1 :: gs', hV, hV' =>
    obtain ⟨_, _, _, _, _, _, _, _, _, _, hs, _⟩ := hV
    obtain ⟨rfl, rfl⟩ := trodVars_none hs
    exact ⟨_, rfl, post_of_below hW' (fun _ _ _ => trodAll_mk1 (shut_bool Tryd.underlying4 _)) (trodAll_mk2 (shut_int Tryd.underlying3 w0) (shut_string Tryd.underlying9 ws)) hV' rfl hb rfl⟩

theorem said : Rows.FnUnTextsSaid :=
  OpenClaim.holds_of_wide 3 Tryd.f3 rfl rfl rfl rfl rfl rfl rfl ⟨rfl, rfl, rfl, rfl, rfl⟩ rfl rfl rfl rfl rfl (by kernel_rfl) Tryd.func3 (by kernel_rfl)
    (of_decide_eq_true (by kernel_rfl)) (by unfold Func.isWrapper; first | (rw [if_pos (by decide +kernel)]; kernel_rfl) | (rw [if_neg (by decide +kernel)]; exact ⟨rfl, rfl⟩))
    (fun os started H enc _ => lifted os started H enc)

theorem card_holds : Rows.FnUnTextsCardSaid :=
  Claim7.holds_tied_plain_at .later [] _ _ _ _ said (fun _ h => by cases h) (by kernel_rfl) (fun _ h => by cases h) fnUnTexts_row_tie rfl ⟨rfl, rfl⟩ (by kernel_rfl) rfl
    (fun f fn hf hfn => by
      obtain rfl : f = 3 := Option.some.inj ((show Tryd.prog.funcNamed "given.example/pub-rondel/laws.FnUnTexts" = some 3 by kernel_rfl).symm.trans hf) |>.symm
      obtain rfl : fn = Tryd.f3 := (Option.some.inj (Tryd.func3.symm.trans hfn)).symm
      exact ⟨by kernel_rfl, fun j t ht => by
        rw [Tryd.params3] at ht
        have hm : t ∈ [3, 9] := by simpa using Array.mem_of_getElem? ht
        have hall : ([3, 9].all fun u => !Tryd.prog.wantsStandIn u) = true := by kernel_rfl
        exact (show Tryd.prog.wantsStandIn t = false by simpa using List.all_eq_true.1 hall t hm)⟩)
    (by kernel_rfl)
#print axioms card_holds
end Go.Proofs.YtgljagmcdppniaaDoor
