/-
  DERIVED. GIVEN WITH THE SEED: THE CARDS: each row of YtgljagmcdppniaaDoorRows.lean that lists a variable, with what it lists TIED to the program's text (the seventh form; the later family's looks); each row that meets fmt, with fmt's text TOLD by the authors' own Lean function (tested against real Go, not proved from fmt's source: count such statements apart). THE CARD IS WHAT COUNTS. Prove the row's statement (the work); the ties are given (YtgljagmcdppniaaDoorTie.lean); close each card by the builder's one call (the guide's Derived/Test/ToyasCard.lean, 'card_holds'). Laid BY PROGRAM, IN A SANDBOX (cutbox-door.mjs). By AI agents, Wed Nov 11 2026. No macro, syntax, notation, axiom, sorry.
-/
import Derived.Test.YtgljagmcdppniaaDoorRows
import GoSem.ClaimSeven
namespace Go.Proofs.YtgljagmcdppniaaDoor
namespace Rows

/-- THE TIED CARD OF 'laws.FnUnTexts'. -/
def fnUnTextsCard : Claim7 := { stood := { row := fnUnTextsRow, standIns := [], harness := (true, "7234987cb10691c676968733937a1bd92ffbeffcbce92ac304cf61ca9bd8afc2"), looks := false }, kinds := [], alts := [], laidByText := true, laidKinds := [.data], laidTests := true, laidLooks := .later }
def FnUnTextsCardSaid : Prop := Claim7.holds Tryd.pinned (.plain (OpenSpec.ofChange fnUnTextsSpec)) fnUnTextsCard

/-- THE SECOND FORM's CARD OF 'laws.FnUnTexts'. -/
def fnUnTextsUptoCard : Claim7 := { stood := { row := fnUnTextsUptoRow, standIns := [], harness := (true, "7234987cb10691c676968733937a1bd92ffbeffcbce92ac304cf61ca9bd8afc2"), looks := false }, kinds := [], alts := [], laidByText := true, laidKinds := [.data], laidTests := true, laidLooks := .later }
def FnUnTextsUptoCardSaid : Prop := Claim7.holds Tryd.pinned (.plain (OpenSpec.upto fnUnTextsSpec)) fnUnTextsUptoCard
end Rows
end Go.Proofs.YtgljagmcdppniaaDoor
