/-
  DERIVED. GIVEN WITH THE SEED: THE CARDS: each row of YtmbaijkbchkjoaaDoorRows.lean that lists a variable, with what it lists TIED to the program's text (the seventh form; the later family's looks); each row that meets fmt, with fmt's text TOLD by the authors' own Lean function (tested against real Go, not proved from fmt's source: count such statements apart). THE CARD IS WHAT COUNTS. Prove the row's statement (the work); the ties are given (YtmbaijkbchkjoaaDoorTie.lean); close each card by the builder's one call (the guide's Derived/Test/ToyasCard.lean, 'card_holds'). Laid BY PROGRAM, IN A SANDBOX (cutbox-door.mjs). By AI agents, Wed Nov 11 2026. No macro, syntax, notation, axiom, sorry.
-/
import Derived.Test.YtmbaijkbchkjoaaDoorRows
import GoSem.ClaimSeven
namespace Go.Proofs.YtmbaijkbchkjoaaDoor
namespace Rows

/-- THE TIED CARD OF 'laws.FnStepsNothing'. -/
def fnStepsNothingCard : Claim7 := { stood := { row := fnStepsNothingRow, standIns := [], harness := (true, "9b082360ce0e26767d29c3891e20c6d2ebea533dcb26720fa4f8964ef4885153"), looks := true }, kinds := [], alts := [], laidByText := true, laidKinds := [.data, .pinned], laidTests := true, laidLooks := .later }
def FnStepsNothingCardSaid : Prop := Claim7.holds Tryd.pinned (.plain (OpenSpec.ofChange fnStepsNothingSpec)) fnStepsNothingCard

/-- THE SECOND FORM's CARD OF 'laws.FnStepsNothing'. -/
def fnStepsNothingUptoCard : Claim7 := { stood := { row := fnStepsNothingUptoRow, standIns := [], harness := (true, "9b082360ce0e26767d29c3891e20c6d2ebea533dcb26720fa4f8964ef4885153"), looks := true }, kinds := [], alts := [], laidByText := true, laidKinds := [.data, .pinned], laidTests := true, laidLooks := .later }
def FnStepsNothingUptoCardSaid : Prop := Claim7.holds Tryd.pinned (.plain (OpenSpec.upto fnStepsNothingSpec)) fnStepsNothingUptoCard
end Rows
end Go.Proofs.YtmbaijkbchkjoaaDoor
