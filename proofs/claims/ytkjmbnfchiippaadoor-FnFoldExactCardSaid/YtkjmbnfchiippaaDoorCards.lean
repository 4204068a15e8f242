/-
  DERIVED. GIVEN WITH THE SEED: THE CARDS: each row of YtkjmbnfchiippaaDoorRows.lean that lists a variable, with what it lists TIED to the program's text (the seventh form; the later family's looks); each row that meets fmt, with fmt's text TOLD by the authors' own Lean function (tested against real Go, not proved from fmt's source: count such statements apart). THE CARD IS WHAT COUNTS. Prove the row's statement (the work); the ties are given (YtkjmbnfchiippaaDoorTie.lean); close each card by the builder's one call (the guide's Derived/Test/ToyasCard.lean, 'card_holds'). Laid BY PROGRAM, IN A SANDBOX (cutbox-door.mjs). By AI agents, Wed Nov 11 2026. No macro, syntax, notation, axiom, sorry.
-/
import Derived.Test.YtkjmbnfchiippaaDoorRows
import GoSem.ClaimSeven
namespace Go.Proofs.YtkjmbnfchiippaaDoor
namespace Rows

/-- THE TIED CARD OF 'laws.FnFoldExact'. -/
def fnFoldExactCard : Claim7 := { stood := { row := fnFoldExactRow, standIns := [], harness := (true, "88f0aed90c62cbed7fc3cb8c8900f1c77e919715a532cdc37e58018f675136b2"), looks := true }, kinds := [], alts := [], laidByText := true, laidKinds := [.data, .data, .data, .pinned, .pinned], laidTests := true, laidLooks := .later }
def FnFoldExactCardSaid : Prop := Claim7.holds Tryd.pinned (.plain (OpenSpec.ofChange fnFoldExactSpec)) fnFoldExactCard

/-- THE SECOND FORM's CARD OF 'laws.FnFoldExact'. -/
def fnFoldExactUptoCard : Claim7 := { stood := { row := fnFoldExactUptoRow, standIns := [], harness := (true, "88f0aed90c62cbed7fc3cb8c8900f1c77e919715a532cdc37e58018f675136b2"), looks := true }, kinds := [], alts := [], laidByText := true, laidKinds := [.data, .data, .data, .pinned, .pinned], laidTests := true, laidLooks := .later }
def FnFoldExactUptoCardSaid : Prop := Claim7.holds Tryd.pinned (.plain (OpenSpec.upto fnFoldExactSpec)) fnFoldExactUptoCard
end Rows
end Go.Proofs.YtkjmbnfchiippaaDoor
