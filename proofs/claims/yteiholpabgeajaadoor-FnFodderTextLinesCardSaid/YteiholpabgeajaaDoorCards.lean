/-
  DERIVED. GIVEN WITH THE SEED: THE CARDS: each row of YteiholpabgeajaaDoorRows.lean that lists a variable, with what it lists TIED to the program's text (the seventh form; the later family's looks); each row that meets fmt, with fmt's text TOLD by the authors' own Lean function (tested against real Go, not proved from fmt's source: count such statements apart). THE CARD IS WHAT COUNTS. Prove the row's statement (the work); the ties are given (YteiholpabgeajaaDoorTie.lean); close each card by the builder's one call (the guide's Derived/Test/ToyasCard.lean, 'card_holds'). Laid BY PROGRAM, IN A SANDBOX (cutbox-door.mjs). By AI agents, Wed Nov 11 2026. No macro, syntax, notation, axiom, sorry.
-/
import Derived.Test.YteiholpabgeajaaDoorRows
import GoSem.ClaimSeven
namespace Go.Proofs.YteiholpabgeajaaDoor
namespace Rows

/-- THE TIED CARD OF 'laws.FnFodderTextLines'. -/
def fnFodderTextLinesCard : Claim7 := { stood := { row := fnFodderTextLinesRow, standIns := [], harness := (true, "8705f4f4e4f0cfecbd9326355b3e7515b3fc035e98af34d7a09df818ce198f7e"), looks := false }, kinds := [], alts := [], laidByText := true, laidKinds := [.sentinel], laidTests := true, laidLooks := .later }
def FnFodderTextLinesCardSaid : Prop := Claim7.holds Tryd.pinned (.plain (OpenSpec.ofChange fnFodderTextLinesSpec)) fnFodderTextLinesCard

/-- THE SECOND FORM's CARD OF 'laws.FnFodderTextLines'. -/
def fnFodderTextLinesUptoCard : Claim7 := { stood := { row := fnFodderTextLinesUptoRow, standIns := [], harness := (true, "8705f4f4e4f0cfecbd9326355b3e7515b3fc035e98af34d7a09df818ce198f7e"), looks := false }, kinds := [], alts := [], laidByText := true, laidKinds := [.sentinel], laidTests := true, laidLooks := .later }
def FnFodderTextLinesUptoCardSaid : Prop := Claim7.holds Tryd.pinned (.plain (OpenSpec.upto fnFodderTextLinesSpec)) fnFodderTextLinesUptoCard
end Rows
end Go.Proofs.YteiholpabgeajaaDoor
