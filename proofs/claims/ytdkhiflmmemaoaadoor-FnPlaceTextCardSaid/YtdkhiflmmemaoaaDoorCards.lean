/-
  DERIVED. GIVEN WITH THE SEED: THE CARDS: each row of YtdkhiflmmemaoaaDoorRows.lean that lists a variable, with what it lists TIED to the program's text (the seventh form; the later family's looks); each row that meets fmt, with fmt's text TOLD by the authors' own Lean function (tested against real Go, not proved from fmt's source: count such statements apart). THE CARD IS WHAT COUNTS. Prove the row's statement (the work); the ties are given (YtdkhiflmmemaoaaDoorTie.lean); close each card by the builder's one call (the guide's Derived/Test/ToyasCard.lean, 'card_holds'). Laid BY PROGRAM, IN A SANDBOX (cutbox-door.mjs). By AI agents, Wed Nov 11 2026. No macro, syntax, notation, axiom, sorry.
-/
import Derived.Test.YtdkhiflmmemaoaaDoorRows
import GoSem.ClaimSeven
namespace Go.Proofs.YtdkhiflmmemaoaaDoor
namespace Rows

/-- THE TIED CARD OF 'laws.FnPlaceText'. -/
def fnPlaceTextCard : Claim7 := { stood := { row := fnPlaceTextRow, standIns := [], harness := (true, "8d71e89754af5fac6659677f543af0a06fa4c3e908e2787886b7f36600b1f9ce"), looks := false }, kinds := [], alts := [], laidByText := true, laidKinds := [.data, .data, .data], laidTests := true, laidLooks := .later }
def FnPlaceTextCardSaid : Prop := Claim7.holds Tryd.pinned (.plain (OpenSpec.ofChange fnPlaceTextSpec)) fnPlaceTextCard

/-- THE SECOND FORM's CARD OF 'laws.FnPlaceText'. -/
def fnPlaceTextUptoCard : Claim7 := { stood := { row := fnPlaceTextUptoRow, standIns := [], harness := (true, "8d71e89754af5fac6659677f543af0a06fa4c3e908e2787886b7f36600b1f9ce"), looks := false }, kinds := [], alts := [], laidByText := true, laidKinds := [.data, .data, .data], laidTests := true, laidLooks := .later }
def FnPlaceTextUptoCardSaid : Prop := Claim7.holds Tryd.pinned (.plain (OpenSpec.upto fnPlaceTextSpec)) fnPlaceTextUptoCard
end Rows
end Go.Proofs.YtdkhiflmmemaoaaDoor
