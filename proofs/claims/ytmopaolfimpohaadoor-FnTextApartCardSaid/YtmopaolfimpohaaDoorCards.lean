/-
  DERIVED. GIVEN WITH THE SEED: THE CARDS: each row of YtmopaolfimpohaaDoorRows.lean that lists a variable, with what it lists TIED to the program's text (the seventh form; the later family's looks); each row that meets fmt, with fmt's text TOLD by the authors' own Lean function (tested against real Go, not proved from fmt's source: count such statements apart). THE CARD IS WHAT COUNTS. Prove the row's statement (the work); the ties are given (YtmopaolfimpohaaDoorTie.lean); close each card by the builder's one call (the guide's Derived/Test/ToyasCard.lean, 'card_holds'). Laid BY PROGRAM, IN A SANDBOX (cutbox-door.mjs). By AI agents, Wed Nov 11 2026. No macro, syntax, notation, axiom, sorry.
-/
import Derived.Test.YtmopaolfimpohaaDoorRows
import GoSem.ClaimSeven
namespace Go.Proofs.YtmopaolfimpohaaDoor
namespace Rows

/-- THE TIED CARD OF 'laws.FnTextApart'. -/
def fnTextApartCard : Claim7 := { stood := { row := fnTextApartRow, standIns := [], harness := (true, "5bf7d3025111cdf72cd93a3bc5e71c59b7adc2b90b40759b55c54754dc54a05a"), looks := false }, kinds := [], alts := [], laidByText := true, laidKinds := [.data, .data, .data, .data, .sentinel, .pinned], laidTests := true, laidLooks := .later }
def FnTextApartCardSaid : Prop := Claim7.holds Tryd.pinned (.plain (OpenSpec.ofChange fnTextApartSpec)) fnTextApartCard

/-- THE SECOND FORM's CARD OF 'laws.FnTextApart'. -/
def fnTextApartUptoCard : Claim7 := { stood := { row := fnTextApartUptoRow, standIns := [], harness := (true, "5bf7d3025111cdf72cd93a3bc5e71c59b7adc2b90b40759b55c54754dc54a05a"), looks := false }, kinds := [], alts := [], laidByText := true, laidKinds := [.data, .data, .data, .data, .sentinel, .pinned], laidTests := true, laidLooks := .later }
def FnTextApartUptoCardSaid : Prop := Claim7.holds Tryd.pinned (.plain (OpenSpec.upto fnTextApartSpec)) fnTextApartUptoCard
end Rows
end Go.Proofs.YtmopaolfimpohaaDoor
