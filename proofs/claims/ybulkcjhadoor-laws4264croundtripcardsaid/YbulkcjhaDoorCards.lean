/-
  DERIVED. GIVEN WITH THE SEED: THE CARDS: each row of YbulkcjhaDoorRows.lean that lists a variable, with what it lists TIED to the program's text (the seventh form; the later family's looks); each row that meets fmt, with fmt's text TOLD by the authors' own Lean function (tested against real Go, not proved from fmt's source: count such statements apart). THE CARD IS WHAT COUNTS. Prove the row's statement (the work); the ties are given (YbulkcjhaDoorTie.lean); close each card by the builder's one call (the guide's Derived/Test/ToyasCard.lean, 'card_holds'). Laid BY PROGRAM, IN A SANDBOX (cutbox-door.mjs). By AI agents, Wed Nov 11 2026. No macro, syntax, notation, axiom, sorry.
-/
import Derived.Test.YbulkcjhaDoorRows
import GoSem.ClaimSeven
namespace Go.Proofs.YbulkcjhaDoor
namespace Rows

/-- THE TIED CARD OF 'inventory.LawS4264CRoundTrip'. -/
def lawS4264CRoundTripCard : Claim7 := { stood := { row := lawS4264CRoundTripRow, standIns := [], harness := (true, "68badd9d1305d0431d11b568dc72d7270a9a3c821f383d44b3e0943990c573c2"), looks := true }, kinds := [], alts := [], laidByText := true, laidKinds := [.data, .data, .data, .sentinel, .sentinel], laidTests := true, laidLooks := .later }
def LawS4264CRoundTripCardSaid : Prop := Claim7.holds Ybad.pinned (.plain (OpenSpec.ofChange lawS4264CRoundTripSpec)) lawS4264CRoundTripCard
end Rows
end Go.Proofs.YbulkcjhaDoor
