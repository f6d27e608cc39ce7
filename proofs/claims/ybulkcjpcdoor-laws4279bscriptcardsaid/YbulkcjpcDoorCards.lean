/-
  DERIVED. GIVEN WITH THE SEED: THE CARDS: each row of YbulkcjpcDoorRows.lean that lists a variable, with what it lists TIED to the program's text (the seventh form; the later family's looks); each row that meets fmt, with fmt's text TOLD by the authors' own Lean function (tested against real Go, not proved from fmt's source: count such statements apart). THE CARD IS WHAT COUNTS. Prove the row's statement (the work); the ties are given (YbulkcjpcDoorTie.lean); close each card by the builder's one call (the guide's Derived/Test/ToyasCard.lean, 'card_holds'). Laid BY PROGRAM, IN A SANDBOX (cutbox-door.mjs). By AI agents, Wed Nov 11 2026. No macro, syntax, notation, axiom, sorry.
-/
import Derived.Test.YbulkcjpcDoorRows
import GoSem.ClaimSeven
namespace Go.Proofs.YbulkcjpcDoor
namespace Rows

/-- THE TIED CARD OF 'mb2c.LawS4279BScript'. -/
def lawS4279BScriptCard : Claim7 := { stood := { row := lawS4279BScriptRow, standIns := [], harness := (true, "78a7696d3ee09790867b35f7a0b36a6f866d7ff2190f9846f2f4ee7553b18f54"), looks := true }, kinds := [], alts := [], laidByText := true, laidKinds := [.called, .called, .called, .called, .called, .called, .called, .widerDeep], laidTests := true, laidLooks := .later }
def LawS4279BScriptCardSaid : Prop := Claim7.holds Ybad.pinned (.plain (OpenSpec.ofChange lawS4279BScriptSpec)) lawS4279BScriptCard

/-- THE TIED CARD OF 'mb2c.LawS4279BRaw'. -/
def lawS4279BRawCard : Claim7 := { stood := { row := lawS4279BRawRow, standIns := [], harness := (true, "78a7696d3ee09790867b35f7a0b36a6f866d7ff2190f9846f2f4ee7553b18f54"), looks := true }, kinds := [], alts := [], laidByText := true, laidKinds := [.called, .called, .called, .called, .called, .called, .called, .widerDeep], laidTests := true, laidLooks := .later }
def LawS4279BRawCardSaid : Prop := Claim7.holds Ybad.pinned (.plain (OpenSpec.ofChange lawS4279BRawSpec)) lawS4279BRawCard

/-- THE TIED CARD OF 'datamgmt.LawS4279CRoundTrip'. -/
def lawS4279CRoundTripCard : Claim7 := { stood := { row := lawS4279CRoundTripRow, standIns := [], harness := (true, "78a7696d3ee09790867b35f7a0b36a6f866d7ff2190f9846f2f4ee7553b18f54"), looks := true }, kinds := [], alts := [], laidByText := true, laidKinds := [.data, .wider, .called, .called, .called, .called, .called, .called, .called, .pinned], laidTests := true, laidLooks := .later }
def LawS4279CRoundTripCardSaid : Prop := Claim7.holds Ybad.pinned (.plain (OpenSpec.ofChange lawS4279CRoundTripSpec)) lawS4279CRoundTripCard

/-- THE TIED CARD OF 'datamgmt.LawS4279CCases'. -/
def lawS4279CCasesCard : Claim7 := { stood := { row := lawS4279CCasesRow, standIns := [], harness := (true, "78a7696d3ee09790867b35f7a0b36a6f866d7ff2190f9846f2f4ee7553b18f54"), looks := true }, kinds := [], alts := [], laidByText := true, laidKinds := [.data, .wider, .called, .called, .called, .called, .called, .called, .called, .pinned], laidTests := true, laidLooks := .later }
def LawS4279CCasesCardSaid : Prop := Claim7.holds Ybad.pinned (.plain (OpenSpec.ofChange lawS4279CCasesSpec)) lawS4279CCasesCard
end Rows
end Go.Proofs.YbulkcjpcDoor
