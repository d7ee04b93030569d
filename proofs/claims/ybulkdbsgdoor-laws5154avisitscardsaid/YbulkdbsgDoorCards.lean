/-
  DERIVED. GIVEN WITH THE SEED: THE CARDS: each row of YbulkdbsgDoorRows.lean that lists a variable, with what it lists TIED to the program's text (the seventh form; the later family's looks); each row that meets fmt, with fmt's text TOLD by the authors' own Lean function (tested against real Go, not proved from fmt's source: count such statements apart). THE CARD IS WHAT COUNTS. Prove the row's statement (the work); the ties are given (YbulkdbsgDoorTie.lean); close each card by the builder's one call (the guide's Derived/Test/ToyasCard.lean, 'card_holds'). Laid BY PROGRAM, IN A SANDBOX (cutbox-door.mjs). By AI agents, Wed Nov 11 2026. No macro, syntax, notation, axiom, sorry.
-/
import Derived.Test.YbulkdbsgDoorRows
import GoSem.ClaimSeven
namespace Go.Proofs.YbulkdbsgDoor
namespace Rows

/-- THE TIED CARD OF 'arbac.LawS5154AVisits'. -/
def lawS5154AVisitsCard : Claim7 := { stood := { row := lawS5154AVisitsRow, standIns := [], harness := (true, "59202343dcab9df75f82b86a29c180aadbaff8e565ffb272b470a985cc82e791"), looks := false }, kinds := [], alts := [], laidByText := true, laidKinds := [.data], laidTests := true, laidLooks := .later }
def LawS5154AVisitsCardSaid : Prop := Claim7.holds Ybad.pinned (.plain (OpenSpec.ofChange lawS5154AVisitsSpec)) lawS5154AVisitsCard
end Rows
end Go.Proofs.YbulkdbsgDoor
