/-
  DERIVED. GIVEN WITH THE SEED: THE CARDS: each row of YbulkdbsgFmtRows.lean that lists a variable, with what it lists TIED to the program's text (the seventh form; the later family's looks); each row that meets fmt, with fmt's text TOLD by the authors' own Lean function (tested against real Go, not proved from fmt's source: count such statements apart). THE CARD IS WHAT COUNTS. Prove the row's statement (the work); the ties are given (YbulkdbsgFmtTie.lean); close each card by the builder's one call (the guide's Derived/Test/ToyasCard.lean, 'card_holds'). Laid BY PROGRAM, IN A SANDBOX (cutbox-door.mjs). By AI agents, Wed Nov 11 2026. No macro, syntax, notation, axiom, sorry.
-/
import Derived.Test.YbulkdbsgFmtRows
import GoSem.ClaimSeven
namespace Go.Proofs.YbulkdbsgFmt
namespace Rows

/-- THE TOLD CARD OF 'syntax.LawS5154BOps'. -/
def lawS5154BOpsCard : Claim7 := { stood := { row := lawS5154BOpsRow, standIns := [], harness := (true, "2bece81505695f5e1f54b1cd4cb1ffb8d47847189fd26525635657cd99b83d62"), looks := true }, told := true, goes := false }
def LawS5154BOpsToldSaid : Prop := Claim7.holds Ybaf.pinned (.plain (OpenSpec.ofChange lawS5154BOpsSpec)) lawS5154BOpsCard
/-- ITS FALSE NEIGHBOUR. Refute it at one input. -/
def LawS5154BOpsToldWrongFalsely : Prop := Claim7.holds Ybaf.pinned (.plain (OpenSpec.ofChange lawS5154BOpsWrong)) lawS5154BOpsCard

/-- THE TOLD CARD OF 'syntax.LawS5154BHooks'. -/
def lawS5154BHooksCard : Claim7 := { stood := { row := lawS5154BHooksRow, standIns := [], harness := (true, "2bece81505695f5e1f54b1cd4cb1ffb8d47847189fd26525635657cd99b83d62"), looks := true }, told := true, goes := false }
def LawS5154BHooksToldSaid : Prop := Claim7.holds Ybaf.pinned (.plain (OpenSpec.ofChange lawS5154BHooksSpec)) lawS5154BHooksCard
/-- ITS FALSE NEIGHBOUR. Refute it at one input. -/
def LawS5154BHooksToldWrongFalsely : Prop := Claim7.holds Ybaf.pinned (.plain (OpenSpec.ofChange lawS5154BHooksWrong)) lawS5154BHooksCard
end Rows
end Go.Proofs.YbulkdbsgFmt
