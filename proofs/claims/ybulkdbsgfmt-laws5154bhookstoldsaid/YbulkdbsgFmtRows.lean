/-
  No cell of these rows narrows 'for every input' (looked for: loops, veiled, ifaces, maps, wideKeys, modest, calm, conditions, laid).
  DERIVED. THE GIVEN ROWS OF THIS SEAT. 2 by the template 'for every input the law returns true; each argument reads behind the call as it read before'; 0 by the template 'total and deterministic' (their statements: YbulkdbsgFmtTotals.lean).
  GIVEN WITH THE SEED: the statements are not yours to turn. If you find one false, say at which input.
  Laid BY PROGRAM, IN A SANDBOX (cutbox-rows.mjs): the forced cells as the released guide's own fill.sh prints them over the translation 9af01098dd2c077b… (all of the seat's roots in one cut). By AI agents, Wed Nov 11 2026. No macro, syntax, notation, axiom, sorry.
-/
import Derived.Test.YbulkdbsgFmtChecked
import GoSem.Claim
import GoSem.ClaimJoined
import GoSem.ClaimMapViews
import Derived.JoinedTies
import Derived.KernelRfl
namespace Go.Proofs.YbulkdbsgFmt
/- THE CELL 'sum', in the pinned program and in every row, IS THE sha256 OF THE DUMP (.gsa) THAT YbulkdbsgFmtProg.lean LOADS. Nothing in Lean hashes anything: it is a label: what it is worth is what the hold of that sum in a sandbox is worth. -/
noncomputable def Ybaf.pinned : Pinned := { name := "ybulkdbsgfmt", sum := "9af01098dd2c077b3b8f50ff8568eab23171077fca6884e1ddd5e7d7c4be755c", checked := Ybaf.checked }
namespace Rows
def none {H : Type} : Left H := { results := [], args := [] }

/-- 'syntax.LawS5154BOps': WHATEVER THE INPUT: true; the input reads as it did. -/
def lawS5154BOpsSpec : ChangeSpec := { name := "lawS5154BOps", fn := fun _ => fun
  | [d1, d2] => { results := [.lit (.bool true)], args := [d1, d2] }
  | _ => none }
def lawS5154BOpsRow : OpenClaim := { program := "ybulkdbsgfmt", sum := "9af01098dd2c077b3b8f50ff8568eab23171077fca6884e1ddd5e7d7c4be755c", func := "example.com/nadzor/nadzor/syntax.LawS5154BOps", spec := "lawS5154BOps", stops := ["fmt.Sprintf"], inPlace := ["fmt.Sprintf"], apart := false }
/-- NO THEOREM (fmt's text is open here; it may be false): for the released tool's asking of the row's closed facts alone. THE STATEMENT IS 'LawS5154BOpsToldSaid' (YbulkdbsgFmtCards.lean). -/
def LawS5154BOpsFormAsk : Prop := lawS5154BOpsRow.holds Ybaf.pinned (OpenSpec.ofChange lawS5154BOpsSpec)

/-- ITS FALSE NEIGHBOUR: 'it returns false'. Refute it at one input. -/
def lawS5154BOpsWrong : ChangeSpec := { name := "lawS5154BOps", fn := fun _ => fun
  | [d1, d2] => { results := [.lit (.bool false)], args := [d1, d2] }
  | _ => none }
def LawS5154BOpsWrongFormAsk : Prop := lawS5154BOpsRow.holds Ybaf.pinned (OpenSpec.ofChange lawS5154BOpsWrong)

/-- 'syntax.LawS5154BHooks': WHATEVER THE INPUT: true; the input reads as it did. -/
def lawS5154BHooksSpec : ChangeSpec := { name := "lawS5154BHooks", fn := fun _ => fun
  | [d1, d2, d3, d4, d5, d6, d7] => { results := [.lit (.bool true)], args := [d1, d2, d3, d4, d5, d6, d7] }
  | _ => none }
def lawS5154BHooksRow : OpenClaim := { program := "ybulkdbsgfmt", sum := "9af01098dd2c077b3b8f50ff8568eab23171077fca6884e1ddd5e7d7c4be755c", func := "example.com/nadzor/nadzor/syntax.LawS5154BHooks", spec := "lawS5154BHooks", stops := ["fmt.Sprintf"], inPlace := ["fmt.Sprintf"], unfollowed := true, recurses := true, apart := false }
/-- NO THEOREM (fmt's text is open here; it may be false): for the released tool's asking of the row's closed facts alone. THE STATEMENT IS 'LawS5154BHooksToldSaid' (YbulkdbsgFmtCards.lean). -/
def LawS5154BHooksFormAsk : Prop := lawS5154BHooksRow.holds Ybaf.pinned (OpenSpec.ofChange lawS5154BHooksSpec)

/-- ITS FALSE NEIGHBOUR: 'it returns false'. Refute it at one input. -/
def lawS5154BHooksWrong : ChangeSpec := { name := "lawS5154BHooks", fn := fun _ => fun
  | [d1, d2, d3, d4, d5, d6, d7] => { results := [.lit (.bool false)], args := [d1, d2, d3, d4, d5, d6, d7] }
  | _ => none }
def LawS5154BHooksWrongFormAsk : Prop := lawS5154BHooksRow.holds Ybaf.pinned (OpenSpec.ofChange lawS5154BHooksWrong)

end Rows
end Go.Proofs.YbulkdbsgFmt
