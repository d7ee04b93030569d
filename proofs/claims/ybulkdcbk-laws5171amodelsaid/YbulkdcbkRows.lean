/-
  No cell of these rows narrows 'for every input' (looked for: loops, veiled, ifaces, maps, wideKeys, modest, calm, conditions, laid).
  DERIVED. THE GIVEN ROWS OF THIS SEAT. 1 by the template 'for every input the law returns true; each argument reads behind the call as it read before'; 0 by the template 'total and deterministic' (their statements: YbulkdcbkTotals.lean).
  GIVEN WITH THE SEED: the statements are not yours to turn. If you find one false, say at which input.
  Laid BY PROGRAM, IN A SANDBOX (cutbox-rows.mjs): the forced cells as the released guide's own fill.sh prints them over the translation 4004228b82aff8ea… (all of the seat's roots in one cut). By AI agents, Wed Nov 11 2026. No macro, syntax, notation, axiom, sorry.
-/
import Derived.Test.YbulkdcbkChecked
import GoSem.Claim
import GoSem.ClaimJoined
import GoSem.ClaimMapViews
import Derived.JoinedTies
import Derived.KernelRfl
namespace Go.Proofs.Ybulkdcbk
/- THE CELL 'sum', in the pinned program and in every row, IS THE sha256 OF THE DUMP (.gsa) THAT YbulkdcbkProg.lean LOADS. Nothing in Lean hashes anything: it is a label: what it is worth is what the hold of that sum in a sandbox is worth. -/
noncomputable def Yba.pinned : Pinned := { name := "ybulkdcbk", sum := "4004228b82aff8ea7c5464ba5c99c628f7e81035180deeecf979ca9b2df0e91c", checked := Yba.checked }
namespace Rows
def none {H : Type} : Left H := { results := [], args := [] }

/-- 'prove.LawS5171AModel': WHATEVER THE INPUT: true; the input reads as it did. -/
def lawS5171AModelSpec : ChangeSpec := { name := "lawS5171AModel", fn := fun _ => fun
  | [d1, d2, d3, d4] => { results := [.lit (.bool true)], args := [d1, d2, d3, d4] }
  | _ => none }
def lawS5171AModelRow : OpenClaim := { program := "ybulkdcbk", sum := "4004228b82aff8ea7c5464ba5c99c628f7e81035180deeecf979ca9b2df0e91c", func := "example.com/dolevyard/dolevyard/prove.LawS5171AModel", spec := "lawS5171AModel", plainKeys := false, apart := false }
def LawS5171AModelSaid : Prop := lawS5171AModelRow.holds Yba.pinned (OpenSpec.ofChange lawS5171AModelSpec)

/-- ITS FALSE NEIGHBOUR: 'it returns false'. Refute it at one input. -/
def lawS5171AModelWrong : ChangeSpec := { name := "lawS5171AModel", fn := fun _ => fun
  | [d1, d2, d3, d4] => { results := [.lit (.bool false)], args := [d1, d2, d3, d4] }
  | _ => none }
def LawS5171AModelWrongFalsely : Prop := lawS5171AModelRow.holds Yba.pinned (OpenSpec.ofChange lawS5171AModelWrong)

end Rows
end Go.Proofs.Ybulkdcbk
