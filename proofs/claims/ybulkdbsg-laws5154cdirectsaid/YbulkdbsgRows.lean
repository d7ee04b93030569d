/-
  No cell of these rows narrows 'for every input' (looked for: loops, veiled, ifaces, maps, wideKeys, modest, calm, conditions, laid).
  DERIVED. THE GIVEN ROWS OF THIS SEAT. 2 by the template 'for every input the law returns true; each argument reads behind the call as it read before'; 0 by the template 'total and deterministic' (their statements: YbulkdbsgTotals.lean).
  GIVEN WITH THE SEED: the statements are not yours to turn. If you find one false, say at which input.
  Laid BY PROGRAM, IN A SANDBOX (cutbox-rows.mjs): the forced cells as the released guide's own fill.sh prints them over the translation 46eb31196850fb44… (all of the seat's roots in one cut). By AI agents, Wed Nov 11 2026. No macro, syntax, notation, axiom, sorry.
-/
import Derived.Test.YbulkdbsgChecked
import GoSem.Claim
import GoSem.ClaimJoined
import GoSem.ClaimMapViews
import Derived.JoinedTies
import Derived.KernelRfl
namespace Go.Proofs.Ybulkdbsg
/- THE CELL 'sum', in the pinned program and in every row, IS THE sha256 OF THE DUMP (.gsa) THAT YbulkdbsgProg.lean LOADS. Nothing in Lean hashes anything: it is a label: what it is worth is what the hold of that sum in a sandbox is worth. -/
noncomputable def Yba.pinned : Pinned := { name := "ybulkdbsg", sum := "46eb31196850fb446337fde1910ddaa47c5f79f188896baf892fa05e79443797", checked := Yba.checked }
namespace Rows
def none {H : Type} : Left H := { results := [], args := [] }

/-- 'sod.LawS5154CAddDrop': WHATEVER THE INPUT: true; the input reads as it did. -/
def lawS5154CAddDropSpec : ChangeSpec := { name := "lawS5154CAddDrop", fn := fun _ => fun
  | [d1, d2, d3, d4] => { results := [.lit (.bool true)], args := [d1, d2, d3, d4] }
  | _ => none }
def lawS5154CAddDropRow : OpenClaim := { program := "ybulkdbsg", sum := "46eb31196850fb446337fde1910ddaa47c5f79f188896baf892fa05e79443797", func := "example.com/nadzor/nadzor/sod.LawS5154CAddDrop", spec := "lawS5154CAddDrop", apart := false }
def LawS5154CAddDropSaid : Prop := lawS5154CAddDropRow.holds Yba.pinned (OpenSpec.ofChange lawS5154CAddDropSpec)

/-- ITS FALSE NEIGHBOUR: 'it returns false'. Refute it at one input. -/
def lawS5154CAddDropWrong : ChangeSpec := { name := "lawS5154CAddDrop", fn := fun _ => fun
  | [d1, d2, d3, d4] => { results := [.lit (.bool false)], args := [d1, d2, d3, d4] }
  | _ => none }
def LawS5154CAddDropWrongFalsely : Prop := lawS5154CAddDropRow.holds Yba.pinned (OpenSpec.ofChange lawS5154CAddDropWrong)

/-- 'sod.LawS5154CDirect': WHATEVER THE INPUT: true; the input reads as it did. -/
def lawS5154CDirectSpec : ChangeSpec := { name := "lawS5154CDirect", fn := fun _ => fun
  | [d1, d2, d3, d4, d5, d6] => { results := [.lit (.bool true)], args := [d1, d2, d3, d4, d5, d6] }
  | _ => none }
def lawS5154CDirectRow : OpenClaim := { program := "ybulkdbsg", sum := "46eb31196850fb446337fde1910ddaa47c5f79f188896baf892fa05e79443797", func := "example.com/nadzor/nadzor/sod.LawS5154CDirect", spec := "lawS5154CDirect", apart := false }
def LawS5154CDirectSaid : Prop := lawS5154CDirectRow.holds Yba.pinned (OpenSpec.ofChange lawS5154CDirectSpec)

/-- ITS FALSE NEIGHBOUR: 'it returns false'. Refute it at one input. -/
def lawS5154CDirectWrong : ChangeSpec := { name := "lawS5154CDirect", fn := fun _ => fun
  | [d1, d2, d3, d4, d5, d6] => { results := [.lit (.bool false)], args := [d1, d2, d3, d4, d5, d6] }
  | _ => none }
def LawS5154CDirectWrongFalsely : Prop := lawS5154CDirectRow.holds Yba.pinned (OpenSpec.ofChange lawS5154CDirectWrong)

end Rows
end Go.Proofs.Ybulkdbsg
