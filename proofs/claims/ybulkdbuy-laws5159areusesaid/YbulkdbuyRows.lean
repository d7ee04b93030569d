/-
  No cell of these rows narrows 'for every input' (looked for: loops, veiled, ifaces, maps, wideKeys, modest, calm, conditions, laid).
  DERIVED. THE GIVEN ROWS OF THIS SEAT. 4 by the template 'for every input the law returns true; each argument reads behind the call as it read before'; 0 by the template 'total and deterministic' (their statements: YbulkdbuyTotals.lean).
  GIVEN WITH THE SEED: the statements are not yours to turn. If you find one false, say at which input.
  Laid BY PROGRAM, IN A SANDBOX (cutbox-rows.mjs): the forced cells as the released guide's own fill.sh prints them over the translation e422b0ec4e17bf2a… (all of the seat's roots in one cut). By AI agents, Wed Nov 11 2026. No macro, syntax, notation, axiom, sorry.
-/
import Derived.Test.YbulkdbuyChecked
import GoSem.Claim
import GoSem.ClaimJoined
import GoSem.ClaimMapViews
import Derived.JoinedTies
import Derived.KernelRfl
namespace Go.Proofs.Ybulkdbuy
/- THE CELL 'sum', in the pinned program and in every row, IS THE sha256 OF THE DUMP (.gsa) THAT YbulkdbuyProg.lean LOADS. Nothing in Lean hashes anything: it is a label: what it is worth is what the hold of that sum in a sandbox is worth. -/
noncomputable def Yba.pinned : Pinned := { name := "ybulkdbuy", sum := "e422b0ec4e17bf2a2508f4bbd71dcef882d608953be044652ab25c2db5399520", checked := Yba.checked }
namespace Rows
def none {H : Type} : Left H := { results := [], args := [] }

/-- 'tidelock.LawS5159AOrder': WHATEVER THE INPUT: true; the input reads as it did. -/
def lawS5159AOrderSpec : ChangeSpec := { name := "lawS5159AOrder", fn := fun _ => fun
  | [d] => { results := [.lit (.bool true)], args := [d] }
  | _ => none }
def lawS5159AOrderRow : OpenClaim := { program := "ybulkdbuy", sum := "e422b0ec4e17bf2a2508f4bbd71dcef882d608953be044652ab25c2db5399520", func := "example.com/tidelock/tidelock.LawS5159AOrder", spec := "lawS5159AOrder", apart := false }
def LawS5159AOrderSaid : Prop := lawS5159AOrderRow.holds Yba.pinned (OpenSpec.ofChange lawS5159AOrderSpec)

/-- ITS FALSE NEIGHBOUR: 'it returns false'. Refute it at one input. -/
def lawS5159AOrderWrong : ChangeSpec := { name := "lawS5159AOrder", fn := fun _ => fun
  | [d] => { results := [.lit (.bool false)], args := [d] }
  | _ => none }
def LawS5159AOrderWrongFalsely : Prop := lawS5159AOrderRow.holds Yba.pinned (OpenSpec.ofChange lawS5159AOrderWrong)

/-- 'tidelock.LawS5159AReuse': WHATEVER THE INPUT: true; the input reads as it did. -/
def lawS5159AReuseSpec : ChangeSpec := { name := "lawS5159AReuse", fn := fun _ => fun
  | [d] => { results := [.lit (.bool true)], args := [d] }
  | _ => none }
def lawS5159AReuseRow : OpenClaim := { program := "ybulkdbuy", sum := "e422b0ec4e17bf2a2508f4bbd71dcef882d608953be044652ab25c2db5399520", func := "example.com/tidelock/tidelock.LawS5159AReuse", spec := "lawS5159AReuse", apart := false }
def LawS5159AReuseSaid : Prop := lawS5159AReuseRow.holds Yba.pinned (OpenSpec.ofChange lawS5159AReuseSpec)

/-- ITS FALSE NEIGHBOUR: 'it returns false'. Refute it at one input. -/
def lawS5159AReuseWrong : ChangeSpec := { name := "lawS5159AReuse", fn := fun _ => fun
  | [d] => { results := [.lit (.bool false)], args := [d] }
  | _ => none }
def LawS5159AReuseWrongFalsely : Prop := lawS5159AReuseRow.holds Yba.pinned (OpenSpec.ofChange lawS5159AReuseWrong)

/-- 'tidelock.LawS5159BHandOff': WHATEVER THE INPUT: true; the input reads as it did. -/
def lawS5159BHandOffSpec : ChangeSpec := { name := "lawS5159BHandOff", fn := fun _ => fun
  | [d1, d2, d3, d4, d5] => { results := [.lit (.bool true)], args := [d1, d2, d3, d4, d5] }
  | _ => none }
def lawS5159BHandOffRow : OpenClaim := { program := "ybulkdbuy", sum := "e422b0ec4e17bf2a2508f4bbd71dcef882d608953be044652ab25c2db5399520", func := "example.com/tidelock/tidelock.LawS5159BHandOff", spec := "lawS5159BHandOff", inPlace := ["sync/atomic.StoreUint64", "sync/atomic.LoadUint32", "sync/atomic.CompareAndSwapUint32", "runtime.Gosched", "sync/atomic.LoadUint64", "sync/atomic.StoreUint32", "sync/atomic.CompareAndSwapUint64"], unfollowed := true, recurses := true, apart := false }
def LawS5159BHandOffSaid : Prop := lawS5159BHandOffRow.holds Yba.pinned (OpenSpec.ofChange lawS5159BHandOffSpec)

/-- ITS FALSE NEIGHBOUR: 'it returns false'. Refute it at one input. -/
def lawS5159BHandOffWrong : ChangeSpec := { name := "lawS5159BHandOff", fn := fun _ => fun
  | [d1, d2, d3, d4, d5] => { results := [.lit (.bool false)], args := [d1, d2, d3, d4, d5] }
  | _ => none }
def LawS5159BHandOffWrongFalsely : Prop := lawS5159BHandOffRow.holds Yba.pinned (OpenSpec.ofChange lawS5159BHandOffWrong)

/-- 'tidelock.LawS5159BOnce': WHATEVER THE INPUT: true; the input reads as it did. -/
def lawS5159BOnceSpec : ChangeSpec := { name := "lawS5159BOnce", fn := fun _ => fun
  | [d] => { results := [.lit (.bool true)], args := [d] }
  | _ => none }
def lawS5159BOnceRow : OpenClaim := { program := "ybulkdbuy", sum := "e422b0ec4e17bf2a2508f4bbd71dcef882d608953be044652ab25c2db5399520", func := "example.com/tidelock/tidelock.LawS5159BOnce", spec := "lawS5159BOnce", inPlace := ["sync/atomic.StoreUint64", "sync/atomic.LoadUint32", "sync/atomic.CompareAndSwapUint32", "runtime.Gosched", "sync/atomic.LoadUint64", "sync/atomic.StoreUint32", "sync/atomic.CompareAndSwapUint64"], unfollowed := true, recurses := true, apart := false }
def LawS5159BOnceSaid : Prop := lawS5159BOnceRow.holds Yba.pinned (OpenSpec.ofChange lawS5159BOnceSpec)

/-- ITS FALSE NEIGHBOUR: 'it returns false'. Refute it at one input. -/
def lawS5159BOnceWrong : ChangeSpec := { name := "lawS5159BOnce", fn := fun _ => fun
  | [d] => { results := [.lit (.bool false)], args := [d] }
  | _ => none }
def LawS5159BOnceWrongFalsely : Prop := lawS5159BOnceRow.holds Yba.pinned (OpenSpec.ofChange lawS5159BOnceWrong)

end Rows
end Go.Proofs.Ybulkdbuy
