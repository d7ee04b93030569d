/-
  STORES INTO A GREAT STRUCT (the Scanner: 1053 cells): the world behind each store under a name of its own, what the block holds as a function.
-/
import Derived.Test.YbulkdbsgFmtRows
import Derived.Test.YbulkdbsgFmtMem
import Derived.OpenShut
import Derived.WalkSpells
namespace Go.Proofs.YbulkdbsgFmt
open Go.RowKit
set_option linter.unusedVariables false

/-- Block S is a row of 1053 cells, none frozen; cell i holds f i. -/
structure Cf (w : World) (S : Nat) (f : Nat → Value) : Prop where
  cell : ∀ i, i < 1053 → w.cell? ⟨S, i, none⟩ = some (f i)
  free : ∀ i, w.frozen? ⟨S, i, none⟩ = false

def upd (f : Nat → Value) (i : Nat) (v : Value) : Nat → Value := fun j => if j = i then v else f j

theorem Cf.set {w : World} {S : Nat} {f : Nat → Value} (h : Cf w S f) {i : Nat} (hi : i < 1053) (v : Value) : Cf (w.setCell ⟨S, i, none⟩ v) S (upd f i v) := by
  refine ⟨fun j hj => ?_, fun j => ?_⟩
  · unfold upd
    by_cases e : j = i
    · subst e
      rw [if_pos rfl]; exact World.cell?_setCell_same _ _ _ (h.cell j hj)
    · rw [if_neg e]
      exact (World.cell?_setCell_other _ _ _ _ (fun e' => e (congrArg Addr.off e').symm)).trans (h.cell j hj)
  · simpa using h.free j

theorem Cf.keep {w w' : World} {S : Nat} {f : Nat → Value} (h : Cf w S f) {P : Nat → Prop} (hf : Fr P w w') (hs : ¬ P S) : Cf w' S f := by
  have hl : S < w.heap.size := World.block_lt_of_cell? w _ (h.cell 0 (by decide))
  exact ⟨fun i hi => hf.cell hs (h.cell i hi), fun i => (hf.frozen hs hl).trans (h.free i)⟩

theorem run_storeVar1 {P : Program} {w : World} {ty : TypeId} {ad : Addr} {v u : Value} (h1 : v.oneCell' = true) (hs : (P.info? ty).map (fun i => i.size) = some 1) (hc : w.cell? ad = some u) (hf : w.frozen? ad = false) :
    (storeVar ty ad v).run P w = .ok () (w.setCell ad v) := by
  obtain ⟨i, hi, hz⟩ := Option.map_eq_some_iff.1 hs
  have ha : ad.add 0 = ad := by unfold Addr.add; split <;> simp_all
  have hv : v.cells = #[v] := by cases v <;> first | rfl | cases h1
  simp [storeVar, hv, sizeOf, typeInfo, hi, hz, storeCells, ha]
  cases v <;> first | (simp [store, Sem.run, hc, hf]; done) | cases h1

theorem wpList_store1 {P : Program} {ops : Array Oper} {rest : List Oper} {o : Oper} {a : Act} {Q : Exit → Act → World → Prop} {w : World} (hg : o.guard = none) (ty : TypeId) (p x : Operand) (hop : o.op = Op.store ty p x) (hd : o.dst = none)
    (ad : Addr) (hp : a.eval p = .pointer (some ad)) (v : Value) (hx : a.eval x = v) (h1 : v.oneCell' = true) (hs : (P.info? ty).map (fun i => i.size) = some 1) (u : Value) (hc : w.cell? ad = some u) (hf : w.frozen? ad = false)
    (hK : wpList P ops Q rest a (w.setCell ad v)) : wpList P ops Q (o :: rest) a w := by
  refine wpList_plain hg fun K hK' => ?_
  unfold Oper.wp
  simp [execOp, hop, hp, hx, Instr.storeAt, Instr.sureAddr, run_storeVar1 h1 hs hc hf, Result.andThen, Oper.upon, hd, Act.put]
  exact hK' _ _ hK

/-- A store into the great struct, the world behind it under a name of its own. -/
theorem wpList_storeS {P : Program} {ops : Array Oper} {rest : List Oper} {o : Oper} {a : Act} {Q : Exit → Act → World → Prop} {w : World} (hg : o.guard = none) (ty : TypeId) (p x : Operand) (hop : o.op = Op.store ty p x) (hd : o.dst = none)
    (S i : Nat) (hp : a.eval p = .pointer (some ⟨S, i, none⟩)) (v : Value) (hx : a.eval x = v) (h1 : v.oneCell' = true) (hs : (P.info? ty).map (fun i => i.size) = some 1) (hi : i < 1053) (f : Nat → Value) (w0 : World) (hc : Cf w S f ∧ Fr (fun b => b = S) w0 w)
    (hK : ∀ w', Cf w' S (upd f i v) ∧ Fr (fun b => b = S) w0 w' → wpList P ops Q rest a w') : wpList P ops Q (o :: rest) a w :=
  wpList_store1 hg ty p x hop hd ⟨S, i, none⟩ hp v hx h1 hs _ (hc.1.cell i hi) (hc.1.free i) (hK _ ⟨hc.1.set hi v, hc.2.setCell rfl v⟩)

/-- What Init lays into the struct. -/
def initF (S : Nat) (f : Nat → Value) : Nat → Value :=
  upd (upd (upd (upd (upd (upd (upd (upd (upd (upd (upd (upd (upd (upd (upd (upd f 0 (.iface 66 (.pointer (some ⟨S, 1048, none⟩)))) 1 (.int .u8 128)) 1026 (.int .i64 0)) 1027 (.int .i64 0)) 1028 (.int .i64 0)) 1029 (.int .i64 1)) 1030 (.int .i64 0)) 1031 (.int .i64 0)) 1032 (.int .i64 0)) 1036 (.int .i64 (-1))) 1038 (.int .i32 (-2))) 1039 .nilFunc) 1040 (.int .i64 0)) 1041 (.int .u64 1012)) 1042 (.int .u64 4294977024)) 1046 (.int .i64 0)

set_option maxHeartbeats 400000 in
theorem init_any (S : Nat) (f : Nat → Value) (w : World) (h : Cf w S f) :
  Calls Ybaf.prog 9 #[.pointer (some ⟨S, 0, none⟩), .iface 66 (.pointer (some ⟨S, 1048, none⟩))] w fun e w' => e = .returned (.pointer (some ⟨S, 0, none⟩)) ∧ Cf w' S (initF S f) ∧ Fr (fun b => b = S) w w' := by
  have h0 : Cf w S f ∧ Fr (fun b => b = S) w w := ⟨h, Fr.refl _ _⟩
  clear h
  go_enter Ybaf.func9, Ybaf.ntmps9
  go_wp2_with (refine wpList_storeS rfl _ _ _ rfl rfl S _ rfl _ rfl rfl (by kernel_rfl) (by decide) _ w (by assumption) ?_; clear h0; intro w' h0)
  go_ret
  exact ⟨rfl, h0⟩
end Go.Proofs.YbulkdbsgFmt
