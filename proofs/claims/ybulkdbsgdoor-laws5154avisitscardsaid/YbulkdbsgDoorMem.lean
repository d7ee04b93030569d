/-
  GENERAL: frames over worlds ('Fr P w w'': blocks that were there and are not in P are as they were), and small laws on owned rows. No Go text in sight.
-/
import Derived.WalkKit
import Derived.ProofKit
import Derived.Below
import Derived.Deep.Draws
import Derived.Laws.Cover3
namespace Go.Proofs.YbulkdbsgDoor
open Go.RowKit

structure Fr (P : Nat → Prop) (w w' : World) : Prop where
  os : w'.os = w.os
  tape : w'.tape = w.tape
  output : w'.output = w.output
  size : w.heap.size ≤ w'.heap.size
  block : ∀ k, k < w.heap.size → ¬ P k → w'.heap[k]? = w.heap[k]?

theorem Fr.refl (P : Nat → Prop) (w : World) : Fr P w w := ⟨rfl, rfl, rfl, Nat.le_refl _, fun _ _ _ => rfl⟩

theorem Fr.trans {P : Nat → Prop} {a b c : World} (h : Fr P a b) (k : Fr P b c) : Fr P a c :=
  ⟨k.os.trans h.os, k.tape.trans h.tape, k.output.trans h.output, Nat.le_trans h.size k.size, fun i hi hp => (k.block i (Nat.lt_of_lt_of_le hi h.size) hp).trans (h.block i hi hp)⟩

theorem Fr.mono {P Q : Nat → Prop} {w w' : World} (h : Fr P w w') (hq : ∀ k, k < w.heap.size → P k → Q k) : Fr Q w w' :=
  ⟨h.os, h.tape, h.output, h.size, fun k hk hn => h.block k hk (fun hp => hn (hq k hk hp))⟩

theorem Fr.alloc {P : Nat → Prop} {a w : World} (h : Fr P a w) (o : Obj) : Fr P a (w.alloc o) :=
  h.trans ⟨rfl, rfl, rfl, by simp, fun k hk _ => Below.heap_alloc _ _ _ hk⟩

theorem Fr.drew {P : Nat → Prop} {a w : World} (h : Fr P a w) : Fr P a w.drew := ⟨h.os, h.tape, h.output, h.size, h.block⟩
theorem Fr.drewN {P : Nat → Prop} {a w : World} (h : Fr P a w) (n : Nat) : Fr P a (w.drewN n) := ⟨h.os, h.tape, h.output, h.size, h.block⟩

theorem Fr.setCell {P : Nat → Prop} {a w : World} (h : Fr P a w) {p : Addr} (hp : P p.block) (u : Value) : Fr P a (w.setCell p u) :=
  h.trans ⟨rfl, rfl, rfl, by simp [World.setCell], fun k _ hn => Below.heap_setCell _ _ _ _ (fun e => hn (e ▸ hp))⟩

/-- A store into a block that is new since 'a'. -/
theorem Fr.setNew {P : Nat → Prop} {a w : World} (h : Fr P a w) {p : Addr} (hp : a.heap.size ≤ p.block) (u : Value) : Fr P a (w.setCell p u) :=
  ⟨h.os, h.tape, h.output, by have := h.size; simpa [World.setCell] using this, fun k hk hn => by
    rw [Below.heap_setCell _ _ _ _ (by omega)]; exact h.block k hk hn⟩

theorem Fr.grown {P : Nat → Prop} {a w w' : World} {row : Option Nat} (h : Fr P a w) (hg : w.grownBy w' row) (hr : ∀ k, row = some k → k < a.heap.size → P k) : Fr P a w' :=
  ⟨hg.os.trans h.os, hg.tape.trans h.tape, hg.output.trans h.output, Nat.le_trans h.size hg.size, fun k hk hn => by
    rw [hg.block k (Nat.lt_of_lt_of_le hk h.size) (fun e => hn (hr k e.symm hk))]; exact h.block k hk hn⟩

theorem Fr.below {P : Nat → Prop} {w w' : World} (h : Fr P w w') {B : Nat} (hB : B ≤ w.heap.size) (hp : ∀ k, P k → B ≤ k) : Below B w w' :=
  ⟨h.os, h.tape, h.output, h.size, fun k hk => h.block k (by omega) (fun e => by have := hp k e; omega)⟩

theorem Fr.of_below {w w' : World} {B : Nat} (h : Below B w w') : Fr (fun k => B ≤ k) w w' :=
  ⟨h.os, h.tape, h.output, h.size, fun k _ hn => h.block k (by omega)⟩

theorem Fr.heap {P : Nat → Prop} {w w' : World} (h : Fr P w w') {b : Nat} (hb : ¬ P b) {o : Obj} (ho : w.heap[b]? = some o) : w'.heap[b]? = some o :=
  (h.block b (lt_of_block ho) hb).trans ho

theorem Fr.cell {P : Nat → Prop} {w w' : World} (h : Fr P w w') {p : Addr} (hb : ¬ P p.block) {v : Value} (hc : w.cell? p = some v) : w'.cell? p = some v :=
  (World.cell?_of_block (h.block p.block (World.block_lt_of_cell? w p hc) hb)).trans hc

theorem Fr.frozen {P : Nat → Prop} {w w' : World} (h : Fr P w w') {p : Addr} (hb : ¬ P p.block) (hl : p.block < w.heap.size) : w'.frozen? p = w.frozen? p :=
  World.frozen?_of_block (h.block p.block hl hb)

theorem Fr.owns {P : Nat → Prop} {w w' : World} (h : Fr P w w') {base : Nat} {e : TypeId} {size : Nat} {v : Value} {n : Nat} {xs : List Value} (ho : w.ownsRow base e size v n xs)
    (hb : ∀ k, v.ownBlock = some k → ¬ P k) : w'.ownsRow base e size v n xs := by
  refine ⟨ho.1, ?_⟩
  rcases ho.2 with hn | ⟨g, cap, cur, rfl, hbb, hgg, rest⟩
  · exact .inl hn
  · exact .inr ⟨g, cap, cur, rfl, hbb, h.heap (hb g rfl) hgg, rest⟩

theorem owns_base {w : World} {base base' : Nat} {e : TypeId} {size : Nat} {v : Value} {n : Nat} {xs : List Value} (ho : w.ownsRow base e size v n xs)
    (hb : ∀ k, v.ownBlock = some k → base' ≤ k) : w.ownsRow base' e size v n xs := by
  refine ⟨ho.1, ?_⟩
  rcases ho.2 with hn | ⟨g, cap, cur, rfl, hbb, hgg, rest⟩
  · exact .inl hn
  · exact .inr ⟨g, cap, cur, rfl, hb g rfl, hgg, rest⟩

/-- The view of an owned row of one-cell elements: its address (whatever where it is empty), its cells. -/
theorem owns_view {w : World} {base : Nat} {e : TypeId} {v : Value} {n : Nat} {xs : List Value} (ho : w.ownsRow base e 1 v n xs) :
    ∃ ao cap g, v = .slice ao n cap ∧ (0 < n → ao = some ⟨g, 0, none⟩ ∧ base ≤ g ∧ v.ownBlock = some g) ∧ n ≤ cap ∧ (∀ i, i < n → w.cell? ⟨g, i, none⟩ = xs[i]?) ∧ (0 < n → ∀ i, w.frozen? ⟨g, i, none⟩ = false) := by
  rcases ho.2 with ⟨rfl, rfl⟩ | ⟨g, cap, cur, rfl, hbb, hgg, hnc, hcm, hcs, htake⟩
  · exact ⟨none, 0, 0, rfl, fun h => by omega, Nat.le_refl _, fun i hi => by omega, fun h => by omega⟩
  · exact ⟨some ⟨g, 0, none⟩, cap, g, rfl, fun _ => ⟨rfl, hbb, rfl⟩, hnc, fun i hi => ho.cellAt i (by omega), fun _ i => ho.frozenAt i⟩

theorem owns_pos {w : World} {base : Nat} {e : TypeId} {size : Nat} {v : Value} {n : Nat} {xs : List Value} (ho : w.ownsRow base e size v n xs) (hn : 0 < n) :
    ∃ g cap, v = .slice (some ⟨g, 0, none⟩) n cap ∧ base ≤ g ∧ n ≤ cap ∧ g < w.heap.size := by
  rcases ho.2 with ⟨rfl, rfl⟩ | ⟨g, cap, cur, rfl, hbb, hgg, hnc, hcm, hcs, htake⟩
  · omega
  · exact ⟨g, cap, rfl, hbb, hnc, lt_of_block hgg⟩

theorem ints_at_getD {k : IntKind} {xs : List Int} {i : Nat} (h : i < xs.length) : (xs.map (Value.int k))[i]? = some (.int k (xs.getD i 0)) := by
  simp [List.getD, h]

theorem addr_add_block (a : Addr) (i : Nat) : (a.add i).block = a.block := by
  unfold Addr.add; split <;> simp_all

theorem cells_of_ints {w w' : World} {k : IntKind} {a : Addr} {n : Nat} {xs : List Int} (hl : xs.length = n) (h : ∀ i, i < n → w.cell? (a.add i) = some (.int k (xs.getD i 0)))
    (hw : ∀ i, i < n → w'.cell? (a.add i) = w.cell? (a.add i)) : ∀ j u, (xs.map (Value.int k))[j]? = some u → w'.cell? (a.add j) = some u := by
  intro j u hj
  have hlt : j < n := by have := (List.getElem?_eq_some_iff.1 hj).1; simpa [hl] using this
  rw [hw j hlt, h j hlt]
  rw [ints_at_getD (by omega)] at hj; exact hj

theorem run_eql_slice_nil {P : Program} (w : World) (t e : TypeId) (a : Option Addr) (l c : Nat) (h : P.underlying t = some (.slice e)) : (binOp .eql t (.slice a l c) (.slice none 0 0)).run P w = .ok (.bool a.isNone) w := by
  simp only [binOp]
  simp [run_equal_slice_nil w t e a l c h]

/-- The one cell that 'append(s, x)' lays for x. -/
theorem one_news {w : World} {u : Value} {e : TypeId} : ∀ j x, [u][j]? = some x → (w.alloc (.cells #[u] e)).cell? ((⟨w.heap.size, 0, none⟩ : Addr).add j) = some x := by
  intro j x hj
  match j, hj with
  | 0, hj => simp at hj; subst hj; simp [Addr.add]

theorem cells_of_block {w : World} {b : Nat} {cs : Array Value} {t : TypeId} (h : w.heap[b]? = some (.cells cs t (0, 0))) (i : Nat) : w.cell? ⟨b, i, none⟩ = cs[i]? := by simp [World.cell?, h]
theorem free_of_block {w : World} {b : Nat} {cs : Array Value} {t : TypeId} (h : w.heap[b]? = some (.cells cs t (0, 0))) (i : Nat) : w.frozen? ⟨b, i, none⟩ = false := by simp [World.frozen?, h]

end Go.Proofs.YbulkdbsgDoor
