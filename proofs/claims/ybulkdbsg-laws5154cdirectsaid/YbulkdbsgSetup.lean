/-
  WHAT BOTH LAWS SET UP: the masks, the profiles over them, the team: as one structure over the world.
-/
import Derived.Test.YbulkdbsgPlain
import Derived.Test.YbulkdbsgTeam
namespace Go.Proofs.Ybulkdbsg
open Go.RowKit
set_option linter.unusedVariables false

structure Setup (w W : World) (L gm G gt nP : Nat) (ms tm : List Int) (PV : List Value) : Prop where
  msc : ∀ i, i < ms.length → W.cell? ⟨gm, i, none⟩ = some (.int .u64 (ms.getD i 0))
  pc : ∀ i, i < ms.length → W.cell? ⟨G, i * 5 + 1, none⟩ = some (PV.getD i undef)
  pl : ∀ i, i < ms.length → W.ownsRow (G + 1) 3 1 (PV.getD i undef) (plOf nP (ms.getD i 0)).length (natCells (plOf nP (ms.getD i 0)))
  plb : ∀ i, i < ms.length → ∀ q, (PV.getD i undef).ownBlock = some q → q < L
  tc : ∀ k, k < tm.length → W.cell? ⟨gt, k, none⟩ = some (.int .i64 (tm.getD k 0))
  gmL : gm < L
  GL : G < L
  gtL : gt < L
  LW : L ≤ W.heap.size
  bel : Below w.heap.size w W
  wL : w.heap.size ≤ L

theorem Setup.keep {w W W' : World} {L gm G gt nP : Nat} {ms tm : List Int} {PV : List Value} (h : Setup w W L gm G gt nP ms tm PV) (hf : Fr (fun k => L ≤ k) W W') : Setup w W' L gm G gt nP ms tm PV where
  msc := fun i hi => hf.cell (by have := h.gmL; simp; omega) (h.msc i hi)
  pc := fun i hi => hf.cell (by have := h.GL; simp; omega) (h.pc i hi)
  pl := fun i hi => hf.owns (h.pl i hi) (fun q hq => by have := h.plb i hi q hq; omega)
  plb := h.plb
  tc := fun k hk => hf.cell (by have := h.gtL; simp; omega) (h.tc k hk)
  gmL := h.gmL
  GL := h.GL
  gtL := h.gtL
  LW := Nat.le_trans h.LW hf.size
  bel := h.bel.trans (hf.below h.bel.size (fun k hk => by have := h.wL; omega))
  wL := h.wL

theorem setup_mk {w W1 W2 W3 : World} {gm cm gt ct nP : Nat} {ms tm : List Int} {PV : List Value}
    (hms : W1.ownsRow w.heap.size 38 1 (.slice (some ⟨gm, 0, none⟩) ms.length cm) ms.length (ms.map (.int .u64))) (bel1 : Below w.heap.size w W1) (hgm : gm < W1.heap.size)
    (hpf : Profs W2 (W1.heap.size + 1) W1.heap.size nP ms PV) (bel2 : Below W1.heap.size W1 W2) (hm : 0 < ms.length)
    (htm : W3.ownsRow W2.heap.size 3 1 (.slice (some ⟨gt, 0, none⟩) tm.length ct) tm.length (tm.map (.int .i64))) (bel3 : Below W2.heap.size W2 W3) (hgt : gt < W3.heap.size) :
    Setup w W3 W3.heap.size gm W1.heap.size gt nP ms tm PV := by
  have s1 := bel1.size
  have s2 := bel2.size
  have s3 := bel3.size
  have hG : W1.heap.size < W2.heap.size := World.block_lt_of_cell? W2 _ (hpf.cells 0 hm)
  refine ⟨fun i hi => ?_, fun i hi => ?_, fun i hi => ?_, fun i hi q hq => ?_, fun k hk => ?_, by omega, by omega, hgt, Nat.le_refl _, ?_, by omega⟩
  · rw [bel3.cell (by simp; omega), bel2.cell (by simp; omega), hms.cellAt i (by omega), ints_at_getD hi]
  · rw [bel3.cell (by simp; omega)]; exact hpf.cells i hi
  · exact (Fr.of_below bel3).owns (hpf.rows i hi) (fun q hq => by have := ((hpf.rows i hi).lt q hq).2; omega)
  · have := ((hpf.rows i hi).lt q hq).2; omega
  · rw [htm.cellAt k (by omega), ints_at_getD hk]
  · exact bel1.trans ((bel2.mono s1).trans (bel3.mono (by omega)))

end Go.Proofs.Ybulkdbsg
