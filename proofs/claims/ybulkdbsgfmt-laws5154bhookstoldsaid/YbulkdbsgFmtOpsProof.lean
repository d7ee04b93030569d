/-
  THE PROOF OF 'Rows.LawS5154BOpsToldSaid': the told card; no road of the law comes to fmt's text.
-/
import Derived.Test.YbulkdbsgFmtCards
import Derived.Test.YbulkdbsgFmtOps
import Derived.ProofKit
import Derived.ShutString
import Derived.ChangeOld
import Derived.Carry
import Derived.Stop.JoinedAt
import Derived.Stop.JoinedTold
import Derived.SevenToldRow
import Derived.Deep.SlicePairs
namespace Go.Proofs.YbulkdbsgFmt
open Go.ChangeShapes Go.WideShapes Go.ChangeAt Go.RowKit Go.Kit
open Go.Extern.Stop Go.Stop Go.Extern
open Go.ChangeMaps (open_string shut_string)
set_option linter.unusedVariables false

theorem Ybaf.own : ownKnob Ybaf.prog.godebug = none := by kernel_rfl
theorem Ybaf.laidOut : laidOutB Ybaf.prog = true := by kernel_rfl
theorem Ybaf.cells28 : Ybaf.prog.cellsOf 28 = 2 := by kernel_rfl
theorem Ybaf.cells5 : Ybaf.prog.cellsOf 5 = 1 := by kernel_rfl

/-- The slice of operators, opened. -/
theorem ops_open {H : Type} {enc : TypeId × Value → H} {W : World} {a : Option Addr} {len cap fuel : Nat} {x : DataW H × List MemPlace} (hf : DataW.trod enc Ybaf.prog W 0 (fun _ => true) true fuel 22 [.slice a len cap] = some x) :
    ∃ b off zA zB, IsOps W a len b off zA zB := by
  rcases Go.Deep.open_slice_pairs Ybaf.underlying22 Ybaf.underlying28 Ybaf.cells28 rfl rfl Ybaf.cells5 Ybaf.cells5 hf with ⟨hcs, _⟩ | ⟨ad, len', cap', m, n, V0, V1, D0, D1, P0, P1, hcs, _, hl, hm, hmm, _, hx⟩
  · simp at hcs
    obtain ⟨rfl, rfl, rfl⟩ := hcs
    exact ⟨0, 0, fun _ => 0, fun _ => 0, fun h => by omega, fun i h => by omega, fun i h => by omega, fun i h => by omega, fun i h => by omega⟩
  · simp at hcs
    obtain ⟨rfl, rfl, rfl⟩ := hcs
    by_cases h0 : len = 0
    · subst h0
      exact ⟨0, 0, fun _ => 0, fun _ => 0, fun h => by omega, fun i h => by omega, fun i h => by omega, fun i h => by omega, fun i h => by omega⟩
    · have hml : len ≤ m := by simp only [if_true] at hmm; omega
      obtain ⟨b, off, spot⟩ := ad
      have hspot : spot = none := by simpa [Addr.add] using World.cell?_spot (hx 0 (by omega)).1
      subst hspot
      have each : ∀ i, i < len → ∃ x y : Int, V0 i = .int .u8 x ∧ V1 i = .int .u8 y ∧ (0 ≤ x ∧ x ≤ 255) ∧ (0 ≤ y ∧ y ≤ 255) := fun i hi => by
        obtain ⟨_, _, t0, t1⟩ := hx i (by omega)
        obtain ⟨x, e0, _, wx⟩ := DataW.trod_int Ybaf.underlying5 t0
        obtain ⟨y, e1, _, wy⟩ := DataW.trod_int Ybaf.underlying5 t1
        simp at e0 e1
        exact ⟨x, y, e0, e1, bounds_u8 wx, bounds_u8 wy⟩
      refine ⟨b, off, fun i => intOf (V0 i), fun i => intOf (V1 i), fun _ => rfl, fun i hi => ?_, fun i hi => ?_, fun i hi => ?_, fun i hi => ?_⟩
      · obtain ⟨x, y, e0, e1, _, _⟩ := each i hi
        have := (hx i (by omega)).1
        rw [Go.WideShapes.add_plain, e0] at this
        rw [this, e0]; rfl
      · obtain ⟨x, y, e0, e1, _, _⟩ := each i hi
        have := (hx i (by omega)).2.1
        rw [Go.WideShapes.add_plain, e1] at this
        rw [Nat.add_assoc, this, e1]; rfl
      · obtain ⟨x, y, e0, e1, hb, _⟩ := each i hi
        simp only [e0]; exact hb
      · obtain ⟨x, y, e0, e1, _, hb⟩ := each i hi
        simp only [e1]; exact hb

set_option maxRecDepth 100000 in
theorem ops_lifted (os : Os) (started : os.Started) (H : Type) (enc : TypeId × Value → H) :
    ReturnsInTold none {} Ybaf.checked os 3 .any Input.okWide ((OpenSpec.ofChange Rows.lawS5154BOpsSpec).preRow enc Ybaf.prog Ybaf.f3 [] false []) (fun F => ((OpenSpec.ofChange Rows.lawS5154BOpsSpec).at F).post enc Ybaf.prog Ybaf.f3 false true false false) (aloneAtReturn Ybaf.prog) nothingAlways := by
  refine returnsInTold_of_row (C := Ybaf.checked) (s := OpenSpec.ofChange Rows.lawS5154BOpsSpec) (by kernel_rfl) Ybaf.own started (by kernel_rfl) Ybaf.func3
    (OpenSpec.witness_stopped (enc := enc) (C := Ybaf.checked) false ⟨#[], #[.slice none 0 0, .string ByteArray.empty], []⟩ 8 (by kernel_rfl) (by kernel_rfl) (by kernel_rfl) (by kernel_rfl)) ?_
  intro F W base args ds gs before _ hF hval0 hW _ _ _ _ _
  have hval : ∀ (j : Nat) t v, Ybaf.f3.params[j]? = some t → args[j]? = some v → Value.okWide Ybaf.prog W .any base t v := hval0
  have hW' := hW
  obtain ⟨p, q, hA0, hV, rfl, hfz, hnd⟩ := hW
  have hA : DataW.TrodAll enc Ybaf.prog W 0 (fun _ => true) true Ybaf.f3.params.toList args.toList ds p := hA0
  rw [Ybaf.params3] at hA hval
  obtain ⟨v0, v1, d0, d1, p0, p1, hargs, rfl, rfl, h0, h1⟩ := trodAll_two hA
  subst hargs
  obtain ⟨rfl, rfl⟩ := trodVars_none hV
  obtain ⟨a0, len, cap, rfl⟩ := okWide_slice Ybaf.underlying22 (hval 0 22 v0 rfl rfl)
  obtain ⟨path, rfl, rfl, rfl, hs⟩ := open_string Ybaf.underlying9 (hval 1 9 v1 rfl rfl) h1
  have k0 := h0
  have lt0 : ∀ x ∈ p0, x.block < W.heap.size := by obtain ⟨m, hm⟩ := k0; exact DataW.trod_lt m _ _ _ hm
  obtain ⟨b, off, zA, zB, hops⟩ : ∃ b off zA zB, IsOps W a0 len b off zA zB := by
    obtain ⟨fuel, hf⟩ := h0
    exact ops_open hf
  clear hA0 hval0
  have hwalk : Calls Ybaf.prog 3 #[.slice a0 len cap, .string path] W fun e w' => e = .returned (.bool true) ∧ Below W.heap.size W w' := by
    by_cases hl : len ≤ 1024
    · exact ops_walk a0 len cap b off zA zB path W hops hl
    · exact ops_long a0 len cap path W (by omega)
  refine hwalk.mono fun e W' ⟨he, bel⟩ => ?_
  subst he
  exact ⟨_, rfl, _, _, _, [], _, [], hW', trodAll_mk1 (shut_bool Ybaf.underlying4 _), (trodAll_cons_mk (Below.trod Ybaf.laidOut (by kernel_rfl) (of_decide_eq_true (by kernel_rfl)) k0 bel lt0) (trodAll_cons_mk (shut_string Ybaf.underlying9 hs) trodAll_mk0)), rfl, bel.frame _, fun h => by cases h⟩

theorem Ybaf.stops : Ybaf.pinned.checked.prog.stops = ["fmt.Sprintf"] := by kernel_rfl
theorem Ybaf.stopKnobs : Ybaf.pinned.checked.prog.stopKnobs = [] := by kernel_rfl
theorem Ybaf.quiet (os : Os) : Stop.quiet Ybaf.pinned.checked.prog os := by
  intro k hk
  rw [Ybaf.stopKnobs] at hk
  cases hk

theorem ops_proved : Rows.LawS5154BOpsToldSaid :=
  Claim7.holds_of_told_any (c := Rows.lawS5154BOpsRow) 3 Ybaf.f3 "fmt.Sprintf" [] [] _ _ _ (by kernel_rfl) rfl rfl rfl (by kernel_rfl) (by kernel_rfl) rfl ⟨rfl, rfl, rfl, rfl, rfl, rfl, rfl⟩ rfl rfl (by kernel_rfl) (by kernel_rfl) Ybaf.func3 (by kernel_rfl)
    (of_decide_eq_true (by kernel_rfl)) (of_decide_eq_true (by kernel_rfl)) Ybaf.stops.symm rfl Ybaf.stopKnobs.symm (by kernel_rfl)
    (by kernel_rfl) (by kernel_rfl) (by kernel_rfl) (by kernel_rfl) (by kernel_rfl) (by kernel_rfl) (by kernel_rfl) (by kernel_rfl) (by kernel_rfl) rfl (by kernel_rfl) rfl rfl
    rfl rfl
    rfl (by kernel_rfl) (by kernel_rfl) (by kernel_rfl) (by decide) (by kernel_rfl)
    (OpenClaim.moreEntering_of (by kernel_rfl) (by kernel_rfl) (by kernel_rfl) (by kernel_rfl) (by kernel_rfl) (by kernel_rfl) (by kernel_rfl) (by kernel_rfl) (by kernel_rfl) (by kernel_rfl))
    ⟨_, WideRow.started_initial, Ybaf.quiet _⟩
    (fun os started _ H enc _ => ops_lifted os started H enc)

#print axioms ops_proved
end Go.Proofs.YbulkdbsgFmt
