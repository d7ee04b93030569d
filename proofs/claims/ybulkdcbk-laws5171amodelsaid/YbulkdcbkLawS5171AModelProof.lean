/-
  THE PROOF OF 'Rows.LawS5171AModelSaid': the guide's way at this function; the walk lies in YbulkdcbkWalk.
-/
import Derived.Test.YbulkdcbkRows
import Derived.Test.YbulkdcbkWalk
import Derived.WalkKit
import Derived.ProofKit
import Derived.OpenShut
import Derived.ShutString
import Derived.ChangeOld
import Derived.Below
import Derived.Deep.Slices
namespace Go.Proofs.Ybulkdcbk.lawS5171AModel
open Go.ChangeShapes Go.WideShapes Go.ChangeAt Go.RowKit Go.Deep
set_option linter.unusedVariables false

theorem own : ownKnob Yba.prog.godebug = none := by kernel_rfl
theorem laidOut : laidOutB Yba.prog = true := by kernel_rfl
theorem cells36 : Yba.prog.cellsOf 36 = 4 := by kernel_rfl
theorem cells5 : Yba.prog.cellsOf 5 = 1 := by kernel_rfl
theorem cells3 : Yba.prog.cellsOf 3 = 1 := by kernel_rfl
theorem cells4 : Yba.prog.cellsOf 4 = 1 := by kernel_rfl

theorem list4 {α : Type} {l : List α} (h : l.length = 4) : ∃ a b c d, l = [a, b, c, d] := by
  match l, h with
  | [a, b, c, d], _ => exact ⟨a, b, c, d, rfl⟩

/-- The obligations that came in, opened at every index. -/
theorem open_obs {H : Type} {enc : TypeId × Value → H} {w : World} {fuel : Nat} {a1 : Option Addr} {len cap : Nat} {x : DataW H × List MemPlace}
    (h : DataW.trod enc Yba.prog w 0 (fun _ => true) true fuel 23 [.slice a1 len cap] = some x) :
    ∃ (xb xo : Nat) (oK oB : Nat → Int) (oS : Nat → Bool) (oT : Nat → Int), (0 < len → a1 = some ⟨xb, xo, none⟩) ∧ ObsAt w xb xo len oK oB oS oT := by
  rcases open_slice Yba.underlying23 h with ⟨hcs, _⟩ | ⟨a, l, c, m, n, D, Pl, hcs, hb, hl, hm, hmm, rfl, hx⟩
  · simp at hcs
    obtain ⟨rfl, rfl, rfl⟩ := hcs
    exact ⟨0, 0, fun _ => 0, fun _ => 0, fun _ => false, fun _ => 0, fun h => by omega, fun j hj => by omega⟩
  · simp at hcs
    obtain ⟨rfl, rfl, rfl⟩ := hcs
    have hlm : len ≤ m := by rw [hmm]; simpa using hl
    have each : ∀ i, i < m → ∃ q : Int × Int × Bool × Int, w.cell? (a.add (i * 4)) = some (.int .u8 q.1) ∧ w.cell? (a.add (i * 4 + 1)) = some (.int .i64 q.2.1) ∧ w.cell? (a.add (i * 4 + 2)) = some (.bool q.2.2.1) ∧ w.cell? (a.add (i * 4 + 3)) = some (.int .u8 q.2.2.2) ∧
        (Lit.int .u8 q.1).wf = true ∧ (Lit.int .i64 q.2.1).wf = true ∧ (Lit.int .u8 q.2.2.2).wf = true := by
      intro i hi
      obtain ⟨cs', h1, h2⟩ := hx i hi
      rw [cells36] at h1
      obtain ⟨_, hlen, hcell⟩ := World.cells?_some h1
      obtain ⟨xs, k, hk, hxy, _, hxl, hf⟩ := DataW.trod_struct Yba.underlying36 h2
      obtain ⟨y0, y1, y2, y3, rfl⟩ := list4 (l := xs) (by simpa using hxl)
      obtain ⟨v0, v1, v2, v3, rfl⟩ := list4 hlen
      have g0 := hf 0 _ rfl
      have g1 := hf 1 _ rfl
      have g2 := hf 2 _ rfl
      have g3 := hf 3 _ rfl
      simp [cells5, cells3, cells4] at g0 g1 g2 g3
      have e0 := hcell 0 (by omega)
      have e1 := hcell 1 (by omega)
      have e2 := hcell 2 (by omega)
      have e3 := hcell 3 (by omega)
      rw [add_add] at e0 e1 e2 e3
      obtain ⟨n0, p0, _, q0⟩ := DataW.trod_int Yba.underlying5 g0
      obtain ⟨n1, p1, _, q1⟩ := DataW.trod_int Yba.underlying3 g1
      obtain ⟨n2, p2, _⟩ := DataW.trod_bool Yba.underlying4 g2
      obtain ⟨n3, p3, _, q3⟩ := DataW.trod_int Yba.underlying5 g3
      simp at p0 p1 p2 p3
      subst p0 p1 p2 p3
      exact ⟨(n0, n1, n2, n3), by simpa using e0, by simpa using e1, by simpa using e2, by simpa using e3, q0, q1, q3⟩
    obtain ⟨q, hq⟩ := choose_lt each
    obtain ⟨b, off, spot⟩ := a
    rcases Nat.eq_zero_or_pos len with h0 | h0
    · exact ⟨0, 0, fun _ => 0, fun _ => 0, fun _ => false, fun _ => 0, fun h => by omega, fun j hj => by omega⟩
    · have hspot : spot = none := by simpa [Addr.add] using World.cell?_spot (hq 0 (by omega)).1
      subst hspot
      refine ⟨b, off, fun i => (q i).1, fun i => (q i).2.1, fun i => (q i).2.2.1, fun i => (q i).2.2.2, fun _ => rfl, fun j hj => ?_⟩
      obtain ⟨r0, r1, r2, r3, r4, r5, r6⟩ := hq j (by omega)
      rw [Addr.add_lit] at r0 r1 r2 r3
      exact ⟨r0, r1, r2, r3, r4, r5, r6⟩

set_option maxRecDepth 100000 in
theorem lifted (os : Os) (started : os.Started) (H : Type) (enc : TypeId × Value → H) :
    ReturnsInHanded {} Yba.checked os 3 .any (Rows.lawS5171AModelSpec.pre6 enc Yba.prog Yba.f3 Rows.lawS5171AModelRow.domain false) (Rows.lawS5171AModelSpec.post enc Yba.prog Yba.f3 false true false false) := by
  refine returnsInHanded_of_change (C := Yba.checked) own started (by kernel_rfl) Yba.func3
    (ChangeSpec.witness6 (enc := enc) (C := Yba.checked) false ⟨#[], #[.slice none 0 0, .slice none 0 0, .int .u8 0, .int .i64 0], []⟩ 8 (by kernel_rfl) (by kernel_rfl) (by kernel_rfl) (by kernel_rfl)) ?_
  intro W base args ds gs before hval0 hW hcnd _
  have hval : ∀ (j : Nat) t v, Yba.f3.params[j]? = some t → args[j]? = some v → Value.okWide Yba.prog W .any base t v := hval0
  have hW' := hW
  obtain ⟨p, q, hA0, hV, rfl, hfz, hnd⟩ := hW
  have hA : DataW.TrodAll enc Yba.prog W 0 (fun _ => true) true Yba.f3.params.toList args.toList ds p := hA0
  rw [Yba.params3] at hA hval
  obtain ⟨v0, vs0, d0, ds0, p0, q0, hargs, rfl, rfl, h0, r0⟩ := trodAll_cons hA
  obtain ⟨v1, vs1, d1, ds1, p1, q1, rfl, rfl, rfl, h1, r1⟩ := trodAll_cons r0
  obtain ⟨v2, vs2, d2, ds2, p2, q2, rfl, rfl, rfl, h2, r2⟩ := trodAll_cons r1
  obtain ⟨v3, vs3, d3, ds3, p3, q3, rfl, rfl, rfl, h3, r3⟩ := trodAll_cons r2
  obtain ⟨rfl, rfl, rfl⟩ := trodAll_nil r3
  obtain rfl : args = #[v0, v1, v2, v3] := by cases args; simp_all
  obtain ⟨rfl, rfl⟩ := trodVars_none hV
  obtain ⟨a0, len0, cap0, rfl⟩ := okWide_slice Yba.underlying22 (hval 0 22 v0 rfl rfl)
  obtain ⟨a1, len1, cap1, rfl⟩ := okWide_slice Yba.underlying23 (hval 1 23 v1 rfl rfl)
  have k0 := h0
  have k1 := h1
  have k2 := h2
  have k3 := h3
  have lt0 : ∀ x ∈ p0, x.block < W.heap.size := by obtain ⟨m, hm⟩ := k0; exact DataW.trod_lt m _ _ _ hm
  have lt1 : ∀ x ∈ p1, x.block < W.heap.size := by obtain ⟨m, hm⟩ := k1; exact DataW.trod_lt m _ _ _ hm
  have lt2 : ∀ x ∈ p2, x.block < W.heap.size := by obtain ⟨m, hm⟩ := k2; exact DataW.trod_lt m _ _ _ hm
  have lt3 : ∀ x ∈ p3, x.block < W.heap.size := by obtain ⟨m, hm⟩ := k3; exact DataW.trod_lt m _ _ _ hm
  obtain ⟨z0, w0⟩ : ∃ zs, IsRow .u8 W a0 len0 cap0 zs := by
    obtain ⟨fuel, hf⟩ := h0
    rcases open_ints Yba.underlying22 Yba.underlying5 (by kernel_rfl) hf with ⟨hcs, _⟩ | ⟨x, l, c, zs, hcs, _, hl, hm, hz, _, hcell, hwz⟩
    · simp [Value.cells] at hcs
      obtain ⟨rfl, rfl, rfl⟩ := hcs
      exact ⟨[], .inl ⟨rfl, rfl, rfl, rfl⟩⟩
    · simp [Value.cells] at hcs
      obtain ⟨rfl, rfl, rfl⟩ := hcs
      exact ⟨zs, .inr ⟨_, rfl, hl, hm, by simpa using hz, hcell, hwz⟩⟩
  obtain ⟨xb, xo, oK, oB, oS, oT, ha1, hob⟩ : ∃ (xb xo : Nat) (oK oB : Nat → Int) (oS : Nat → Bool) (oT : Nat → Int), (0 < len1 → a1 = some ⟨xb, xo, none⟩) ∧ ObsAt W xb xo len1 oK oB oS oT := by
    obtain ⟨fuel, hf⟩ := h1
    exact open_obs hf
  obtain ⟨n2, rfl, rfl, rfl, hn2⟩ := open_int Yba.underlying5 (hval 2 5 v2 rfl rfl) h2
  obtain ⟨n3, rfl, rfl, rfl, hn3⟩ := open_int Yba.underlying3 (hval 3 3 v3 rfl rfl) h3
  clear hA0 hval0
  refine (walk a0 a1 len0 cap0 len1 cap1 n2 n3 W z0 w0 xb xo oK oB oS oT ha1 hob (bounds_u8 hn2)).mono fun e W' ⟨he, bel⟩ => ?_
  subst he
  exact ⟨_, rfl, _, _, _, [], _, [], hW', trodAll_mk1 (shut_bool Yba.underlying4 _), (trodAll_cons_mk (Below.trod laidOut (by kernel_rfl) (of_decide_eq_true (by kernel_rfl)) k0 bel lt0) (trodAll_cons_mk (Below.trod laidOut (by kernel_rfl) (of_decide_eq_true (by kernel_rfl)) k1 bel lt1) (trodAll_cons_mk (Below.trod laidOut (by kernel_rfl) (of_decide_eq_true (by kernel_rfl)) k2 bel lt2) (trodAll_cons_mk (Below.trod laidOut (by kernel_rfl) (of_decide_eq_true (by kernel_rfl)) k3 bel lt3) trodAll_mk0)))), rfl, bel.frame _, fun h => by cases h⟩

theorem over : Rows.lawS5171AModelRow.holds Yba.pinned (OpenSpec.ofChange Rows.lawS5171AModelSpec) :=
  OpenClaim.holds_of_wide 3 Yba.f3 rfl rfl rfl rfl rfl rfl rfl ⟨rfl, rfl, rfl, rfl, rfl⟩ rfl rfl rfl rfl rfl (by kernel_rfl) Yba.func3 (by kernel_rfl)
    (of_decide_eq_true (by kernel_rfl)) (by unfold Func.isWrapper; first | (rw [if_pos (by decide +kernel)]; kernel_rfl) | (rw [if_neg (by decide +kernel)]; exact ⟨rfl, rfl⟩))
    (fun os started H enc _ => lifted os started H enc)

/-- ████ THE STATEMENT ████ -/
theorem proved : Rows.LawS5171AModelSaid := over
#print axioms proved
end Go.Proofs.Ybulkdcbk.lawS5171AModel
