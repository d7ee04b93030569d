/-
  THE PROOF OF 'Rows.LawS5154AVisitsSaid' (the row) and of 'Rows.LawS5154AVisitsCardSaid' (the card).
-/
import Derived.Test.YbulkdbsgDoorRows
import Derived.Test.YbulkdbsgDoorLaw
import Derived.Test.YbulkdbsgDoorCards
import Derived.Test.YbulkdbsgDoorTie
import Derived.SevenTiedAt
import Derived.WalkKit
import Derived.ProofKit
import Derived.LaidMore
import Derived.OpenShut
import Derived.Stop.Joined
import Derived.ShutString
import Derived.ChangeOld
import Derived.Below
import Derived.Deep.Slices
namespace Go.Proofs.YbulkdbsgDoor.lawS5154AVisits
open Go.ChangeShapes Go.WideShapes Go.ChangeAt Go.RowKit Go.Deep Go.WideMaps Go.WideElems
set_option linter.unusedVariables false

theorem own : ownKnob Ybad.prog.godebug = none := by kernel_rfl
theorem laidOut : laidOutB Ybad.prog = true := by kernel_rfl
theorem gTab : Ybad.prog.globalNamed "math/bits.deBruijn64tab" = some 1 := by kernel_rfl
theorem tTab : (Ybad.prog.globals[1]?).map (·.type) = some 73 := by kernel_rfl
theorem cells40 : Ybad.prog.cellsOf 40 = 5 := by kernel_rfl
theorem cells5 : Ybad.prog.cellsOf 5 = 1 := by kernel_rfl
theorem cells4 : Ybad.prog.cellsOf 4 = 1 := by kernel_rfl

abbrev laid1 : List (String × DataW Unit) := [("math/bits.deBruijn64tab", Rows.laid_math_bits_deBruijn64tab)]

theorem door_met (os : Os) (args : Array Value) : laidMetH Ybad.prog laid1 ((World.doorLaid Ybad.prog 400 os).forCall (fun _ _ => 0) ⟨#[], args, []⟩).memory :=
  laidMetH_of_parts3 (fuel := 8) (laidMet_of_run' 8 (by kernel_rfl) (by kernel_rfl)) (by kernel_rfl) (by kernel_rfl)

theorem laid_at : ∀ j, j < 64 → (tab.map fun n => (DataW.lit (.int .u8 (n : Nat)) : DataW Unit))[j]? = some (.lit (.int .u8 (tab.getD j 0 : Nat))) := by
  intro j hj
  have hl : tab.length = 64 := rfl
  simp [List.getD, hl, hj]
theorem laid_tab : (Rows.laid_math_bits_deBruijn64tab : DataW Unit) = .agg (tab.map fun n => .lit (.int .u8 (n : Nat))) := rfl

theorem of_laid {W : World} (h : laidMetH Ybad.prog laid1 W) : ∀ j, j < 64 → W.cell? ⟨1, j, none⟩ = some (.int .u8 (tab.getD j 0 : Nat)) := by
  rw [MakeChecks.laidMetH_plain _ _ _ (by kernel_rfl)] at h
  obtain ⟨ps, ⟨g0, t0, cs0, f0, p0, q0, hg0, ht0, hv0, hd0, _, _⟩, _, _⟩ := h
  obtain rfl := Option.some.inj (gTab.symm.trans hg0)
  obtain rfl := Option.some.inj (tTab.symm.trans ht0)
  obtain ⟨xs, m1, rfl, hx1, hlen, hn, hel⟩ := DataW.trod_array Ybad.underlying73 hd0
  intro j hj
  have h0 := hel j hj
  obtain ⟨y, hy⟩ : ∃ y, xs[j]? = some y := ⟨xs[j]'(by omega), by simp⟩
  rw [hy, cells5, Nat.mul_one] at h0
  obtain ⟨k, e1, e2, _⟩ := DataW.trod_int Ybad.underlying5 h0
  simp only [Prod.mk.injEq] at hx1
  have hx2 := hx1.1
  rw [laid_tab] at hx2
  simp only [DataW.agg.injEq] at hx2
  have h3 := laid_at j hj
  rw [hx2] at h3
  simp only [List.getElem?_map, hy, Option.map_some, Option.some.injEq] at h3
  rw [e2] at h3
  simp at h3
  have hc := World.var?_cell hg0 hv0 j
  have h4 : cs0[j]? = some (.int .u8 k) := by
    have : (cs0.toList.drop j)[0]? = some (.int .u8 k) := by
      have h5 : ((cs0.toList.drop j).take 1)[0]? = some (.int .u8 k) := by rw [e1]; rfl
      simpa using h5
    simpa using this
  rw [h4] at hc
  rw [hc, h3]
  rfl

theorem list5 {α : Type} {l : List α} (h : l.length = 5) : ∃ a b c d e, l = [a, b, c, d, e] := by
  match l, h with
  | [a, b, c, d, e], _ => exact ⟨a, b, c, d, e, rfl⟩

theorem u8_nat {n : Int} (h : (Lit.int .u8 n).wf = true) : ((n.toNat : Nat) : Int) = n ∧ n.toNat ≤ 255 := by
  have := bounds_u8 h
  omega

/-- The rules that came in, opened at every index. -/
theorem open_rules {H : Type} {enc : TypeId × Value → H} {w : World} {fuel : Nat} {a1 : Option Addr} {len cap : Nat} {x : DataW H × List MemPlace}
    (h : DataW.trod enc Ybad.prog w 0 (fun _ => true) true fuel 22 [.slice a1 len cap] = some x) :
    ∃ (xb xo : Nat) (y : Nat → InR), (0 < len → a1 = some ⟨xb, xo, none⟩) ∧ RIn w xb xo len y := by
  have empty : ∀ y : Nat → InR, len = 0 → RIn w 0 0 len y := fun y h0 => ⟨fun j hj => by omega, fun j hj => by omega, fun j hj => by omega, fun j hj => by omega, fun j hj => by omega, fun j hj => by omega⟩
  rcases open_slice Ybad.underlying22 h with ⟨hcs, _⟩ | ⟨a, l, c, m, n, D, Pl, hcs, hb, hl, hm, hmm, rfl, hx⟩
  · simp at hcs
    obtain ⟨rfl, rfl, rfl⟩ := hcs
    exact ⟨0, 0, fun _ => ⟨false, 0, 0, 0, 0⟩, fun h => by omega, empty _ rfl⟩
  · simp at hcs
    obtain ⟨rfl, rfl, rfl⟩ := hcs
    have hlm : len ≤ m := by rw [hmm]; simpa using hl
    have each : ∀ i, i < m → ∃ q : Bool × Int × Int × Int × Int, w.cell? (a.add (i * 5)) = some (.bool q.1) ∧ w.cell? (a.add (i * 5 + 1)) = some (.int .u8 q.2.1) ∧ w.cell? (a.add (i * 5 + 2)) = some (.int .u8 q.2.2.1) ∧ w.cell? (a.add (i * 5 + 3)) = some (.int .u8 q.2.2.2.1) ∧ w.cell? (a.add (i * 5 + 4)) = some (.int .u8 q.2.2.2.2) ∧
        (Lit.int .u8 q.2.1).wf = true ∧ (Lit.int .u8 q.2.2.1).wf = true ∧ (Lit.int .u8 q.2.2.2.1).wf = true ∧ (Lit.int .u8 q.2.2.2.2).wf = true := by
      intro i hi
      obtain ⟨cs', h1, h2⟩ := hx i hi
      rw [cells40] at h1
      obtain ⟨_, hlen, hcell⟩ := World.cells?_some h1
      obtain ⟨xs, k, hk, hxy, _, hxl, hf⟩ := DataW.trod_struct Ybad.underlying40 h2
      obtain ⟨y0, y1, y2, y3, y4, rfl⟩ := list5 (l := xs) (by simpa using hxl)
      obtain ⟨v0, v1, v2, v3, v4, rfl⟩ := list5 hlen
      have g0 := hf 0 _ rfl
      have g1 := hf 1 _ rfl
      have g2 := hf 2 _ rfl
      have g3 := hf 3 _ rfl
      have g4 := hf 4 _ rfl
      simp [cells5, cells4] at g0 g1 g2 g3 g4
      have e0 := hcell 0 (by omega)
      have e1 := hcell 1 (by omega)
      have e2 := hcell 2 (by omega)
      have e3 := hcell 3 (by omega)
      have e4 := hcell 4 (by omega)
      rw [add_add] at e0 e1 e2 e3 e4
      obtain ⟨n0, p0, _⟩ := DataW.trod_bool Ybad.underlying4 g0
      obtain ⟨n1, p1, _, q1⟩ := DataW.trod_int Ybad.underlying5 g1
      obtain ⟨n2, p2, _, q2⟩ := DataW.trod_int Ybad.underlying5 g2
      obtain ⟨n3, p3, _, q3⟩ := DataW.trod_int Ybad.underlying5 g3
      obtain ⟨n4, p4, _, q4⟩ := DataW.trod_int Ybad.underlying5 g4
      simp at p0 p1 p2 p3 p4
      subst p0 p1 p2 p3 p4
      exact ⟨(n0, n1, n2, n3, n4), by simpa using e0, by simpa using e1, by simpa using e2, by simpa using e3, by simpa using e4, q1, q2, q3, q4⟩
    obtain ⟨q, hq⟩ := choose_lt each
    obtain ⟨b, off, spot⟩ := a
    rcases Nat.eq_zero_or_pos len with h0 | h0
    · exact ⟨0, 0, fun _ => ⟨false, 0, 0, 0, 0⟩, fun h => by omega, empty _ h0⟩
    · have hspot : spot = none := by simpa [Addr.add] using World.cell?_spot (hq 0 (by omega)).1
      subst hspot
      have all : ∀ j, j < len → _ := fun j hj => hq j (by omega)
      refine ⟨b, off, fun i => ⟨(q i).1, (q i).2.1.toNat, (q i).2.2.1.toNat, (q i).2.2.2.1.toNat, (q i).2.2.2.2.toNat⟩, fun _ => rfl, ⟨fun j hj => ?_, fun j hj => ?_, fun j hj => ?_, fun j hj => ?_, fun j hj => ?_, fun j hj => ?_⟩⟩
      all_goals obtain ⟨r0, r1, r2, r3, r4, s1, s2, s3, s4⟩ := all j hj
      all_goals rw [Addr.add_lit] at r0 r1 r2 r3 r4
      all_goals have t1 := u8_nat s1
      all_goals have t2 := u8_nat s2
      all_goals have t3 := u8_nat s3
      all_goals have t4 := u8_nat s4
      · exact r0
      · rw [Nat.add_assoc, r1, t1.1]
      · rw [Nat.add_assoc, r2, t2.1]
      · rw [Nat.add_assoc, r3, t3.1]
      · rw [Nat.add_assoc, r4, t4.1]
      · exact ⟨t1.2, t2.2, t3.2, t4.2⟩

theorem open_sets {H : Type} {enc : TypeId × Value → H} {w : World} {fuel : Nat} {a1 : Option Addr} {len cap : Nat} {x : DataW H × List MemPlace}
    (h : DataW.trod enc Ybad.prog w 0 (fun _ => true) true fuel 23 [.slice a1 len cap] = some x) :
    ∃ (yb yo : Nat) (v : Nat → Nat), (0 < len → a1 = some ⟨yb, yo, none⟩) ∧ ∀ j, j < len → w.cell? ⟨yb, yo + j, none⟩ = some (.int .u8 (v j)) ∧ v j ≤ 255 := by
  rcases open_ints Ybad.underlying23 Ybad.underlying5 (by kernel_rfl) h with ⟨hcs, _⟩ | ⟨a, l, c, zs, hcs, _, hl, hm, hz, _, hcell, hwz⟩
  · simp at hcs
    obtain ⟨rfl, rfl, rfl⟩ := hcs
    exact ⟨0, 0, fun _ => 0, fun h => by omega, fun j hj => by omega⟩
  · simp at hcs
    obtain ⟨rfl, rfl, rfl⟩ := hcs
    have hlz : len ≤ zs.length := by rw [hz]; simpa using hl
    rcases Nat.eq_zero_or_pos len with h0 | h0
    · exact ⟨0, 0, fun _ => 0, fun h => by omega, fun j hj => by omega⟩
    · obtain ⟨b, off, spot⟩ := a
      have hspot : spot = none := by simpa [Addr.add] using World.cell?_spot (hcell 0 (by omega))
      subst hspot
      refine ⟨b, off, fun j => (zs.getD j 0).toNat, fun _ => rfl, fun j hj => ?_⟩
      have r := hcell j (by omega)
      rw [Addr.add_lit] at r
      have hw : (Lit.int .u8 (zs.getD j 0)).wf = true := hwz _ (by simp only [List.getD]; rw [List.getElem?_eq_getElem (by omega)]; exact List.getElem_mem _)
      have t := u8_nat hw
      exact ⟨by rw [r, t.1], t.2⟩

set_option maxRecDepth 100000 in
theorem lifted (os : Os) (started : os.Started) (H : Type) (enc : TypeId × Value → H) :
    ReturnsInHanded {} Ybad.checked os 3 .any (fun w args => (Rows.lawS5154AVisitsSpec.pre enc Ybad.prog Ybad.f3 [] false w args ∧ laidMetH Ybad.prog laid1 w) ∧ sizedMet enc Ybad.prog Ybad.f3 (OpenSpec.ofChange Rows.lawS5154AVisitsSpec) false w args)
      (Rows.lawS5154AVisitsSpec.post enc Ybad.prog Ybad.f3 false true false false) := by
  refine returnsInHanded_of_change_and (C := Ybad.checked) (X := fun w _ => laidMetH Ybad.prog laid1 w) (fun _ _ _ hh h => h.of_heap hh) own started (by kernel_rfl) Ybad.func3
    (ChangeSpec.witness_shaped (enc := enc) (C := Ybad.checked) (os := os) (X := fun w _ => laidMetH Ybad.prog laid1 w) false (World.doorLaid Ybad.prog 400 os) #[.slice none 0 0, .slice none 0 0, .int .u8 0, .bool false, .int .u8 0] 8 rfl (World.shaped_of_RefB (by kernel_rfl) (by kernel_rfl)) (by kernel_rfl) (by kernel_rfl) (by kernel_rfl) (door_met os _)) ?_
  intro W base args ds gs before hval0 hW _ _ hL _
  have hval : ∀ (j : Nat) t v, Ybad.f3.params[j]? = some t → args[j]? = some v → Value.okWide Ybad.prog W .any base t v := hval0
  have hW' := hW
  obtain ⟨p, q, hA0, hV, rfl, hfz, hnd⟩ := hW
  have hA : DataW.TrodAll enc Ybad.prog W 0 (fun _ => true) true Ybad.f3.params.toList args.toList ds p := hA0
  rw [Ybad.params3] at hA hval
  obtain ⟨v0, vs0, d0, ds0, p0, q0, hargs, rfl, rfl, h0, r0⟩ := trodAll_cons hA
  obtain ⟨v1, vs1, d1, ds1, p1, q1, rfl, rfl, rfl, h1, r1⟩ := trodAll_cons r0
  obtain ⟨v2, vs2, d2, ds2, p2, q2, rfl, rfl, rfl, h2, r2⟩ := trodAll_cons r1
  obtain ⟨v3, vs3, d3, ds3, p3, q3, rfl, rfl, rfl, h3, r3⟩ := trodAll_cons r2
  obtain ⟨v4, vs4, d4, ds4, p4, q4, rfl, rfl, rfl, h4, r4⟩ := trodAll_cons r3
  obtain ⟨rfl, rfl, rfl⟩ := trodAll_nil r4
  obtain rfl : args = #[v0, v1, v2, v3, v4] := by cases args; simp_all
  obtain ⟨rfl, rfl⟩ := trodVars_none hV
  obtain ⟨a0, len0, cap0, rfl⟩ := okWide_slice Ybad.underlying22 (hval 0 22 v0 rfl rfl)
  obtain ⟨a1, len1, cap1, rfl⟩ := okWide_slice Ybad.underlying23 (hval 1 23 v1 rfl rfl)
  have k0 := h0
  have k1 := h1
  have k2 := h2
  have k3 := h3
  have k4 := h4
  have lt0 : ∀ x ∈ p0, x.block < W.heap.size := by obtain ⟨m, hm⟩ := k0; exact DataW.trod_lt m _ _ _ hm
  have lt1 : ∀ x ∈ p1, x.block < W.heap.size := by obtain ⟨m, hm⟩ := k1; exact DataW.trod_lt m _ _ _ hm
  have lt2 : ∀ x ∈ p2, x.block < W.heap.size := by obtain ⟨m, hm⟩ := k2; exact DataW.trod_lt m _ _ _ hm
  have lt3 : ∀ x ∈ p3, x.block < W.heap.size := by obtain ⟨m, hm⟩ := k3; exact DataW.trod_lt m _ _ _ hm
  have lt4 : ∀ x ∈ p4, x.block < W.heap.size := by obtain ⟨m, hm⟩ := k4; exact DataW.trod_lt m _ _ _ hm
  obtain ⟨xb, xo, y, ha0, hR⟩ : ∃ (xb xo : Nat) (y : Nat → InR), (0 < len0 → a0 = some ⟨xb, xo, none⟩) ∧ RIn W xb xo len0 y := by
    obtain ⟨fuel, hf⟩ := h0
    exact open_rules hf
  obtain ⟨yb, yo, v, ha1, hVv⟩ : ∃ (yb yo : Nat) (v : Nat → Nat), (0 < len1 → a1 = some ⟨yb, yo, none⟩) ∧ ∀ j, j < len1 → W.cell? ⟨yb, yo + j, none⟩ = some (.int .u8 (v j)) ∧ v j ≤ 255 := by
    obtain ⟨fuel, hf⟩ := h1
    exact open_sets hf
  obtain ⟨n2, rfl, rfl, rfl, hn2⟩ := open_int Ybad.underlying5 (hval 2 5 v2 rfl rfl) h2
  obtain ⟨hf, rfl, rfl, rfl⟩ := open_bool Ybad.underlying4 (hval 3 4 v3 rfl rfl) h3
  obtain ⟨n4, rfl, rfl, rfl, hn4⟩ := open_int Ybad.underlying5 (hval 4 5 v4 rfl rfl) h4
  have hT := of_laid hL
  obtain ⟨m2, e2, l2⟩ : ∃ m2 : Nat, n2 = (m2 : Int) ∧ m2 ≤ 255 := ⟨n2.toNat, (u8_nat hn2).1.symm, (u8_nat hn2).2⟩
  obtain ⟨m4, e4, l4⟩ : ∃ m4 : Nat, n4 = (m4 : Int) ∧ m4 ≤ 255 := ⟨n4.toNat, (u8_nat hn4).1.symm, (u8_nat hn4).2⟩
  subst e2 e4
  clear hA0 hval0
  refine (walk a0 a1 len0 cap0 len1 cap1 m2 m4 hf W xb xo yb yo y v ha0 ha1 hR hVv hT l2 l4).mono fun e W' ⟨he, bel⟩ => ?_
  subst he
  exact ⟨_, rfl, _, _, _, [], _, [], hW', trodAll_mk1 (shut_bool Ybad.underlying4 _), (trodAll_cons_mk (Below.trod laidOut (by kernel_rfl) (of_decide_eq_true (by kernel_rfl)) k0 bel lt0) (trodAll_cons_mk (Below.trod laidOut (by kernel_rfl) (of_decide_eq_true (by kernel_rfl)) k1 bel lt1) (trodAll_cons_mk (Below.trod laidOut (by kernel_rfl) (of_decide_eq_true (by kernel_rfl)) k2 bel lt2) (trodAll_cons_mk (Below.trod laidOut (by kernel_rfl) (of_decide_eq_true (by kernel_rfl)) k3 bel lt3) (trodAll_cons_mk (Below.trod laidOut (by kernel_rfl) (of_decide_eq_true (by kernel_rfl)) k4 bel lt4) trodAll_mk0))))), rfl, bel.frame _, fun h => by cases h⟩

theorem row_holds : Rows.LawS5154AVisitsSaid :=
  OpenClaim.holds_of_wide 3 Ybad.f3 rfl rfl rfl rfl rfl rfl rfl ⟨rfl, rfl, rfl, rfl, rfl⟩ rfl rfl rfl rfl rfl (by kernel_rfl) Ybad.func3 (by kernel_rfl)
    (of_decide_eq_true (by kernel_rfl)) (by unfold Func.isWrapper; first | (rw [if_pos (by decide +kernel)]; kernel_rfl) | (rw [if_neg (by decide +kernel)]; exact ⟨rfl, rfl⟩))
    (fun os started H enc _ => lifted os started H enc)

/-- ████ THE CARD ████ -/
theorem proved : Rows.LawS5154AVisitsCardSaid :=
  Claim7.holds_tied_plain_at .later [] [.data] true (true, "59202343dcab9df75f82b86a29c180aadbaff8e565ffb272b470a985cc82e791") false
    row_holds (fun _ h => by cases h) (by kernel_rfl) (fun _ h => by cases h) lawS5154AVisits_row_tie rfl ⟨rfl, rfl⟩ (by kernel_rfl) rfl
    (fun f fn hf hfn => by
      obtain rfl : f = 3 := Option.some.inj ((show Ybad.prog.funcNamed "example.com/nadzor/nadzor/arbac.LawS5154AVisits" = some 3 by kernel_rfl).symm.trans hf) |>.symm
      obtain rfl : fn = Ybad.f3 := (Option.some.inj (Ybad.func3.symm.trans hfn)).symm
      refine ⟨by kernel_rfl, fun j t ht => ?_⟩
      rw [Ybad.params3] at ht
      have h5 : t = 22 ∨ t = 23 ∨ t = 5 ∨ t = 4 := by
        rcases j with _ | _ | _ | _ | _ | j
        · exact .inl (by simpa using ht.symm)
        · exact .inr (.inl (by simpa using ht.symm))
        · exact .inr (.inr (.inl (by simpa using ht.symm)))
        · exact .inr (.inr (.inr (by simpa using ht.symm)))
        · exact .inr (.inr (.inl (by simpa using ht.symm)))
        · simp at ht
      rcases h5 with rfl | rfl | rfl | rfl
      · exact (show Ybad.prog.wantsStandIn 22 = false by kernel_rfl)
      · exact (show Ybad.prog.wantsStandIn 23 = false by kernel_rfl)
      · exact (show Ybad.prog.wantsStandIn 5 = false by kernel_rfl)
      · exact (show Ybad.prog.wantsStandIn 4 = false by kernel_rfl))
    (by kernel_rfl)
#print axioms proved
end Go.Proofs.YbulkdbsgDoor.lawS5154AVisits
