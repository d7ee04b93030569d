/-
  THE PROOF OF 'Rows.LawS5159AOrderSaid': the guide's shell at this function, and the walk.
-/
import Derived.Test.YbulkdbuyRows
import Derived.Test.YbulkdbuyScript
import Derived.WalkKit
import Derived.ProofKit
import Derived.OpenShut
import Derived.ShutString
import Derived.ChangeOld
import Derived.Below
namespace Go.Proofs.Ybulkdbuy.lawS5159AOrder
open Go.ChangeShapes Go.WideShapes Go.ChangeAt Go.RowKit
open Go.ChangeMaps (open_string shut_string)
set_option linter.unusedVariables false

theorem own : ownKnob Yba.prog.godebug = none := by kernel_rfl
theorem laidOut : laidOutB Yba.prog = true := by kernel_rfl

/-! ### STEP 1: THE WALK: the Go text returns true, AND WRITES NOTHING THAT WAS THERE: 'Below w.heap.size w w'' (Derived/Below.lean: '.refl', '.alloc', '.drew', '.setCell' at a new block, '.trans'). Open each 'IsRow' by 'rcases' AHEAD of 'go_enter'; part every test ahead of the walk. -/
attribute [local go_sem] neq29
set_option maxHeartbeats 2000000 in
theorem walk_short (a0 : Option Addr) (len0 cap0 : Nat) (z0 : List Int) (w : World) (w0 : IsRow .u8 w a0 len0 cap0 z0) (hlen : len0 ≤ 1024) :
    Calls Yba.prog 3 #[.slice a0 len0 cap0] w fun e w' => e = .returned (.bool true) ∧ Below w.heap.size w w' := by
  have hI : ¬ (1024 : Int) < len0 := by omega
  go_enter Yba.func3, Yba.ntmps3
  go_wp2_with (first
    | (go_at_call 7; go_must (refine (build_any w.heap.size a0 len0 cap0 z0 (w.alloc _) (w0.keep ((Fr.refl (fun _ => False) w).alloc _) (fun _ _ h => h)) hlen ⟨⟨_, heap_alloc_new _ _⟩, fun i hi => by simp at hi, by simp⟩ w0.old).mono ?_; rintro e w2 ⟨av, mv, all, model, rfl, hscr, hal, hml, hnew, hfr⟩))
    | (go_at_call 8; go_must (refine (popAll_any w.heap.size model w2 hscr.dl).mono ?_; rintro e w3 ⟨rfl, hpop, hfr3⟩; have pst := pst_of hscr hpop hfr3; have hbel := below_of rfl hfr hnew hfr3; have q1 := hpop.q.c1; have q2 := hpop.q.c2; obtain ⟨mo, mc, gm, rfl, mpos, hmc, mcell, _⟩ := owns_view pst.rm; obtain ⟨ao, ac, ga, rfl, apos, hac, acell, _⟩ := owns_view pst.ra; have HM : Hid _ := mcell; have HA : Hid _ := acell; clear mcell acell)))
  go_loopw [7, 8] (fun c t wr => ∃ i k : Nat, i ≤ model.length ∧ t = .int .i64 i ∧ c = curv model i ∧ wr = w3.drewN k) (fun _ t _ => model.length - (intOf t).toNat)
  case atStart => exact ⟨0, 0, Nat.zero_le _, rfl, rfl, rfl⟩
  case round =>
    obtain ⟨i, k, hi, rfl, rfl, rfl⟩ := hrel
    by_cases hlt : i < model.length
    · obtain ⟨rfl, _, _⟩ := mpos (by omega)
      have hb := (hpop.node i hlt).keep (drewN_fr w3 k) (fun h => h)
      have b6 := hb.c6
      have b7 := hb.c7
      have mk := (drewN_fr w3 k).cell (p := ⟨gm, i, none⟩) (fun h => h) ((HM.out i hlt).trans (pcells_at hlt))
      rw [nx_curv] at b7
      rw [curv_lt hlt]
      have hltI : (i : Int) < model.length := by omega
      by_cases h0 : i = 0
      · subst h0
        have hp : pv model 0 = .pointer none := rfl
        rw [hp] at b6
        generalize model.getD 0 0 = b at b6 b7 mk ⊢
        unfold ptr at mk ⊢
        clear hb hp
        go_wp2
        go_roundw
        case rel => exact ⟨1, k, by omega, rfl, rfl, rfl⟩
        case measure => simp [intOf]; omega
      · have hp : pv model i = ptr (model.getD (i - 1) 0) := by simp only [pv, if_neg h0]
        rw [hp] at b6
        obtain ⟨j, rfl⟩ : ∃ j, i = j + 1 := ⟨i - 1, by omega⟩
        have mj := (drewN_fr w3 k).cell (p := ⟨gm, j, none⟩) (fun h => h) ((HM.out j (by omega)).trans (pcells_at (by omega)))
        simp only [Nat.add_sub_cancel] at b6
        generalize model.getD (j + 1) 0 = b at b6 b7 mk ⊢
        generalize model.getD j 0 = c at b6 mj
        unfold ptr at mk mj b6 ⊢
        have hjI : ((j : Int) + 1 == 0) = false := by simp; omega
        have b7d : w3.cell? ⟨b, 7, none⟩ = some (curv model (j + 1 + 1)) := b7
        have b6d : w3.cell? ⟨b, 6, none⟩ = some (.pointer (some ⟨c, 0, none⟩)) := b6
        have mjd : w3.cell? ⟨gm, j, none⟩ = some (.pointer (some ⟨c, 0, none⟩)) := mj
        clear hb hp
        go_wp2
        go_region
        go_wp2
        go_roundw
        case rel => exact ⟨j + 2, k + 1, by omega, by go_num, rfl, rfl⟩
        case measure => simp [intOf]; omega
    · have hltI : ¬ (i : Int) < model.length := by omega
      rw [curv_end hlt]
      go_wp2
      go_loopw [74] (fun t wr => ∃ i : Nat, i ≤ all.length ∧ t = .int .i64 i ∧ wr = w3.drewN k) (fun t _ => all.length - (intOf t).toNat)
      case atStart => exact ⟨0, Nat.zero_le _, rfl, rfl⟩
      case round =>
        obtain ⟨n, hn, rfl, rfl⟩ := hrel
        by_cases hln : n < all.length
        · obtain ⟨rfl, _, _⟩ := apos (by omega)
          obtain ⟨p, q, hb⟩ := pst.off (all.getD n 0) (by rw [getD_get hln]; simp)
          have b8 := (hb.keep (drewN_fr w3 k) (fun h => h)).c8
          have ak := (drewN_fr w3 k).cell (p := ⟨ga, n, none⟩) (fun h => h) ((HA.out n hln).trans (pcells_at hln))
          have hlnI : (n : Int) < all.length := by omega
          clear hb
          generalize all.getD n 0 = b at b8 ak
          unfold ptr at ak
          go_wp2
          go_roundw
          case rel => exact ⟨n + 1, by omega, by go_num, trivial⟩
          case measure => simp [intOf]; omega
        · have hlnI : ¬ (n : Int) < all.length := by omega
          go_wp2
          go_ret
          exact ⟨rfl, hbel.trans ((drewN_fr w3 k).below hbel.size (fun _ h => h.elim))⟩

theorem walk_long (a0 : Option Addr) (len0 cap0 : Nat) (w : World) (hlen : ¬ len0 ≤ 1024) :
    Calls Yba.prog 3 #[.slice a0 len0 cap0] w fun e w' => e = .returned (.bool true) ∧ Below w.heap.size w w' := by
  have hI : (1024 : Int) < len0 := by omega
  go_enter Yba.func3, Yba.ntmps3
  go_wp2
  go_ret
  exact ⟨rfl, Below.refl _ _⟩

theorem walk (a0 : Option Addr) (len0 cap0 : Nat) (z0 : List Int) (w : World) (w0 : IsRow .u8 w a0 len0 cap0 z0) :
    Calls Yba.prog 3 #[.slice a0 len0 cap0] w fun e w' => e = .returned (.bool true) ∧ Below w.heap.size w w' := by
  by_cases h : len0 ≤ 1024
  · exact walk_short a0 len0 cap0 z0 w w0 h
  · exact walk_long a0 len0 cap0 w h

/-! ### THE ROW's STEP: WRITTEN OUT: LEAVE IT -/
set_option maxRecDepth 100000 in
theorem lifted (os : Os) (started : os.Started) (H : Type) (enc : TypeId × Value → H) :
    ReturnsInHanded {} Yba.checked os 3 .any (Rows.lawS5159AOrderSpec.pre6 enc Yba.prog Yba.f3 Rows.lawS5159AOrderRow.domain false) (Rows.lawS5159AOrderSpec.post enc Yba.prog Yba.f3 false true false false) := by
  refine returnsInHanded_of_change (C := Yba.checked) own started (by kernel_rfl) Yba.func3
    (ChangeSpec.witness6 (enc := enc) (C := Yba.checked) false ⟨#[], #[.slice none 0 0], []⟩ 8 (by kernel_rfl) (by kernel_rfl) (by kernel_rfl) (by kernel_rfl)) ?_
  intro W base args ds gs before hval0 hW hcnd _
  have hval : ∀ (j : Nat) t v, Yba.f3.params[j]? = some t → args[j]? = some v → Value.okWide Yba.prog W .any base t v := hval0
  have hW' := hW
  obtain ⟨p, q, hA0, hV, rfl, hfz, hnd⟩ := hW
  have hA : DataW.TrodAll enc Yba.prog W 0 (fun _ => true) true Yba.f3.params.toList args.toList ds p := hA0
  rw [Yba.params3] at hA hval
  obtain ⟨v0, vs0, d0, ds0, p0, q0, hargs, rfl, rfl, h0, r0⟩ := trodAll_cons hA
  obtain ⟨rfl, rfl, rfl⟩ := trodAll_nil r0
  obtain rfl : args = #[v0] := by cases args; simp_all
  obtain ⟨rfl, rfl⟩ := trodVars_none hV
  obtain ⟨a0, len0, cap0, rfl⟩ := okWide_slice Yba.underlying22 (hval 0 22 v0 rfl rfl)
  have k0 := h0
  have lt0 : ∀ x ∈ p0, x.block < W.heap.size := by obtain ⟨m, hm⟩ := k0; exact DataW.trod_lt m _ _ _ hm
  obtain ⟨z0, w0⟩ : ∃ zs, IsRow .u8 W a0 len0 cap0 zs := by
    obtain ⟨fuel, hf⟩ := h0
    rcases open_ints Yba.underlying22 Yba.underlying5 (by kernel_rfl) hf with ⟨hcs, _⟩ | ⟨x, l, c, zs, hcs, _, hl, hm, hz, _, hcell, hwz⟩
    · simp [Value.cells] at hcs
      obtain ⟨rfl, rfl, rfl⟩ := hcs
      exact ⟨[], .inl ⟨rfl, rfl, rfl, rfl⟩⟩
    · simp [Value.cells] at hcs
      obtain ⟨rfl, rfl, rfl⟩ := hcs
      exact ⟨zs, .inr ⟨_, rfl, hl, hm, by simpa using hz, hcell, hwz⟩⟩
  clear hA0 hval0
  refine (walk a0 len0 cap0 z0 W w0).mono fun e W' ⟨he, bel⟩ => ?_
  subst he
  exact ⟨_, rfl, _, _, _, [], _, [], hW', trodAll_mk1 (shut_bool Yba.underlying4 _), (trodAll_cons_mk (Below.trod laidOut (by kernel_rfl) (of_decide_eq_true (by kernel_rfl)) k0 bel lt0) trodAll_mk0), rfl, bel.frame _, fun h => by cases h⟩

theorem over : Rows.lawS5159AOrderRow.holds Yba.pinned (OpenSpec.ofChange Rows.lawS5159AOrderSpec) :=
  OpenClaim.holds_of_wide 3 Yba.f3 rfl rfl rfl rfl rfl rfl rfl ⟨rfl, rfl, rfl, rfl, rfl⟩ rfl rfl rfl rfl rfl (by kernel_rfl) Yba.func3 (by kernel_rfl)
    (of_decide_eq_true (by kernel_rfl)) (by unfold Func.isWrapper; first | (rw [if_pos (by decide +kernel)]; kernel_rfl) | (rw [if_neg (by decide +kernel)]; exact ⟨rfl, rfl⟩))
    (fun os started H enc _ => lifted os started H enc)

/-- ████ THE STATEMENT ████ -/
theorem proved : Rows.LawS5159AOrderSaid := over
#print axioms proved
end Go.Proofs.Ybulkdbuy.lawS5159AOrder
