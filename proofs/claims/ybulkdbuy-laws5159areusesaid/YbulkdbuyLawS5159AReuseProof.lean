/-
  THE PROOF OF 'Rows.LawS5159AReuseSaid': the guide's shell at this function, and the walk.
-/
import Derived.Test.YbulkdbuyRows
import Derived.Test.YbulkdbuyScript
import Derived.WalkKit
import Derived.ProofKit
import Derived.OpenShut
import Derived.ShutString
import Derived.ChangeOld
import Derived.Below
namespace Go.Proofs.Ybulkdbuy.lawS5159AReuse
open Go.ChangeShapes Go.WideShapes Go.ChangeAt Go.RowKit
open Go.ChangeMaps (open_string shut_string)
set_option linter.unusedVariables false

theorem own : ownKnob Yba.prog.godebug = none := by kernel_rfl
theorem laidOut : laidOutB Yba.prog = true := by kernel_rfl

/-! ### STEP 1: THE WALK: the Go text returns true, AND WRITES NOTHING THAT WAS THERE: 'Below w.heap.size w w'' (Derived/Below.lean: '.refl', '.alloc', '.drew', '.setCell' at a new block, '.trans'). Open each 'IsRow' by 'rcases' AHEAD of 'go_enter'; part every test ahead of the walk. -/
attribute [local go_sem] neq29
attribute [local go_sem] eql29
set_option maxHeartbeats 2000000 in
theorem walk_short (a0 : Option Addr) (len0 cap0 : Nat) (z0 : List Int) (w : World) (w0 : IsRow .u8 w a0 len0 cap0 z0) (hlen : len0 ≤ 1024) :
    Calls Yba.prog 4 #[.slice a0 len0 cap0] w fun e w' => e = .returned (.bool true) ∧ Below w.heap.size w w' := by
  have hI : ¬ (1024 : Int) < len0 := by omega
  go_enter Yba.func4, Yba.ntmps4
  go_wp2_with (first
    | (go_at_call 7; go_must (refine (build_any w.heap.size a0 len0 cap0 z0 (w.alloc _) (w0.keep ((Fr.refl (fun _ => False) w).alloc _) (fun _ _ h => h)) hlen ⟨⟨_, heap_alloc_new _ _⟩, fun i hi => by simp at hi, by simp⟩ w0.old).mono ?_; rintro e w2 ⟨av, mv, all, model, rfl, hscr, hal, hml, hnew, hfr⟩))
    | (go_at_call 8; (refine (popAll_any w.heap.size model w2 hscr.dl).mono ?_; rintro e w3 ⟨rfl, hpop, hfr3⟩; have pst := pst_of hscr hpop hfr3; have hbel := below_of rfl hfr hnew hfr3; obtain ⟨mo, mc, gm, rfl, mpos, hmc, mcell, _⟩ := owns_view pst.rm; clear pst hfr3 hnew hscr hfr; rcases Nat.eq_zero_or_pos model.length with hz | hz; rw [hdv_nil hz]; clear mcell mpos; have hzI : ((model.length : Int) == 0) = true := (by simp [hz]); rotate_left; obtain ⟨rfl, _, _⟩ := mpos hz; have m0 := (mcell 0 hz).trans (pcells_at hz); rw [hdv_pos hz]; clear mcell mpos; have hzI : (0 : Int) < model.length := (by omega); have hzB : ((model.length : Int) == 0) = false := (by simp; intro e; simp [e] at hz); generalize model.getD 0 0 = b at m0 ⊢; unfold ptr at m0 ⊢))
    | (go_at_call 9; go_must (refine (len_zero w.heap.size _ w3 hpop.q).mono ?_; rintro e w' ⟨he, hw⟩; rw [he, hw]; clear he hw e w'))
    | (go_at_call 10; (refine (front_any w.heap.size _ _ w3 hpop.q).mono ?_; rintro e w' ⟨he, hw⟩; rw [he, hw]; clear he hw e w'))
    | (go_at_call 11; (refine (single_empty w.heap.size _ w3 hpop.q).mono ?_; rintro e w' ⟨he, k1, hw⟩; rw [he, hw]; clear he hw e w'))
    | (go_at_call 8; go_must (refine (popAll_any w.heap.size [] (w3.drewN k1) ((popped_empty hpop).keep (drewN_fr w3 k1) (fun h => h) (fun _ _ h => h))).mono ?_; rintro e w4 ⟨he, hpop4, hfr4⟩; rw [he, hdv_nil rfl]; clear he e; have hbel4 := (hbel.trans ((drewN_fr w3 k1).below hbel.size (fun _ h => h.elim))).trans (hfr4.below hbel.size (fun k h => by rcases h with h | h; omega; simp at h))))
    | (go_at_call 12; go_must (refine (push_any w.heap.size w4.heap.size [] (.pointer none) false (w4.alloc _) ((popped_empty hpop4).keep ((Fr.refl (fun _ => False) w4).alloc _) (fun h => h) (fun _ _ h => h)) ⟨_, _, _, _, _, _, heap_alloc_new _ _⟩ (by simp)).mono ?_; rintro e w6 ⟨he, hdl6, hfr6⟩; rw [he]; clear he e; have hq6 : Qh w6 w.heap.size (ptr w4.heap.size) (ptr w4.heap.size) := hdl6.q; have hn6 : Node w6 w4.heap.size (.pointer none) (.pointer none) true := hdl6.node 0 (by simp); have hbel6 : Below w.heap.size w w6 := (hbel4.alloc hbel4.size _).trans (hfr6.below (by have := hbel4.size; simp; omega) (fun k h => by have := hbel4.size; rcases h with h | h | h; omega; omega; simp at h))))
    | (go_at_call 11; go_must (refine (single_one w.heap.size w4.heap.size w6 hq6).mono ?_; rintro e w' ⟨he, k2, hw⟩; rw [he, hw]; clear he hw e w'; have hq7 := hq6.keep (drewN_fr w6 k2) (fun h => h); have hn7 := hn6.keep (drewN_fr w6 k2) (fun h => h); have c6 := hn6.c6; have c7 := hn6.c7; have c8 := hn6.c8; have c6' := hn7.c6; have c7' := hn7.c7; have c8' := hn7.c8))
    | (go_at_call 10; go_must (refine (front_any w.heap.size _ _ (w6.drewN k2) hq7).mono ?_; rintro e w' ⟨he, hw⟩; rw [he, hw]; clear he hw e w'; unfold ptr)))
  all_goals go_ret
  all_goals exact ⟨rfl, hbel6.trans ((drewN_fr w6 k2).below hbel6.size (fun _ h => h.elim))⟩

theorem walk_long (a0 : Option Addr) (len0 cap0 : Nat) (w : World) (hlen : ¬ len0 ≤ 1024) :
    Calls Yba.prog 4 #[.slice a0 len0 cap0] w fun e w' => e = .returned (.bool true) ∧ Below w.heap.size w w' := by
  have hI : (1024 : Int) < len0 := by omega
  go_enter Yba.func4, Yba.ntmps4
  go_wp2
  go_ret
  exact ⟨rfl, Below.refl _ _⟩

theorem walk (a0 : Option Addr) (len0 cap0 : Nat) (z0 : List Int) (w : World) (w0 : IsRow .u8 w a0 len0 cap0 z0) :
    Calls Yba.prog 4 #[.slice a0 len0 cap0] w fun e w' => e = .returned (.bool true) ∧ Below w.heap.size w w' := by
  by_cases h : len0 ≤ 1024
  · exact walk_short a0 len0 cap0 z0 w w0 h
  · exact walk_long a0 len0 cap0 w h

/-! ### THE ROW's STEP: WRITTEN OUT: LEAVE IT -/
set_option maxRecDepth 100000 in
theorem lifted (os : Os) (started : os.Started) (H : Type) (enc : TypeId × Value → H) :
    ReturnsInHanded {} Yba.checked os 4 .any (Rows.lawS5159AReuseSpec.pre6 enc Yba.prog Yba.f4 Rows.lawS5159AReuseRow.domain false) (Rows.lawS5159AReuseSpec.post enc Yba.prog Yba.f4 false true false false) := by
  refine returnsInHanded_of_change (C := Yba.checked) own started (by kernel_rfl) Yba.func4
    (ChangeSpec.witness6 (enc := enc) (C := Yba.checked) false ⟨#[], #[.slice none 0 0], []⟩ 8 (by kernel_rfl) (by kernel_rfl) (by kernel_rfl) (by kernel_rfl)) ?_
  intro W base args ds gs before hval0 hW hcnd _
  have hval : ∀ (j : Nat) t v, Yba.f4.params[j]? = some t → args[j]? = some v → Value.okWide Yba.prog W .any base t v := hval0
  have hW' := hW
  obtain ⟨p, q, hA0, hV, rfl, hfz, hnd⟩ := hW
  have hA : DataW.TrodAll enc Yba.prog W 0 (fun _ => true) true Yba.f4.params.toList args.toList ds p := hA0
  rw [Yba.params4] at hA hval
  obtain ⟨v0, vs0, d0, ds0, p0, q0, hargs, rfl, rfl, h0, r0⟩ := trodAll_cons hA
  obtain ⟨rfl, rfl, rfl⟩ := trodAll_nil r0
  obtain rfl : args = #[v0] := by cases args; simp_all
  obtain ⟨rfl, rfl⟩ := trodVars_none hV
  obtain ⟨a0, len0, cap0, rfl⟩ := okWide_slice Yba.underlying22 (hval 0 22 v0 rfl rfl)
  have k0 := h0
  have lt0 : ∀ x ∈ p0, x.block < W.heap.size := by obtain ⟨m, hm⟩ := k0; exact DataW.trod_lt m _ _ _ hm
  obtain ⟨z0, w0⟩ : ∃ zs, IsRow .u8 W a0 len0 cap0 zs := by
    obtain ⟨fuel, hf⟩ := h0
    rcases open_ints Yba.underlying22 Yba.underlying5 (by kernel_rfl) hf with ⟨hcs, _⟩ | ⟨x, l, c, zs, hcs, _, hl, hm, hz, _, hcell, hwz⟩
    · simp [Value.cells] at hcs
      obtain ⟨rfl, rfl, rfl⟩ := hcs
      exact ⟨[], .inl ⟨rfl, rfl, rfl, rfl⟩⟩
    · simp [Value.cells] at hcs
      obtain ⟨rfl, rfl, rfl⟩ := hcs
      exact ⟨zs, .inr ⟨_, rfl, hl, hm, by simpa using hz, hcell, hwz⟩⟩
  clear hA0 hval0
  refine (walk a0 len0 cap0 z0 W w0).mono fun e W' ⟨he, bel⟩ => ?_
  subst he
  exact ⟨_, rfl, _, _, _, [], _, [], hW', trodAll_mk1 (shut_bool Yba.underlying4 _), (trodAll_cons_mk (Below.trod laidOut (by kernel_rfl) (of_decide_eq_true (by kernel_rfl)) k0 bel lt0) trodAll_mk0), rfl, bel.frame _, fun h => by cases h⟩

theorem over : Rows.lawS5159AReuseRow.holds Yba.pinned (OpenSpec.ofChange Rows.lawS5159AReuseSpec) :=
  OpenClaim.holds_of_wide 4 Yba.f4 rfl rfl rfl rfl rfl rfl rfl ⟨rfl, rfl, rfl, rfl, rfl⟩ rfl rfl rfl rfl rfl (by kernel_rfl) Yba.func4 (by kernel_rfl)
    (of_decide_eq_true (by kernel_rfl)) (by unfold Func.isWrapper; first | (rw [if_pos (by decide +kernel)]; kernel_rfl) | (rw [if_neg (by decide +kernel)]; exact ⟨rfl, rfl⟩))
    (fun os started H enc _ => lifted os started H enc)

/-- ████ THE STATEMENT ████ -/
theorem proved : Rows.LawS5159AReuseSaid := over
#print axioms proved
end Go.Proofs.Ybulkdbuy.lawS5159AReuse
