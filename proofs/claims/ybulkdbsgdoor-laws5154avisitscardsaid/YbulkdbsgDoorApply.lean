/-
  CONTRACTS of metBy, apply.
-/
import Derived.Test.YbulkdbsgDoorSets
namespace Go.Proofs.YbulkdbsgDoor
open Go.RowKit
set_option linter.unusedVariables false

theorem drewN_fr (w : World) (n : Nat) : Fr (fun _ => False) w (w.drewN n) := (Fr.refl _ _).drewN n
theorem SetAt.one {w : World} {b : Nat} {v : Int} (h : SetAt w b [v]) : w.cell? ⟨b, 0, none⟩ = some (.int .u64 v) := h.cell (i := 0) (by simp)

def metB (v h l : Int) : Bool := !((bits .and .u64 v h != h) || (bits .and .u64 v l != 0))

set_option maxHeartbeats 1000000 in
theorem met_any (hb lb sb : Nat) (h l v : Int) (w : World) (Hh : SetAt w hb [h]) (Hl : SetAt w lb [l]) (Hv : SetAt w sb [v]) :
    Calls Ybad.prog 19 #[.agg #[setV hb 1, setV lb 1], setV sb 1] w fun e w' => e = .returned (.bool (metB v h l)) ∧ Fr (fun _ => False) w w' := by
  have c1 := Hh.one
  have c2 := Hl.one
  have c3 := Hv.one
  have hN : ∀ {b x}, SetAt w b [x] → ∀ o, (w.alloc o).cell? ⟨b, 0, none⟩ = some (.int .u64 x) := fun hs o => (hs.keep ((Fr.refl (fun _ => False) w).alloc o) (fun h => h)).one
  have d1 := hN Hh
  have d2 := hN Hl
  have d3 := hN Hv
  clear hN
  unfold setV metB
  by_cases t1 : (bits .and .u64 v h != h) = true
  · rw [t1]
    go_enter Ybad.func19, Ybad.ntmps19
    go_wp2
    refine wp_loop_rounds 1 ?_
    rw [rounds_succ]; go_wp2
    go_quiet (fail)
    go_wp2
    go_ret
    exact ⟨rfl, ((Fr.refl _ _).alloc _).drewN _⟩
  · have t1 : (bits .and .u64 v h != h) = false := by simpa using t1
    rw [t1]
    by_cases t2 : (bits .and .u64 v l != 0) = true
    · rw [t2]
      go_enter Ybad.func19, Ybad.ntmps19
      go_wp2
      refine wp_loop_rounds 1 ?_
      rw [rounds_succ]; go_wp2
      go_quiet (fail)
      go_wp2
      go_ret
      exact ⟨rfl, ((Fr.refl _ _).alloc _).drewN _⟩
    · have t2 : (bits .and .u64 v l != 0) = false := by simpa using t2
      rw [t2]
      go_enter Ybad.func19, Ybad.ntmps19
      go_wp2
      refine wp_loop_rounds 2 ?_
      rw [rounds_succ]; go_wp2
      go_quiet (fail)
      go_wp2
      rw [rounds_succ]; go_wp2
      go_ret
      exact ⟨rfl, ((Fr.refl _ _).alloc _).drewN _⟩

/-- A rule in memory, at cell o of block R. -/
structure RuleAt (w : World) (R o : Nat) (rv : Bool) (adm : Int) (hb lb : Nat) (role : Nat) (h l : Int) : Prop where
  c0 : w.cell? ⟨R, o, none⟩ = some (.bool rv)
  c1 : w.cell? ⟨R, o + 1, none⟩ = some (.int .i64 adm)
  c2 : w.cell? ⟨R, o + 2, none⟩ = some (setV hb 1)
  c3 : w.cell? ⟨R, o + 3, none⟩ = some (setV lb 1)
  c4 : w.cell? ⟨R, o + 4, none⟩ = some (.int .i64 role)
  hh : SetAt w hb [h]
  hl : SetAt w lb [l]

theorem RuleAt.keep {w w' : World} {R o : Nat} {rv : Bool} {adm : Int} {hb lb role : Nat} {h l : Int} (x : RuleAt w R o rv adm hb lb role h l) {P : Nat → Prop} (hf : Fr P w w') (h0 : ¬ P R) (h1 : ¬ P hb) (h2 : ¬ P lb) : RuleAt w' R o rv adm hb lb role h l :=
  ⟨hf.cell h0 x.c0, hf.cell h0 x.c1, hf.cell h0 x.c2, hf.cell h0 x.c3, hf.cell h0 x.c4, x.hh.keep hf h1, x.hl.keep hf h2⟩

/-- Does the rule apply to a user with roles v; what he then holds. -/
def okB (rv : Bool) (role : Nat) (h l v : Int) : Bool := if rv then hasI v role else (!hasI v role && metB v h l)
def nxI (rv : Bool) (role : Nat) (v : Int) : Int := if rv then remI v role else addI v role

theorem copy1 {nb sb : Nat} {x v : Int} (W : World) (Hn : SetAt W nb [x]) (Hv : SetAt W sb [v]) :
    (Builtin.copy_ #[29, 29] 3 #[.slice (some ⟨nb, 0, none⟩) 1 1, .slice (some ⟨sb, 0, none⟩) 1 1]).run Ybad.prog W = .ok (.int .i64 1) (W.setCell ⟨nb, 0, none⟩ (.int .u64 v)) := by
  have c1 := Hn.one
  have c2 := Hv.one
  have h := run_copy_cells (P := Ybad.prog) W 29 29 3 41 nb 0 1 1 ⟨sb, 0, none⟩ 1 1 [.int .u64 v] Ybad.underlying29 (by kernel_rfl) rfl
    (fun j u hj => by match j, hj with
      | 0, hj => simp at hj; subst hj; simpa [Addr.add] using c2)
    (fun j hj => by match j, hj with
      | 0, hj => simp [c1])
    (fun j hj => Hn.free _) (fun u hu => by simp at hu; subst hu; rfl)
  exact h

theorem SetAt.put {w : World} {b : Nat} {x : Int} (h : SetAt w b [x]) (v : Int) : SetAt (w.setCell ⟨b, 0, none⟩ (.int .u64 v)) b [v] := h.set 0 v

set_option maxHeartbeats 1000000 in
theorem apply_any (R o nb sb : Nat) (rv : Bool) (adm : Int) (hb lb role : Nat) (h l v x : Int) (w : World) (Hr : RuleAt w R o rv adm hb lb role h l) (Hn : SetAt w nb [x]) (Hv : SetAt w sb [v]) (hrole : role < 64) (hne : ¬ nb = R) :
    Calls Ybad.prog 12 #[.pointer (some ⟨R, o, none⟩), setV nb 1, setV sb 1] w fun e w' => e = .returned (.bool (okB rv role h l v)) ∧ SetAt w' nb [if okB rv role h l v then nxI rv role v else x] ∧ Fr (fun k => k = nb) w w' := by
  have c0 := Hr.c0
  have c4 := Hr.c4
  have hh := has_any sb [v] role w Hv (by simp; omega) (by simp)
  have HH := fun k => has_any sb [v] role (w.drewN k) Hv (by simp; omega) (by simp)
  simp only [show role / 64 = 0 by omega, List.length_cons, List.length_nil, Nat.zero_add, List.getD_cons_zero] at hh HH
  unfold setV at hh HH ⊢
  cases rv with
  | true =>
    have hok : okB true role h l v = hasI v role := rfl
    rw [hok]
    generalize hasI v role = bb at hh HH ⊢
    clear hok
    cases bb with
    | true =>
      have hcp := fun k => copy1 (w.drewN k) (nb := nb) (sb := sb) Hn Hv
      have hrm := fun k => rem_any nb [v] role ((w.drewN k).setCell ⟨nb, 0, none⟩ (.int .u64 v)) (SetAt.put (w := w.drewN k) Hn v) (by simp; omega) (by simp)
      simp only [show role / 64 = 0 by omega, List.length_cons, List.length_nil, Nat.zero_add, List.getD_cons_zero, List.set_cons_zero] at hrm
      unfold setV at hrm
      have cr : ∀ u, (w.setCell ⟨nb, 0, none⟩ u).cell? ⟨R, o + 4, none⟩ = some (.int .i64 role) := fun u => by rw [World.cell?_setCell_other _ _ _ _ (by intro e; exact hne (congrArg Addr.block e))]; exact c4
      have crd : ∀ k u, ((w.drewN k).setCell ⟨nb, 0, none⟩ u).cell? ⟨R, o + 4, none⟩ = some (.int .i64 role) := fun k u => by rw [World.cell?_setCell_other _ _ _ _ (by intro e; exact hne (congrArg Addr.block e))]; exact c4
      go_enter Ybad.func12, Ybad.ntmps12
      go_wp2_with (first
        | (go_at_call 11; go_must (refine hh.mono ?_; rintro e w' ⟨he, k, hw⟩; rw [he, hw]; clear he hw e w'))
        | (go_at_call 18; go_must (refine (hrm _).mono ?_; rintro e w' ⟨he, hs, hf⟩; rw [he]; clear he e)))
      go_ret
      exact ⟨rfl, hs, (((Fr.refl (fun k => k = nb) w).drewN _).setCell (p := ⟨nb, 0, none⟩) rfl _).trans hf⟩
    | false =>
      go_enter Ybad.func12, Ybad.ntmps12
      go_wp2_with (first
        | (go_at_call 11; go_must (refine hh.mono ?_; rintro e w' ⟨he, k, hw⟩; rw [he, hw]; clear he hw e w')))
      go_ret
      exact ⟨rfl, Hn, (Fr.refl _ w).drewN _⟩
  | false =>
    have hok : okB false role h l v = (!hasI v role && metB v h l) := rfl
    rw [hok]
    clear hok
    have c2 := Hr.c2
    have c3 := Hr.c3
    unfold setV at c2 c3
    cases hb0 : hasI v role with
    | true =>
      rw [hb0] at hh HH
      go_enter Ybad.func12, Ybad.ntmps12
      go_wp2_with (first
        | (go_at_call 11; go_must (refine hh.mono ?_; rintro e w' ⟨he, k, hw⟩; rw [he, hw]; clear he hw e w')))
      go_ret
      exact ⟨rfl, Hn, (Fr.refl _ w).drewN _⟩
    | false =>
      rw [hb0] at hh HH
      have hmt := fun k => met_any hb lb sb h l v (w.drewN k) Hr.hh Hr.hl Hv
      unfold setV at hmt
      cases hm : metB v h l with
      | false =>
        rw [hm] at hmt
        go_enter Ybad.func12, Ybad.ntmps12
        go_wp2_with (first
          | (go_at_call 11; go_must (refine hh.mono ?_; rintro e w' ⟨he, k, hw⟩; rw [he, hw]; clear he hw e w'))
          | (go_at_call 19; go_must (refine (hmt _).mono ?_; rintro e w' ⟨he, hf⟩; rw [he]; clear he e)))
        go_ret
        have hf' : Fr (fun _ => False) w w' := ((Fr.refl _ w).drewN _).trans hf
        exact ⟨rfl, Hn.keep hf' (fun h => h), hf'.mono (fun _ _ h => h.elim)⟩
      | true =>
        rw [hm] at hmt
        go_enter Ybad.func12, Ybad.ntmps12
        go_wp2_with (first
          | (go_at_call 11; go_must (refine hh.mono ?_; rintro e w' ⟨he, k, hw⟩; rw [he, hw]; clear he hw e w'))
          | (go_at_call 19; go_must (refine (hmt _).mono ?_; rintro e w2 ⟨he, hf⟩; rw [he]; clear he e; have hf2 : Fr (fun _ => False) w w2 := ((Fr.refl _ w).drewN _).trans hf; have Hn2 := Hn.keep hf2 (fun h => h); have hcp := copy1 w2 Hn2 (Hv.keep hf2 (fun h => h)); have cr : ∀ u, (w2.setCell ⟨nb, 0, none⟩ u).cell? ⟨R, o + 4, none⟩ = some (.int .i64 role) := (fun u => (World.cell?_setCell_other _ _ _ _ (fun e => hne (congrArg Addr.block e))).trans (hf2.cell (fun h => h) c4)); have had := add_any nb [v] role (w2.setCell ⟨nb, 0, none⟩ (.int .u64 v)) (Hn2.put v) (by simp; omega) (by simp); simp only [show role / 64 = 0 by omega, List.length_cons, List.length_nil, Nat.zero_add, List.getD_cons_zero, List.set_cons_zero] at had; unfold setV at had))
          | (go_at_call 15; go_must (refine had.mono ?_; rintro e w' ⟨he, hs, hf3⟩; rw [he]; clear he e)))
        go_ret
        exact ⟨rfl, hs, ((hf2.mono (Q := fun k => k = nb) (fun _ _ h => h.elim)).setCell (p := ⟨nb, 0, none⟩) rfl _).trans hf3⟩
end Go.Proofs.YbulkdbsgDoor
