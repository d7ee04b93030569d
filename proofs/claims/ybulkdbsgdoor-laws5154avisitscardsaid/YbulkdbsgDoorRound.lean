/-
  ONE ROUND of the second loop of changes: what its three calls do.
-/
import Derived.Test.YbulkdbsgDoorSteps
namespace Go.Proofs.YbulkdbsgDoor
open Go.RowKit
set_option linter.unusedVariables false

theorem Fr.others {P : Nat → Prop} {W W' : World} (hf : Fr P W W') (h : ∀ q, P q → ∃ o : Obj, W.heap[q]? = some o ∧ o.isCells = true) : KeepsOthers W W' := by
  refine ⟨hf.size, fun k o hk ho => ?_⟩
  refine (hf.block k (lt_of_block hk) (fun hp => ?_)).trans hk
  obtain ⟨o', h1, h2⟩ := h k hp
  rw [hk] at h1
  cases h1
  rw [ho] at h2
  cases h2

/-- The second loop's memory, within a round. -/
structure In2 (wB W wq : World) (N : Nums) (L : List Stp) : Prop where
  got : GotAt wq wB.heap.size N.Bg N.Bc L
  set : ∃ x, SetAt wq N.sb [x]
  fr : Fr (Out N.Bg N.Bc N.sb) wB wq
  ko : KeepsOthers W wq

theorem In2.alloc {wB W wq : World} {N : Nums} {L : List Stp} (h : In2 wB W wq N L) (o : Obj) (j : Nat) : In2 wB W ((wq.alloc o).drewN j) N L := by
  have hf : Fr (fun _ => False) wq ((wq.alloc o).drewN j) := ((Fr.refl _ wq).alloc o).drewN j
  obtain ⟨x, hx⟩ := h.set
  exact ⟨h.got.keep hf (fun h => h) (fun h => h) (fun _ _ h => h), ⟨x, hx.keep hf (fun h => h)⟩, h.fr.trans (hf.mono (fun _ _ h => h.elim)), h.ko.trans (hf.others (fun _ h => h.elim))⟩

theorem In2.new {wB W wq w' : World} {N : Nums} {L : List Stp} (h : In2 wB W wq N L) (hf : Fr (fun _ => False) wq w') : In2 wB W w' N L := by
  obtain ⟨x, hx⟩ := h.set
  exact ⟨h.got.keep hf (fun h => h) (fun h => h) (fun _ _ h => h), ⟨x, hx.keep hf (fun h => h)⟩, h.fr.trans (hf.mono (fun _ _ h => h.elim)), h.ko.trans (hf.others (fun _ h => h.elim))⟩

theorem has_app {W : World} {N : Nums} {ru : Nat → Ru} {cb : Nat → Nat} {vs : Nat → Int} {ab : Nat → Nat} (hE : Env W N ru cb vs ab) (ok : EnvOk N ru cb ab) {k i : Nat} (hk : k < N.nr) (hi : i < N.n) :
    Calls Ybad.prog 11 #[setV (ab i) N.m, .int .i64 k] W fun e w' => e = .returned (.bool (okR (ru k) (vs i))) ∧ ∃ j, w' = W.drewN j := by
  have h1 := ok.m
  have h2 := ok.nr
  have hl := appW_len N.m ru (vs i) N.nr
  have := has_any (ab i) (appW N.m ru (vs i) N.nr) k W (hE.sets i hi) (by rw [hl]; omega) (by rw [hl]; omega)
  rw [hl, (appW_bits N.m N.nr ru (vs i) N.nr (by omega)).has (k := k) (by omega)] at this
  simpa [hk] using this

theorem round_step {wB W wq : World} {N : Nums} {ru : Nat → Ru} {cb : Nat → Nat} {vs : Nat → Int} {ab : Nat → Nat} {L : List Stp} (hB : Env wB N ru cb vs ab) (ok : EnvOk N ru cb ab) {k i : Nat} (hk : k < N.nr) (hi : i < N.n) (h : In2 wB W wq N L) (hL : L.length ≤ 65536)
    (hg : N.Bg < wB.heap.size) (hc : N.Bc < wB.heap.size) (hsb : N.sb < wB.heap.size) (hok : okR (ru k) (vs i) = true) :
    Calls Ybad.prog 12 #[.pointer (some ⟨N.R, k * 5, none⟩), setV N.sb 1, setV (cb i) 1] wq fun e w' => e = .returned (.bool true) ∧ w'.cell? ⟨N.b5, 0, none⟩ = some (.func (.func 4) #[] #[.pointer (some ⟨N.Bs, 0, none⟩), .pointer (some ⟨N.Bb, 0, none⟩), .pointer (some ⟨N.Bg, 0, none⟩), .pointer (some ⟨N.Bc, 0, none⟩), .pointer (some ⟨N.Bt, 0, none⟩)]) ∧
      w'.cell? ⟨N.b6, 0, none⟩ = some (setV N.sb 1) ∧
      Calls Ybad.prog 4 #[.pointer (some ⟨N.R, k * 5, none⟩), .int .i64 i, setV N.sb 1, .pointer (some ⟨N.Bs, 0, none⟩), .pointer (some ⟨N.Bb, 0, none⟩), .pointer (some ⟨N.Bg, 0, none⟩), .pointer (some ⟨N.Bc, 0, none⟩), .pointer (some ⟨N.Bt, 0, none⟩)] w' fun e w'' =>
        e = .returned (.bool (decide (¬ L.length + 1 = N.stop))) ∧ In2 wB W w'' N (L ++ [(k, i, nxI (ru k).rv (ru k).role (vs i))]) := by
  have hE := hB.keep ok h.fr
  obtain ⟨x, hx⟩ := h.set
  have hsz := h.fr.size
  have hRs : ¬ N.R = N.sb := fun e => (ok.r k hk).1 (.inr (.inr e))
  have happ := apply_any N.R (k * 5) N.sb (cb i) _ _ _ _ _ _ _ (vs i) x wq (hE.rule k hk) hx (hE.cls.s i hi) (by have := ok.adm k hk; omega) (fun e => hRs e.symm)
  have hokB : okB (ru k).rv (ru k).role (ru k).h (ru k).l (vs i) = true := hok
  rw [hokB] at happ
  simp only [if_true] at happ
  refine happ.mono fun e w' ⟨he, hs', hf'⟩ => ?_
  have hfO : Fr (Out N.Bg N.Bc N.sb) wq w' := hf'.mono (fun _ _ e => .inr (.inr e))
  have hE' := hE.keep ok hfO
  have hg' : GotAt w' wB.heap.size N.Bg N.Bc L := h.got.keep hf' ok.gs ok.cs (fun q hq e => by have e : q = N.sb := e; omega)
  have hko' : KeepsOthers W w' := h.ko.trans (hf'.others (fun q e => by have e : q = N.sb := e; subst e; exact ⟨_, hx, rfl⟩))
  refine ⟨he, hE'.c5, hE'.c6, ?_⟩
  refine (visit_any N.Bs N.Bb N.Bg N.Bc N.Bt N.S N.R N.nr N.cr wB.heap.size N.sb k i N.stop _ L w' hg' hE'.bs hE'.r2 (hE'.rows k hk) hE'.bt hs' hk ok.nr ok.st hL (by have := hf'.size; omega) ok.gc hg hc ⟨fun e => ok.bt (.inl e), fun e => ok.bt (.inr (.inl e)), World.block_lt_of_cell? wB _ hB.bt⟩).mono fun e w'' ⟨he, hgot, hf2⟩ => ?_
  refine ⟨he, hgot, ⟨_, hs'.keep hf2 ?_⟩, Fr.transNew (h.fr.trans hfO) hf2 ?_, hko'.trans (hf2.others ?_)⟩
  · rintro (e | e | ⟨e, _⟩)
    · exact ok.gs e.symm
    · exact ok.cs e.symm
    · omega
  · rintro q hq (e | e | ⟨e, _⟩)
    · exact .inl e
    · exact .inr (.inl e)
    · omega
  · obtain ⟨gv, hgv, _⟩ := hg'.got
    rintro q (e | e | ⟨_, cur, e⟩)
    · subst e; exact cells_of_cell hgv
    · subst e; exact cells_of_cell hg'.calls
    · exact ⟨_, e, rfl⟩
end Go.Proofs.YbulkdbsgDoor
