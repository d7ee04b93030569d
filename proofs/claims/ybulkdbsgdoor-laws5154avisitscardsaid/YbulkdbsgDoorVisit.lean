/-
  CONTRACT of the closure visit.
-/
import Derived.Test.YbulkdbsgDoorJoin
import Derived.LaidEqlPtr
import Derived.Deep.RegionLaw
import Derived.Deep.RegionWith
namespace Go.Proofs.YbulkdbsgDoor
open Go.RowKit
set_option linter.unusedVariables false

theorem step_append_own {P : Program} {ops : Array Oper} {o : Oper} {a : Act} {w : World} {K : Act → World → Prop} {Q : Exit → Act → World → Prop} {E : Prop} (hg : o.guard = none) (s x : Operand) (t : TypeId)
    (ho : o.op = .call { callee := .builtin .append, args := #[s, x], argTypes := #[t, t] })
    (base : Nat) (e : TypeId) (i : TypeInfo) (z : Value) (size bytes : Nat) (ht : P.underlying t = some (.slice e)) (hi : P.info? e = some i) (hz : i.zero = some z)
    (hsize : i.size = size) (hby : i.bytes = bytes) (hzs : z.cells.size = size) (hsz : 0 < size)
    (v : Value) (n : Nat) (xs : List Value) (hs : a.eval s = v) (hown : w.ownsRow base e size v n xs)
    (ad : Addr) (m c : Nat) (news : List Value) (hx : a.eval x = .slice (some ad) m c) (hl : news.length = m * size) (hnews : ∀ j u, news[j]? = some u → w.cell? (ad.add j) = some u) (h1 : ∀ u ∈ news, u.oneCell' = true)
    (h63 : n + m ≤ maxLen) (hbytes : (n + m) * bytes ≤ 140737488355328) (hbase : base ≤ w.heap.size)
    (h : ∀ v' w', w'.ownsRow base e size v' (n + m) (xs ++ news) → w.grownBy w' v.ownBlock → K (a.put o.dst v') w') :
    if Region.wanted o (yielded ops a.tmps) = true then Oper.wp P o a w K Q else E := by
  have hw : Region.wanted o (yielded ops a.tmps) = true := by simp [Region.wanted, hg]
  rw [if_pos hw]
  exact wp_append_own w s x t ho base e i z size bytes ht hi hz hsize hby hzs hsz v n xs hs hown ad m c news hx hl hnews h1 h63 hbytes hbase (fun v' w' h2 h3 _ => h v' w' h2 h3)

abbrev Stp := Nat × Nat × Int
def stC (p : Stp) : List Value := [.int .i64 p.1, .int .i64 p.2.1, .int .u64 p.2.2]
def stepCs (L : List Stp) : List Value := L.flatMap stC
theorem stepCs_snoc (L : List Stp) (p : Stp) : stepCs (L ++ [p]) = stepCs L ++ stC p := by simp [stepCs]
theorem stepCs_len (L : List Stp) : (stepCs L).length = L.length * 3 := by
  induction L with
  | nil => rfl
  | cons a L ih => simp [stepCs, stC] at ih ⊢; omega

theorem info51 : (Ybad.prog.info? 51).map (fun i => (i.zero, i.size, i.bytes)) = some (some (.agg #[.int .i64 0, .int .i64 0, .int .u64 0]), 3, 24) := by kernel_rfl
theorem info43s : (Ybad.prog.info? 43).map (fun i => i.size) = some 5 := by kernel_rfl

/-- The law's own variables, between two calls of visit. -/
structure GotAt (w : World) (base Bg Bc : Nat) (L : List Stp) : Prop where
  got : ∃ gv, w.cell? ⟨Bg, 0, none⟩ = some gv ∧ w.ownsRow base 51 3 gv L.length (stepCs L)
  gf : w.frozen? ⟨Bg, 0, none⟩ = false
  calls : w.cell? ⟨Bc, 0, none⟩ = some (.int .i64 L.length)
  cf : w.frozen? ⟨Bc, 0, none⟩ = false

theorem GotAt.keep {w w' : World} {base Bg Bc : Nat} {L : List Stp} (h : GotAt w base Bg Bc L) {P : Nat → Prop} (hf : Fr P w w') (h1 : ¬ P Bg) (h2 : ¬ P Bc) (h3 : ∀ k, base ≤ k → ¬ P k) : GotAt w' base Bg Bc L := by
  obtain ⟨gv, hg, ho⟩ := h.got
  exact ⟨⟨gv, hf.cell h1 hg, hf.owns ho (fun k hk => h3 k (ho.lt k hk).1)⟩, (hf.frozen (p := ⟨Bg, 0, none⟩) h1 (World.block_lt_of_cell? w _ hg)).trans h.gf, hf.cell h2 h.calls, (hf.frozen (p := ⟨Bc, 0, none⟩) h2 (World.block_lt_of_cell? w _ h.calls)).trans h.cf⟩

theorem ptr_eql (w : World) (R i k : Nat) (hR : ∃ cs t, w.heap[R]? = some (.cells cs t (0, 0))) : (binOp .eql 49 (.pointer (some ⟨R, i * 5, none⟩)) (.pointer (some ⟨R, k * 5, none⟩))).run Ybad.prog w = .ok (.bool (decide (i = k))) w := by
  obtain ⟨cs, t, hR⟩ := hR
  obtain ⟨j, hj, hs⟩ : ∃ j, Ybad.prog.info? 43 = some j ∧ j.size = 5 := by
    have := info43s
    cases h : Ybad.prog.info? 43 with
    | none => rw [h] at this; cases this
    | some j => rw [h] at this; exact ⟨j, rfl, by simpa using this⟩
  by_cases e : i = k
  · subst e
    rw [run_eql_ptr_same w _ Ybad.underlying49 hj]
    simp
  · rw [run_eql_ptr_other w Ybad.underlying49 hj (by omega) (by intro h; apply e; have := congrArg Addr.off h; simp at this; omega) hR hR]
    simp [e]

theorem three_news {w : World} {u v x : Value} {e : TypeId} : ∀ j y, [u, v, x][j]? = some y → (w.alloc (.cells #[u, v, x] e)).drew.cell? ((⟨w.heap.size, 0, none⟩ : Addr).add j) = some y := by
  intro j y hj
  have hh := heap_alloc_new w (.cells #[u, v, x] e)
  match j, hj with
  | 0, hj => simp at hj; subst hj; exact (cells_of_block (w := (w.alloc (.cells #[u, v, x] e)).drew) hh 0)
  | 1, hj => simp at hj; subst hj; exact (cells_of_block (w := (w.alloc (.cells #[u, v, x] e)).drew) hh 1)
  | 2, hj => simp at hj; subst hj; exact (cells_of_block (w := (w.alloc (.cells #[u, v, x] e)).drew) hh 2)

theorem afterAppendD {w w2 : World} {o : Obj} {row : Option Nat} (h : (w.alloc o).drew.grownBy w2 row) : Fr (fun b => row = some b) w w2 :=
  ((Fr.refl _ _).alloc o).drew.grown h (fun _ hk _ => hk)

theorem own51 {w : World} {base n k : Nat} {gv : Value} {xs : List Value} (hown : w.ownsRow base 51 3 gv n xs) (h : gv.ownBlock = some k) : base ≤ k ∧ ∃ cur, w.heap[k]? = some (.cells cur 51 (0, 0)) := by
  rcases hown.2 with ⟨rfl, _⟩ | ⟨g, cap, cur, rfl, hb, hg, _⟩
  · simp [Value.ownBlock] at h
  · simp [Value.ownBlock] at h
    subst h
    exact ⟨hb, cur, hg⟩

theorem visit_end {w w3 : World} {base Bg Bc g3 c3 stop i from' : Nat} {v : Int} {L : List Stp} {gv : Value} (hown3 : w3.ownsRow base 51 3 (.slice (some ⟨g3, 0, none⟩) (L.length + 1) c3) (L.length + 1) (stepCs L ++ stC (i, from', v)))
    (hfr3 : Fr (fun b => gv.ownBlock = some b) w w3) (d1 : w3.cell? ⟨Bg, 0, none⟩ = some gv) (d2 : w3.cell? ⟨Bc, 0, none⟩ = some (.int .i64 L.length)) (f1 : w3.frozen? ⟨Bg, 0, none⟩ = false) (f2 : w3.frozen? ⟨Bc, 0, none⟩ = false)
    (hown : w.ownsRow base 51 3 gv L.length (stepCs L)) (hgb : Bg < base) (hcb : Bc < base) (hgc : ¬ Bg = Bc) :
    Ending.returned (.bool ((L.length : Int) + 1 != (stop : Int))) = Ending.returned (.bool (decide (¬ L.length + 1 = stop))) ∧ GotAt ((w3.setCell ⟨Bg, 0, none⟩ (.slice (some ⟨g3, 0, none⟩) (L.length + 1) c3)).setCell ⟨Bc, 0, none⟩ (.int .i64 ((L.length : Int) + 1))) base Bg Bc (L ++ [(i, from', v)]) ∧
      Fr (fun q => q = Bg ∨ q = Bc ∨ (base ≤ q ∧ ∃ cur, w.heap[q]? = some (.cells cur 51 (0, 0)))) w ((w3.setCell ⟨Bg, 0, none⟩ (.slice (some ⟨g3, 0, none⟩) (L.length + 1) c3)).setCell ⟨Bc, 0, none⟩ (.int .i64 ((L.length : Int) + 1))) := by
  have F : Fr (fun q => q = Bg ∨ q = Bc) w3 ((w3.setCell ⟨Bg, 0, none⟩ (.slice (some ⟨g3, 0, none⟩) (L.length + 1) c3)).setCell ⟨Bc, 0, none⟩ (.int .i64 ((L.length : Int) + 1))) :=
    ((Fr.refl (fun q => q = Bg ∨ q = Bc) w3).setCell (p := ⟨Bg, 0, none⟩) (.inl rfl) _).setCell (p := ⟨Bc, 0, none⟩) (.inr rfl) _
  have hne : (⟨Bc, 0, none⟩ : Addr) ≠ ⟨Bg, 0, none⟩ := fun e => hgc (congrArg Addr.block e).symm
  have hne' : (⟨Bg, 0, none⟩ : Addr) ≠ ⟨Bc, 0, none⟩ := fun e => hgc (congrArg Addr.block e)
  refine ⟨?_, ⟨⟨.slice (some ⟨g3, 0, none⟩) (L.length + 1) c3, ?_, ?_⟩, ?_, ?_, ?_⟩, (hfr3.mono (fun k _ h => .inr (.inr (own51 hown h)))).trans (F.mono (fun k _ h => h.elim .inl (fun h => .inr (.inl h))))⟩
  · congr 2
    by_cases h : L.length + 1 = stop
    · have : (L.length : Int) + 1 = stop := by omega
      simp [h, this]
    · have : ¬ (L.length : Int) + 1 = stop := by omega
      simp [h, this]
  · first
      | (rw [World.cell?_setCell_other _ _ _ _ hne]; exact World.cell?_setCell_same _ _ _ d1)
      | (rw [World.cell?_setCell_other _ _ _ _ hne']; exact World.cell?_setCell_same _ _ _ d1)
  · rw [stepCs_snoc, List.length_append]
    refine F.owns hown3 (fun k hk h => ?_)
    have := (hown3.lt k hk).1
    omega
  · rw [World.frozen?_setCell, World.frozen?_setCell]; exact f1
  · rw [List.length_append]
    have e : (w3.setCell ⟨Bg, 0, none⟩ (.slice (some ⟨g3, 0, none⟩) (L.length + 1) c3)).cell? ⟨Bc, 0, none⟩ = some (.int .i64 L.length) := by
      first
        | (rw [World.cell?_setCell_other _ _ _ _ hne]; exact d2)
        | (rw [World.cell?_setCell_other _ _ _ _ hne']; exact d2)
    exact World.cell?_setCell_same _ _ _ e
  · rw [World.frozen?_setCell, World.frozen?_setCell]; exact f2

set_option maxHeartbeats 2000000 in
theorem visit_any (Bs Bb Bg Bc Bt S R nr cr base sb k from' stop : Nat) (v : Int) (L : List Stp) (w : World) (hg : GotAt w base Bg Bc L) (hbs : w.cell? ⟨Bs, 0, none⟩ = some (.pointer (some ⟨S, 0, none⟩)))
    (hr : w.cell? ⟨S, 2, none⟩ = some (rulesV R nr cr)) (hR : ∃ cs t, w.heap[R]? = some (.cells cs t (0, 0))) (hbt : w.cell? ⟨Bt, 0, none⟩ = some (.int .u8 stop)) (hs : SetAt w sb [v]) (hk : k < nr) (hnr : nr ≤ 256) (hst : stop ≤ 255) (hL : L.length ≤ 65536)
    (hbase : base ≤ w.heap.size) (hgc : ¬ Bg = Bc) (hgb : Bg < base) (hcb : Bc < base) (htg : ¬ Bt = Bg ∧ ¬ Bt = Bc ∧ Bt < base) :
    Calls Ybad.prog 4 #[.pointer (some ⟨R, k * 5, none⟩), .int .i64 from', setV sb 1, .pointer (some ⟨Bs, 0, none⟩), .pointer (some ⟨Bb, 0, none⟩), .pointer (some ⟨Bg, 0, none⟩), .pointer (some ⟨Bc, 0, none⟩), .pointer (some ⟨Bt, 0, none⟩)] w fun e w' =>
      e = .returned (.bool (decide (¬ L.length + 1 = stop))) ∧ GotAt w' base Bg Bc (L ++ [(k, from', v)]) ∧ Fr (fun q => q = Bg ∨ q = Bc ∨ (base ≤ q ∧ ∃ cur, w.heap[q]? = some (.cells cur 51 (0, 0)))) w w' := by
  have hrv : rulesV R nr cr = .slice (some ⟨R, 0, none⟩) nr cr := by unfold rulesV; rw [if_neg (by omega)]
  rw [hrv] at hr
  obtain ⟨i51, hi51, hy0, hy1, hy2⟩ := info_parts info51
  obtain ⟨gv, hgc0, hown⟩ := hg.got
  have hgf := hg.gf
  have hcc := hg.calls
  have hcf := hg.cf
  have hv := hs.one
  have hpe := fun w (h : ∃ cs t, w.heap[R]? = some (.cells cs t (0, 0))) i => ptr_eql w R i k h
  unfold setV
  go_enter Ybad.func4, Ybad.ntmps4
  go_wp2
  go_loopw [19, 12] (fun t k' wr => ∃ i : Nat, i ≤ k ∧ t = .int .i64 i ∧ k' = .int .i64 (-1) ∧ wr = w) (fun t _ _ => k + 1 - (intOf t).toNat)
  case atStart => exact ⟨0, Nat.zero_le _, rfl, rfl, rfl⟩
  case round =>
    obtain ⟨i, hi, rfl, rfl, rfl⟩ := hrel
    have hiI : (i : Int) < nr := by omega
    have hpe1 := hpe wr hR i
    by_cases hik : i = k
    · subst hik
      simp only [decide_true] at hpe1
      have hiI2 : ((L.length : Int) + 1) ≤ 70000 := by omega
      have hga : ∀ o, (wr.alloc o).cell? ⟨Bg, 0, none⟩ = some gv := fun o => ((Fr.refl (fun _ => False) wr).alloc o).cell (fun h => h) hgc0
      have hnw : ∀ j u, (stC (i, from', v))[j]? = some u → (wr.alloc (.cells #[.int .i64 i, .int .i64 from', .int .u64 v] 51)).drew.cell? ((⟨wr.heap.size, 0, none⟩ : Addr).add j) = some u := three_news
      have HW : Hid _ := hnw
      have HO : Hid (wr.ownsRow base 51 3 gv L.length (stepCs L)) := hown
      have HR : Hid _ := hR
      have hno : ∀ q, q < base → ¬ gv.ownBlock = some q := fun q hq e => by have := (hown.lt q e).1; omega
      have HN : Hid _ := hno
      clear hnw hown hpe hR hno
      go_wp2
      go_region_law (refine step_append_own rfl (.tmp 35) (.tmp 42) 48 rfl base 51 i51 (.agg #[.int .i64 0, .int .i64 0, .int .u64 0]) 3 24 Ybad.underlying48 hi51 hy0 hy1 hy2 rfl (by decide) gv L.length (stepCs L) (by simp [Act.eval]) (HO.out.alloc _).drew ⟨wr.heap.size, 0, none⟩ 1 1 (stC (i, from', v)) (by simp [Act.eval]) rfl HW.out (by intro u hu; simp [stC] at hu; rcases hu with rfl | rfl | rfl <;> rfl) (by unfold maxLen; omega) (by omega) (by simp; omega) ?_; intro v2 w3 hown3 hgrow3; obtain ⟨g3, c3, hv3, hg3, _, _⟩ := owns_pos hown3 (by omega); subst hv3; have hfr3 := afterAppendD hgrow3; clear hgrow3; have d1 := hfr3.cell (p := ⟨Bg, 0, none⟩) (HN.out _ hgb) hgc0; have d2 := hfr3.cell (p := ⟨Bc, 0, none⟩) (HN.out _ hcb) hcc; have d3 := hfr3.cell (p := ⟨Bt, 0, none⟩) (HN.out _ htg.2.2) hbt; have f1 := (hfr3.frozen (p := ⟨Bg, 0, none⟩) (HN.out _ hgb) (World.block_lt_of_cell? wr _ hgc0)).trans hgf; have f2 := (hfr3.frozen (p := ⟨Bc, 0, none⟩) (HN.out _ hcb) (World.block_lt_of_cell? wr _ hcc)).trans hcf)
      all_goals go_wp2
      all_goals go_ret
      all_goals exact visit_end hown3 hfr3 d1 d2 f1 f2 HO.out hgb hcb hgc
    · simp only [hik, decide_false] at hpe1
      go_wp2
      go_roundw
      case rel => exact ⟨i + 1, by omega, by go_num, by first | trivial | rfl, by first | trivial | rfl⟩
      case measure => simp [intOf]; omega
end Go.Proofs.YbulkdbsgDoor
