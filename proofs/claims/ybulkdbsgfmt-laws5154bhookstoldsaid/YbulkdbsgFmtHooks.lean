/-
  CONTRACTS for LawS5154BHooks: the law's closure; Scanner.Pos, position, fail.
-/
import Derived.Test.YbulkdbsgFmtNew
namespace Go.Proofs.YbulkdbsgFmt
open Go.RowKit
set_option linter.unusedVariables false

theorem Ybaf.info21 : (Ybaf.prog.info? 21).map (fun i => (i.zero, i.size, i.bytes)) = some (some (.int .i32 0), 1, 4) := by kernel_rfl
theorem Ybaf.info3 : (Ybaf.prog.info? 3).map (fun i => (i.zero, i.size, i.bytes)) = some (some (.int .i64 0), 1, 8) := by kernel_rfl

theorem afterAppend {w w2 : World} {o : Obj} {row : Option Nat} (h : (w.alloc o).grownBy w2 row) : Fr (fun b => row = some b) w w2 :=
  ((Fr.refl _ _).alloc o).grown h (fun _ hk _ => hk)

theorem closure_end {w w1 w2 : World} {L I gl cl gi ci : Nat} {c j : Int} {x y : Value} (n1 : ¬ L = I) (hlL : L < w.heap.size) (hlI : I < w.heap.size) (hfr1 : Fr (fun b => (Value.slice none 0 0).ownBlock = some b) w w1)
    (hown1 : w1.ownsRow w.heap.size 21 1 (.slice (some ⟨gl, 0, none⟩) (0 + 1) cl) (0 + 1) ([] ++ [.int .i32 c])) (hgl : w.heap.size ≤ gl) (e3 : w1.cell? ⟨L, 0, none⟩ = some x)
    (hfr2 : Fr (fun b => (Value.slice none 0 0).ownBlock = some b) (w1.setCell ⟨L, 0, none⟩ (.slice (some ⟨gl, 0, none⟩) 1 cl)) w2)
    (hown2 : w2.ownsRow w1.heap.size 3 1 (.slice (some ⟨gi, 0, none⟩) (0 + 1) ci) (0 + 1) ([] ++ [.int .i64 j])) (hgi : w1.heap.size ≤ gi) (e8 : w2.cell? ⟨I, 0, none⟩ = some y) :
    (w2.setCell ⟨I, 0, none⟩ (.slice (some ⟨gi, 0, none⟩) 1 ci)).cell? ⟨L, 0, none⟩ = some (.slice (some ⟨gl, 0, none⟩) 1 cl) ∧ (w2.setCell ⟨I, 0, none⟩ (.slice (some ⟨gi, 0, none⟩) 1 ci)).cell? ⟨gl, 0, none⟩ = some (.int .i32 c) ∧
      (w2.setCell ⟨I, 0, none⟩ (.slice (some ⟨gi, 0, none⟩) 1 ci)).cell? ⟨I, 0, none⟩ = some (.slice (some ⟨gi, 0, none⟩) 1 ci) ∧ (w2.setCell ⟨I, 0, none⟩ (.slice (some ⟨gi, 0, none⟩) 1 ci)).cell? ⟨gi, 0, none⟩ = some (.int .i64 j) ∧
      Fr (fun b => b = L ∨ b = I) w (w2.setCell ⟨I, 0, none⟩ (.slice (some ⟨gi, 0, none⟩) 1 ci)) := by
  have s1 := hfr1.size
  have c1 : w1.cell? ⟨gl, 0, none⟩ = some (.int .i32 c) := (hown1.cellAt 0 (by decide)).trans rfl
  have c2 : w2.cell? ⟨gi, 0, none⟩ = some (.int .i64 j) := (hown2.cellAt 0 (by decide)).trans rfl
  have nn : ∀ b, ¬ (Value.slice none 0 0).ownBlock = some b := by simp [Value.ownBlock]
  have other : ∀ (W : World) (x y : Nat) (v : Value), ¬ x = y → (W.setCell ⟨x, 0, none⟩ v).cell? ⟨y, 0, none⟩ = W.cell? ⟨y, 0, none⟩ := fun W x y v h => World.cell?_setCell_other W ⟨x, 0, none⟩ ⟨y, 0, none⟩ v (fun e => h (congrArg Addr.block e))
  refine ⟨?_, ?_, World.cell?_setCell_same _ _ _ e8, ?_, ?_⟩
  · rw [other _ _ _ _ (fun e => n1 e.symm)]
    exact hfr2.cell (nn _) (World.cell?_setCell_same _ _ _ e3)
  · rw [other _ _ _ _ (by omega)]
    exact hfr2.cell (nn _) ((other _ _ _ _ (by omega)).trans c1)
  · rw [other _ _ _ _ (by omega)]; exact c2
  · have f1 : Fr (fun b => b = L ∨ b = I) w w1 := hfr1.mono (fun k _ h => absurd h (nn k))
    have f2 := Fr.setCell (p := ⟨L, 0, none⟩) f1 (.inl rfl) (.slice (some ⟨gl, 0, none⟩) 1 cl)
    have f3 := f2.trans (hfr2.mono (fun k _ h => absurd h (nn k)))
    exact Fr.setCell (p := ⟨I, 0, none⟩) f3 (.inr rfl) _

set_option maxHeartbeats 1000000 in
theorem closure_any (c j word k : Int) (L I Wd K : Nat) (w : World)
    (hL : w.heap[L]? = some (.cells #[.slice none 0 0] 23 (0, 0))) (hI : w.heap[I]? = some (.cells #[.slice none 0 0] 59 (0, 0))) (hW : w.cell? ⟨Wd, 0, none⟩ = some (.int .i32 word)) (hK : w.cell? ⟨K, 0, none⟩ = some (.int .i64 k))
    (n1 : ¬ L = I) (n2 : ¬ Wd = L) (n3 : ¬ Wd = I) (n4 : ¬ K = L) (n5 : ¬ K = I) :
    Calls Ybaf.prog 7 #[.int .i32 c, .int .i64 j, .pointer (some ⟨L, 0, none⟩), .pointer (some ⟨I, 0, none⟩), .pointer (some ⟨Wd, 0, none⟩), .pointer (some ⟨K, 0, none⟩)] w fun e w' =>
      e = .returned (.bool (c == word || j == k)) ∧ ∃ gl cl gi ci : Nat, w'.cell? ⟨L, 0, none⟩ = some (.slice (some ⟨gl, 0, none⟩) 1 cl) ∧ w'.cell? ⟨gl, 0, none⟩ = some (.int .i32 c) ∧ w'.cell? ⟨I, 0, none⟩ = some (.slice (some ⟨gi, 0, none⟩) 1 ci) ∧ w'.cell? ⟨gi, 0, none⟩ = some (.int .i64 j) ∧ Fr (fun b => b = L ∨ b = I) w w' := by
  obtain ⟨i21, hi21, hx0, hx1, hx2⟩ := info_parts Ybaf.info21
  obtain ⟨i3, hi3, hy0, hy1, hy2⟩ := info_parts Ybaf.info3
  have n1' : ¬ I = L := fun e => n1 e.symm
  have cL := cells_of_block hL 0
  simp at cL
  have hlL := lt_of_block hL
  have hlI := lt_of_block hI
  go_enter Ybaf.func7, Ybaf.ntmps7
  go_wp2_with (first
    | (at_builtin; refine wpList_append_own _ rfl (.tmp 9) (.tmp 11) 23 rfl w.heap.size 21 i21 (.int .i32 0) 1 4 Ybaf.underlying23 hi21 hx0 hx1 hx2 rfl (by decide) (.slice none 0 0) 0 [] rfl (World.ownsRow_nil _ _ _ _) ⟨w.heap.size, 0, none⟩ 1 1 [.int .i32 c] rfl rfl one_news (by intro u hu; simp at hu; subst hu; rfl) (by decide) (by decide) (by simp) ?_; intro v1 w1 hown1 hgrow1 hnil1; clear hnil1; obtain ⟨gl, cl, hv1, hgl, _, _⟩ := owns_pos hown1 (by decide); subst hv1; have hfr1 := afterAppend hgrow1; clear hgrow1; have e1 := hfr1.heap (b := L) (by simp [Value.ownBlock]) hL; have e2 := hfr1.heap (b := I) (by simp [Value.ownBlock]) hI; have e3 := cells_of_block e1 0; have e4 := free_of_block e1 0; have e5 := cells_of_block e2 0; simp at e3 e5)
    | (at_builtin; refine wpList_append_own _ rfl (.tmp 13) (.tmp 15) 59 rfl w1.heap.size 3 i3 (.int .i64 0) 1 8 Ybaf.underlying59 hi3 hy0 hy1 hy2 rfl (by decide) (.slice none 0 0) 0 [] rfl (World.ownsRow_nil _ _ _ _) ⟨w1.heap.size, 0, none⟩ 1 1 [.int .i64 j] rfl rfl (by have h := @one_news (w1.setCell ⟨L, 0, none⟩ (.slice (some ⟨gl, 0, none⟩) 1 cl)) (.int .i64 j) 3; simpa using h) (by intro u hu; simp at hu; subst hu; rfl) (by decide) (by decide) (by simp) ?_; intro v2 w2 hown2 hgrow2 hnil2; clear hnil2; obtain ⟨gi, ci, hv2, hgi, _, _⟩ := owns_pos hown2 (by decide); subst hv2; have hfr2 := afterAppend hgrow2; clear hgrow2; have e6 := (heap_setCell_other w1 ⟨L, 0, none⟩ I (.slice (some ⟨gl, 0, none⟩) 1 cl) n1').trans e2; have e7 := hfr2.heap (b := I) (by simp [Value.ownBlock]) e6; have e8 := cells_of_block e7 0; have e9 := free_of_block e7 0; simp at e8; have q1 := hfr2.cell (p := ⟨Wd, 0, none⟩) (by simp [Value.ownBlock]) ((World.cell?_setCell_other w1 ⟨L, 0, none⟩ ⟨Wd, 0, none⟩ (.slice (some ⟨gl, 0, none⟩) 1 cl) (fun e => n2 (congrArg Addr.block e).symm)).trans (hfr1.cell (by simp [Value.ownBlock]) hW)); have q2 := hfr2.cell (p := ⟨K, 0, none⟩) (by simp [Value.ownBlock]) ((World.cell?_setCell_other w1 ⟨L, 0, none⟩ ⟨K, 0, none⟩ (.slice (some ⟨gl, 0, none⟩) 1 cl) (fun e => n4 (congrArg Addr.block e).symm)).trans (hfr1.cell (by simp [Value.ownBlock]) hK))))
  all_goals go_ret
  all_goals
    refine ⟨by simp_all, gl, cl, gi, ci, ?_⟩
    exact closure_end n1 hlL hlI hfr1 hown1 hgl e3 hfr2 hown2 hgi e8
set_option maxHeartbeats 1000000 in
theorem pos_any (S : Nat) (path : ByteArray) (w : World) (c1 : w.cell? ⟨S, 1044, none⟩ = some (.string path)) (c2 : w.cell? ⟨S, 1028, none⟩ = some (.int .i64 0)) (c3 : w.cell? ⟨S, 1026, none⟩ = some (.int .i64 0)) (c4 : w.cell? ⟨S, 1032, none⟩ = some (.int .i64 0)) (c5 : w.cell? ⟨S, 1030, none⟩ = some (.int .i64 0)) (c6 : w.cell? ⟨S, 1031, none⟩ = some (.int .i64 0)) :
    Calls Ybaf.prog 12 #[.pointer (some ⟨S, 0, none⟩)] w fun e w' => e = .returned (.agg #[.string path, .int .i64 0, .int .i64 1, .int .i64 1]) ∧ Fr (fun _ => False) w w' := by
  have hlt := World.block_lt_of_cell? w _ c1
  simp at hlt
  have hne : ¬ S = w.heap.size := by omega
  go_enter Ybaf.func12, Ybaf.ntmps12
  go_wp2
  go_region
  all_goals go_wp2
  exact bodyPost_ret (v := .agg #[.string path, .int .i64 0, .int .i64 1, .int .i64 1]) (by simp [results, Ybaf.results12, go_sem]) rfl ⟨rfl, ((Fr.refl _ _).alloc _).drew⟩

theorem conv_nil (w : World) : (convert 38 9 (.slice none 0 0)).run Ybaf.prog w = .ok (.string ⟨#[]⟩) w := by kernel_rfl
attribute [local go_sem] conv_nil

set_option maxHeartbeats 1000000 in
theorem position_any (S : Nat) (path : ByteArray) (w : World) (c1 : w.cell? ⟨S, 1050, none⟩ = some (.slice none 0 0)) :
    Calls Ybaf.prog 11 #[.pointer (some ⟨S, 0, none⟩), .agg #[.string path, .int .i64 0, .int .i64 1, .int .i64 1]] w fun e w' => e = .returned (.agg #[.string path, .int .i64 0, .int .i64 1, .int .i64 1]) ∧ Fr (fun _ => False) w w' := by
  have hlt := World.block_lt_of_cell? w _ c1
  simp at hlt
  have hne : ¬ S = w.heap.size := by omega
  have hne2 : ¬ S = w.heap.size + 1 := by omega
  go_enter Ybaf.func11, Ybaf.ntmps11
  go_wp2
  exact bodyPost_ret (v := .agg #[.string path, .int .i64 0, .int .i64 1, .int .i64 1]) (by simp [results, Ybaf.results11, go_sem]) rfl ⟨rfl, ((Fr.refl _ _).alloc _).alloc _⟩

set_option maxHeartbeats 1000000 in
/-- fail, where no error is kept yet: the first message is kept. -/
theorem fail_first (S : Nat) (F : Nat → Value) (r fv ov : Value) (path msg : ByteArray) (w : World) (hcf : Cf w S F) (hm : Made F S r path fv ov) :
    Calls Ybaf.prog 10 #[.pointer (some ⟨S, 0, none⟩), .pointer (some ⟨S, 0, none⟩), .string msg] w fun e w' => e = .returned (.tuple #[]) ∧ ∃ E, Cf w' S (upd F 1052 (.pointer (some ⟨E, 0, none⟩))) ∧ w.heap.size ≤ E ∧ w'.heap[E]? = some (.cells #[.string path, .int .i64 0, .int .i64 1, .int .i64 1, .string msg] 62 (0, 0)) ∧ Fr (fun b => b = S) w w' := by
  have d1 := hcf.cell 1052 (by decide)
  have d2 := hcf.cell 1049 (by decide)
  rw [hm.err] at d1
  rw [hm.serr] at d2
  have hpos := pos_any S path w (by rw [hcf.cell 1044 (by decide), hm.path]) (by rw [hcf.cell 1028 (by decide), hm.bufOff]) (by rw [hcf.cell 1026 (by decide), hm.srcPos]) (by rw [hcf.cell 1032 (by decide), hm.lastChar]) (by rw [hcf.cell 1030 (by decide), hm.column]) (by rw [hcf.cell 1031 (by decide), hm.lastLine])
  go_enter Ybaf.func10, Ybaf.ntmps10
  go_wp2_with (first
    | (go_at_call 12; refine hpos.mono ?_; rintro e w1 ⟨rfl, hfr1⟩; have hcf1 := hcf.keep hfr1 (fun h => h); have p1 := position_any S path w1 (by rw [hcf1.cell 1050 (by decide), hm.head]))
    | (go_at_call 11; refine p1.mono ?_; rintro e w2 ⟨rfl, hfr2⟩; have hcf2 := hcf1.keep hfr2 (fun h => h); clear p1 hpos; have z1 := fun o => (hcf2.keep ((Fr.refl (fun _ => False) w2).alloc o) (fun h => h)).cell 1052 (by decide); have z2 := fun o => (hcf2.keep ((Fr.refl (fun _ => False) w2).alloc o) (fun h => h)).free 1052))
  go_end0
  have s1 := hfr1.size
  have s2 := hfr2.size
  have hS : S < w2.heap.size := World.block_lt_of_cell? w2 _ (hcf2.cell 0 (by decide))
  refine ⟨rfl, w2.heap.size, (hcf2.keep ((Fr.refl (fun _ => False) w2).alloc _) (fun h => h)).set (by decide) _, by omega, ?_, ?_⟩
  · rw [heap_setCell_other _ _ _ _ (by show ¬ w2.heap.size = S; omega)]
    exact heap_alloc_new _ _
  · exact Fr.setCell (p := ⟨S, 1052, none⟩) (((hfr1.mono (Q := fun b => b = S) (fun _ _ h => h.elim)).trans (hfr2.mono (fun _ _ h => h.elim))).alloc _) rfl _

set_option maxHeartbeats 1000000 in
/-- fail, where an error is kept: nothing is done. -/
theorem fail_next (S E : Nat) (F : Nat → Value) (msg : ByteArray) (w : World) (hcf : Cf w S F) (he : F 1052 = .pointer (some ⟨E, 0, none⟩)) :
    Calls Ybaf.prog 10 #[.pointer (some ⟨S, 0, none⟩), .pointer (some ⟨S, 0, none⟩), .string msg] w fun e w' => e = .returned (.tuple #[]) ∧ w' = w := by
  have d1 := hcf.cell 1052 (by decide)
  rw [he] at d1
  go_enter Ybaf.func10, Ybaf.ntmps10
  go_wp2
  exact bodyPost_ret (results_none rfl _ _ _) rfl ⟨rfl, rfl⟩
end Go.Proofs.YbulkdbsgFmt
