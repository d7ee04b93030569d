/-
  CONTRACT of (*search).add.
-/
import Derived.Test.YbulkdbsgProfiles
namespace Go.Proofs.Ybulkdbsg
open Go.RowKit
set_option linter.unusedVariables false

/-- The search struct at block S, its counts in block H. -/
structure Sr (w : World) (S H nP cH : Nat) (pv : Value) (held : List Int) (miss : Int) (tv : Value) : Prop where
  blk : w.heap[S]? = some (.cells #[.pointer none, pv, .slice none 0 0, .slice none 0 0, .slice none 0 0, .slice (some ⟨H, 0, none⟩) nP cH, .int .i64 miss, tv] 35 (0, 0))
  held : w.ownsRow 0 3 1 (.slice (some ⟨H, 0, none⟩) nP cH) nP (held.map (.int .i64))

theorem Sr.ne {w : World} {S H nP cH : Nat} {pv : Value} {held : List Int} {miss : Int} {tv : Value} (h : Sr w S H nP cH pv held miss tv) : ¬ S = H := by
  intro e
  subst e
  have hb := h.blk
  rcases h.held.2 with ⟨h', _⟩ | ⟨g, cap, cur, h', _, hg, _⟩
  · simp at h'
  · simp at h'
    rw [← h'.1] at hg
    rw [hb] at hg
    simp at hg

section
variable {w w' : World} {S H nP cH : Nat} {pv : Value} {held : List Int} {miss : Int} {tv : Value}
theorem Sr.setTeam (h : Sr w S H nP cH pv held miss tv) (v : Value) : Sr (w.setCell ⟨S, 7, none⟩ v) S H nP cH pv held miss v :=
  ⟨by rw [heap_setCell_same w S 7 _ 35 v h.blk]; rfl, ownsRow_setCell_other h.held (fun e => h.ne (by simpa [Value.ownBlock] using e.symm)) v⟩
theorem Sr.setMiss (h : Sr w S H nP cH pv held miss tv) (m : Int) : Sr (w.setCell ⟨S, 6, none⟩ (.int .i64 m)) S H nP cH pv held m tv :=
  ⟨by rw [heap_setCell_same w S 6 _ 35 _ h.blk]; rfl, ownsRow_setCell_other h.held (fun e => h.ne (by simpa [Value.ownBlock] using e.symm)) _⟩
theorem Sr.setHeld (h : Sr w S H nP cH pv held miss tv) (p : Nat) (x : Int) : Sr (w.setCell ⟨H, p, none⟩ (.int .i64 x)) S H nP cH pv (held.set p x) miss tv :=
  ⟨by rw [heap_setCell_other w ⟨H, p, none⟩ S _ (fun e => h.ne (by simpa using e))]; exact h.blk, by have := (h.held.stored p (.int .i64 x)).1; rwa [← List.map_set] at this⟩
theorem Sr.keep (h : Sr w S H nP cH pv held miss tv) {P : Nat → Prop} (hf : Fr P w w') (h1 : ¬ P S) (h2 : ¬ P H) : Sr w' S H nP cH pv held miss tv :=
  ⟨hf.heap h1 h.blk, hf.owns h.held (fun k hk => by simp [Value.ownBlock] at hk; subst hk; exact h2)⟩
theorem Sr.cell (h : Sr w S H nP cH pv held miss tv) {p : Nat} (hp : p < nP) : w.cell? ⟨H, p, none⟩ = some (.int .i64 (held.getD p 0)) := by
  have hl : held.length = nP := by have := h.held.1; simpa using this
  rw [h.held.cellAt p (by omega), ints_at_getD (by omega)]
theorem Sr.free (h : Sr w S H nP cH pv held miss tv) (p : Nat) : w.frozen? ⟨H, p, none⟩ = false := h.held.frozenAt p
end

def addStep (s : List Int × Int) (p : Nat) : List Int × Int :=
  (s.1.set p (wrap64 (s.1.getD p 0 + 1)), if s.1.getD p 0 == 0 then wrap64 (s.2 - 1) else s.2)

theorem addStep_hit {hd : List Int} {m : Int} {p : Nat} (h : hd.getD p 0 = 0) : addStep (hd, m) p = (hd.set p 1, wrap64 (m - 1)) := by
  have e : wrap64 (0 + 1) = 1 := by unfold wrap64; omega
  simp only [addStep, h, e]
  simp
theorem addStep_miss {hd : List Int} {m x : Int} {p : Nat} (h : hd.getD p 0 = x) (hx : (x == 0) = false) : addStep (hd, m) p = (hd.set p (wrap64 (x + 1)), m) := by
  simp only [addStep, h, hx]
  simp

theorem afterAppend {w w2 : World} {o : Obj} {row : Option Nat} (h : (w.alloc o).grownBy w2 row) : Fr (fun b => row = some b) w w2 :=
  ((Fr.refl _ _).alloc o).grown h (fun _ hk _ => hk)

theorem notOwn {w : World} {B : Nat} {e : TypeId} {size : Nat} {v : Value} {n : Nat} {xs : List Value} (h : w.ownsRow B e size v n xs) {b : Nat} (hb : b < B) : ¬ v.ownBlock = some b :=
  fun e => by have := (h.lt b e).1; omega

theorem nat_at {l : List Nat} {k : Nat} (h : k < l.length) : (natCells l)[k]? = some (.int .i64 (l.getD k 0 : Nat)) := by
  simp [natCells, List.getD, h]
theorem getD_mem {l : List Nat} {k : Nat} (h : k < l.length) : l.getD k 0 ∈ l := by
  simp [List.getD, h]
theorem take_succ' {l : List Nat} {k : Nat} (h : k < l.length) : l.take (k + 1) = l.take k ++ [l.getD k 0] := by
  rw [List.take_succ_eq_append_getElem h]; simp [List.getD, h]

set_option maxHeartbeats 1000000 in
theorem add_any (S H nP cH gp n np B i : Nat) (held : List Int) (miss : Int) (tv pvi : Value) (pl : List Nat) (team : List Int) (B0 : Nat) (w : World)
    (hs : Sr w S H nP cH (.slice (some ⟨gp, 0, none⟩) np np) held miss tv)
    (hteam : w.ownsRow B 3 1 tv n (team.map (.int .i64))) (hSB : S < B) (hHB : H < B) (hB : B ≤ w.heap.size)
    (hn : n ≤ 100000) (hi : i < np) (hnp : np ≤ 1024)
    (hpc : w.cell? ⟨gp, i * 5 + 1, none⟩ = some pvi) (hpl : w.ownsRow B0 3 1 pvi pl.length (natCells pl))
    (hb1 : gp < B) (hb2 : ¬ gp = S) (hb3 : ¬ gp = H) (hb4 : ∀ q, pvi.ownBlock = some q → q < B ∧ ¬ q = S ∧ ¬ q = H) (hlt : ∀ p ∈ pl, p < nP) (hnP : nP ≤ 64) (hll : pl.length ≤ 64) :
    Calls Yba.prog 8 #[.pointer (some ⟨S, 0, none⟩), .int .i64 i] w fun e w' => e = .returned (.tuple #[]) ∧ ∃ tv', Sr w' S H nP cH (.slice (some ⟨gp, 0, none⟩) np np) (pl.foldl addStep (held, miss)).1 (pl.foldl addStep (held, miss)).2 tv' ∧
      w'.ownsRow B 3 1 tv' (n + 1) ((team ++ [(i : Int)]).map (.int .i64)) ∧ Fr (fun b => b = S ∨ b = H ∨ tv.ownBlock = some b) w w' := by
  obtain ⟨i3, hi3, hy0, hy1, hy2⟩ := info_parts Yba.info3
  have c7 := cells_of_block hs.blk 7
  simp at c7
  obtain ⟨ao, cp, gq, rfl, hpos, _, hcells, _⟩ := owns_view hpl
  go_enter Yba.func8, Yba.ntmps8
  go_wp2_with (at_builtin; go_must (refine wpList_append_own _ rfl (.tmp 10) (.tmp 12) 27 rfl B 3 i3 (.int .i64 0) 1 8 Yba.underlying27 hi3 hy0 hy1 hy2 rfl (by decide) tv n (team.map (.int .i64)) rfl (hteam.alloc _) ⟨w.heap.size, 0, none⟩ 1 1 [.int .i64 i] rfl rfl one_news (by intro u hu; simp at hu; subst hu; rfl) (by unfold maxLen; omega) (by omega) (by simp; omega) ?_); intro v2 w2 hown2 hgrow2 hnil; clear hnil; obtain ⟨g2, cap2, hv2, hg2, _, _⟩ := owns_pos hown2 (by omega); subst hv2; have hfr := afterAppend hgrow2; clear hgrow2; have hblk2 := hfr.heap (b := S) (notOwn hteam hSB) hs.blk; have d7 := cells_of_block hblk2 7; have d1 := cells_of_block hblk2 1; simp at d7 d1; have f7 := free_of_block hblk2 7; have dp := hfr.cell (notOwn hteam hb1) hpc)
  have hs3 := (hs.keep hfr (notOwn hteam hSB) (notOwn hteam hHB)).setTeam (.slice (some ⟨g2, 0, none⟩) (n + 1) cap2)
  have hfr3 : Fr (fun b => b = S ∨ b = H ∨ tv.ownBlock = some b) w (w2.setCell ⟨S, 7, none⟩ (.slice (some ⟨g2, 0, none⟩) (n + 1) cap2)) := (hfr.mono (fun _ _ h => .inr (.inr h))).setCell (.inl rfl) _
  have hown3 : (w2.setCell ⟨S, 7, none⟩ (.slice (some ⟨g2, 0, none⟩) (n + 1) cap2)).ownsRow B 3 1 (.slice (some ⟨g2, 0, none⟩) (n + 1) cap2) (n + 1) (team.map (.int .i64) ++ [.int .i64 i]) := ownsRow_setCell_below hown2 hSB _
  clear hown2 hfr hblk2 d7 d1 f7 dp c7 hpc
  generalize w2.setCell ⟨S, 7, none⟩ (.slice (some ⟨g2, 0, none⟩) (n + 1) cap2) = w3 at hs3 hfr3 hown3 ⊢
  have hSH := hs.ne
  clear hs
  go_loopw [25] (fun t wr => ∃ (k : Nat) (hd : List Int) (m : Int), k ≤ pl.length ∧ t = .int .i64 k ∧ Sr wr S H nP cH (.slice (some ⟨gp, 0, none⟩) np np) hd m (.slice (some ⟨g2, 0, none⟩) (n + 1) cap2) ∧
      (hd, m) = (pl.take k).foldl addStep (held, miss) ∧ Fr (fun b => b = S ∨ b = H ∨ tv.ownBlock = some b) w wr ∧ wr.ownsRow B 3 1 (.slice (some ⟨g2, 0, none⟩) (n + 1) cap2) (n + 1) (team.map (.int .i64) ++ [.int .i64 i])) (fun i _ => pl.length - (intOf i).toNat)
  case atStart => exact ⟨0, held, miss, Nat.zero_le _, rfl, hs3, rfl, hfr3, hown3⟩
  case round =>
    obtain ⟨k, hd, m, hk, rfl, hsr, hfold, hfw, hown⟩ := hrel
    clear hs3 hfr3 hown3
    by_cases hkl : k < pl.length
    · obtain ⟨hao, _, hob⟩ := hpos (by omega)
      obtain ⟨q1, q2, q3⟩ := hb4 gq hob
      have hc0 : w.cell? ⟨gq, k, none⟩ = some (.int .i64 (pl.getD k 0 : Nat)) := by rw [hcells k hkl, nat_at hkl]
      have hc := hfw.cell (p := ⟨gq, k, none⟩) (by rintro (h | h | h); exact q2 h; exact q3 h; exact notOwn hteam q1 h) hc0
      have hpn : pl.getD k 0 < nP := hlt _ (getD_mem hkl)
      have HT : Hid (pl.take (k + 1) = pl.take k ++ [pl.getD k 0]) := take_succ' hkl
      generalize pl.getD k 0 = p at hc hpn HT
      subst hao
      clear hc0 hcells hb4 hob hpos hlt
      have e5 := cells_of_block hsr.blk 5
      have e6 := cells_of_block hsr.blk 6
      have f6 := free_of_block hsr.blk 6
      simp at e5 e6
      have hx := hsr.cell hpn
      have hxf := hsr.free p
      have HF : Hid ((hd, m) = (pl.take k).foldl addStep (held, miss)) := hfold
      clear hfold
      have hHS : ¬ H = S := fun e => hSH e.symm
      by_cases hx0 : hd.getD p 0 = 0
      · rw [hx0] at hx
        have HX : Hid (hd.getD p 0 = 0) := hx0
        clear hx0
        go_wp2
        go_roundw
        case rel =>
          refine ⟨k + 1, hd.set p 1, wrap64 (m - 1), by omega, by go_num, (hsr.setMiss _).setHeld p 1, ?_, (hfw.setCell (.inl rfl) _).setCell (.inr (.inl rfl)) _, ownsRow_setCell_below (ownsRow_setCell_below hown hSB _) hHB _⟩
          rw [HT.out, List.foldl_append, ← HF.out]
          exact (addStep_hit HX.out).symm
        case measure => simp [intOf]; omega
      · have hx1 : (hd.getD p 0 == 0) = false := by simpa using hx0
        obtain ⟨x, hxx⟩ : ∃ x, hd.getD p 0 = x := ⟨_, rfl⟩
        rw [hxx] at hx hx1
        have HY : Hid (hd.getD p 0 = x) := hxx
        clear hx0 hxx
        go_wp2
        go_roundw
        case rel =>
          refine ⟨k + 1, hd.set p (wrap64 (x + 1)), m, by omega, by go_num, hsr.setHeld p _, ?_, hfw.setCell (.inr (.inl rfl)) _, ownsRow_setCell_below hown hHB _⟩
          rw [HT.out, List.foldl_append, ← HF.out]
          exact (addStep_miss HY.out hx1).symm
        case measure => simp [intOf]; omega
    · obtain rfl : k = pl.length := by omega
      go_wp2
      go_end0
      refine ⟨rfl, _, ?_, by simpa using hown, hfw⟩
      rw [List.take_length] at hfold
      rw [← hfold]
      exact hsr
end Go.Proofs.Ybulkdbsg
