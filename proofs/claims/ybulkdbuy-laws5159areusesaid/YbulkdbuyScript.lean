/-
  THE WALK of zzs5159abuild.
-/
import Derived.Test.YbulkdbuyBuild
namespace Go.Proofs.Ybulkdbuy
open Go.RowKit
set_option linter.unusedVariables false

/-- WHAT THE WALK IS TOLD OF A SLICE OF INTEGERS THAT CAME IN (the shell's own words). -/
def IsRow (k : IntKind) (w : World) (a : Option Addr) (len cap : Nat) (zs : List Int) : Prop :=
  (a = none ∧ len = 0 ∧ cap = 0 ∧ zs = []) ∨
  ∃ x, a = some x ∧ len ≤ cap ∧ cap ≤ maxLen ∧ zs.length = cap ∧ (∀ i, i < zs.length → w.cell? (x.add i) = some (.int k (zs.getD i 0))) ∧ ∀ n ∈ zs, (Lit.int k n).wf = true

theorem row_view {k : IntKind} {w : World} {a : Option Addr} {len cap : Nat} {zs : List Int} (h : IsRow k w a len cap zs) :
    len ≤ cap ∧ len ≤ zs.length ∧ ∃ x : Addr, (0 < len → a = some x) ∧ (∀ i, i < len → w.cell? (x.add i) = some (.int k (zs.getD i 0))) ∧ (∀ i, i < len → (Lit.int k (zs.getD i 0)).wf = true) := by
  rcases h with ⟨rfl, rfl, rfl, rfl⟩ | ⟨x, rfl, hle, hmx, hzl, hcell, hwf⟩
  · exact ⟨Nat.le_refl _, by simp, ⟨0, 0, none⟩, fun h => by omega, fun i h => by omega, fun i h => by omega⟩
  · refine ⟨hle, by omega, x, fun _ => rfl, fun i hi => hcell i (by omega), fun i hi => hwf _ ?_⟩
    rw [List.getD_eq_getElem?_getD, List.getElem?_eq_getElem (by omega)]
    simp

theorem cellsA {w : World} {base gm n mc k : Nat} {model : List Nat} (rm : w.ownsRow base 29 1 (.slice (some ⟨gm, 0, none⟩) n mc) n (pcells model)) (hk : k ≤ n) :
    ∀ ad, some (⟨gm, 0, none⟩ : Addr) = some ad → ∀ j u, (pcells (model.take k))[j]? = some u → w.cell? (ad.add j) = some u := by
  intro ad had j u hj
  obtain rfl := Option.some.inj had
  have hl : model.length = n := by have := rm.1; simpa [pcells] using this
  have hjk : j < k := by
    have := (List.getElem?_eq_some_iff.1 hj).1
    simp [pcells] at this
    omega
  rw [Addr.add_lit, Nat.zero_add, rm.cellAt j (by omega)]
  rw [← hj]
  simp [pcells, hjk]

theorem cellsB {w : World} {base gm n mc k : Nat} {model : List Nat} (rm : w.ownsRow base 29 1 (.slice (some ⟨gm, 0, none⟩) n mc) n (pcells model)) (hmc : n ≤ mc) {ao : Option Addr} (hao : ¬ mc = k + 1 → ao = some ⟨gm, k + 1, none⟩) :
    ∀ ad, ao = some ad → ∀ j u, (pcells (model.drop (k + 1)))[j]? = some u → w.cell? (ad.add j) = some u := by
  intro ad had j u hj
  have hl : model.length = n := by have := rm.1; simpa [pcells] using this
  have hjk : j < n - (k + 1) := by
    have := (List.getElem?_eq_some_iff.1 hj).1
    simp [pcells] at this
    omega
  rw [hao (by omega)] at had
  obtain rfl := Option.some.inj had
  rw [Addr.add_lit, rm.cellAt (k + 1 + j) (by omega)]
  rw [← hj]
  simp [pcells]

theorem Fr.transNew {P R : Nat → Prop} {a b c : World} (h : Fr P a b) (k : Fr R b c) (hr : ∀ i, i < a.heap.size → R i → P i) : Fr P a c :=
  ⟨k.os.trans h.os, k.tape.trans h.tape, k.output.trans h.output, Nat.le_trans h.size k.size, fun i hi hp => (k.block i (Nat.lt_of_lt_of_le hi h.size) (fun e => hp (hr i hi e))).trans (h.block i hi hp)⟩

theorem size_alloc' (w : World) (o : Obj) : (w.alloc o).heap.size = w.heap.size + 1 := by simp

set_option maxHeartbeats 2000000 in
theorem build_any (Q : Nat) (a : Option Addr) (len cap : Nat) (zs : List Int) (w : World) (h : IsRow .u8 w a len cap zs) (hlen : len ≤ 1024) (hq : DL w Q []) (hQ : ∀ x, a = some x → 0 < len → ¬ x.block = Q) :
    Calls Yba.prog 7 #[ptr Q, .slice a len cap] w fun e w' => ∃ av mv all model, e = .returned (.tuple #[av, mv]) ∧ Scr w' w.heap.size Q av mv all model ∧ all.length ≤ 1024 ∧ model.length ≤ 1024 ∧ (∀ b ∈ model, w.heap.size ≤ b) ∧ Fr (fun x => x = Q) w w' := by
  obtain ⟨i29, hi29, hx0, hx1, hx2⟩ := info_parts Yba.info29
  obtain ⟨_, _, x, hax, hcell, hwf⟩ := row_view h
  clear h
  unfold ptr
  go_enter Yba.func7, Yba.ntmps7
  go_wp2
  go_loopw [6, 7, 16] (fun av mv t wr => ∃ (i : Nat) (all model : List Nat), i ≤ len ∧ t = .int .i64 i ∧ Scr wr w.heap.size Q av mv all model ∧ all.length ≤ i ∧ model.length ≤ i ∧ (∀ b ∈ model, w.heap.size ≤ b) ∧ Fr (fun x => x = Q) w wr) (fun _ _ t _ => len - (intOf t).toNat)
  case atStart => exact ⟨0, [], [], Nat.zero_le _, rfl, ⟨World.ownsRow_nil _ _ _ _, World.ownsRow_nil _ _ _ _, fun k hk => by simp [Value.ownBlock] at hk, hq, fun b hb => by simp at hb⟩, Nat.le_refl _, Nat.le_refl _, fun b hb => by simp at hb, Fr.refl _ _⟩
  case round =>
    obtain ⟨i, all, model, hi, rfl, hscr, hal, hml, hnew, hfr⟩ := hrel
    by_cases hlt : i < len
    · obtain rfl := hax (by omega)
      have hc0 := hcell i hlt
      have hc := hfr.cell (by rw [addr_add_block]; exact hQ x rfl (by omega)) hc0
      obtain ⟨b1, b2⟩ := bounds_u8 (hwf i hlt)
      generalize zs.getD i 0 = z at hc b1 b2
      clear hc0 hcell hwf hax hQ hq
      have hiI : (i : Int) < len := by omega
      by_cases hrm : (z % 3 == 0) = true ∧ 0 < model.length
      · obtain ⟨h3, hmp⟩ := hrm
        obtain ⟨mo, mc, gm, rfl, mpos, hmc, mcell, _⟩ := owns_view hscr.rm
        obtain ⟨rfl, hgm, _⟩ := mpos hmp
        obtain ⟨k, hk⟩ : ∃ k : Nat, z / 3 % (model.length : Int) = (k : Int) := ⟨(z / 3 % (model.length : Int)).toNat, by have := Int.emod_nonneg (z / 3) (show (model.length : Int) ≠ 0 by omega); omega⟩
        have hkm : k < model.length := by have := Int.emod_lt_of_pos (z / 3) (show (0 : Int) < model.length by omega); omega
        have mk := mcell k hkm
        rw [pcells_at hkm] at mk
        have HM : Hid (∀ j, j < model.length → wr.cell? ⟨gm, j, none⟩ = (pcells model)[j]?) := mcell
        obtain ⟨b, hb⟩ : ∃ b, model.getD k 0 = b := ⟨_, rfl⟩
        have hrem := remove_any Q b k model wr hscr.dl hkm hb
        rw [hb] at mk
        have HB : Hid (model.getD k 0 = b) := hb
        clear hb mcell
        unfold ptr at mk hrem
        have hkI : (k : Int) < model.length := by omega
        go_wp2_with (first
          | (go_at_call 18; go_must (refine hrem.mono ?_; rintro e w1 ⟨rfl, hdl1, hnb, hfr1⟩; obtain ⟨ra1, rm1⟩ := rem_rows hscr hfr1; have s1 := hfr1.size; have s0 := hfr.size; have hgm1 : gm < w1.heap.size := (rm1.lt gm rfl).2))
          | (at_make; go_must (refine wpList_make_own _ rfl _ _ 32 rfl w.heap.size 29 i29 _ 1 Yba.underlying32 hi29 hx0 hx1 .i64 .i64 _ model.length rfl rfl (by omega) (by rw [hx2]; omega) (by unfold maxLen; omega) (by omega) ?_); intro w2 hown2 hgrow2)
          | (at_builtin; refine wpList_append_fits_any _ rfl (.tmp 45) (.tmp 48) 32 rfl w.heap.size 29 i29 1 Yba.underlying32 hi29 hx1 w1.heap.size 0 model.length [] rfl hown2 (some ⟨gm, 0, none⟩) k mc (pcells (model.take k)) rfl (by simp [pcells]; omega) (fun h => by cases h) (cellsA (rm1.kept hgrow2 (.inr (by simp [Value.ownBlock]))) (by omega)) (pcells_one _) (by omega) ?_; intro w3 hown3 hgrow3; simp only [Nat.zero_add, List.nil_append] at hown3)
          | (at_builtin; go_must (refine wpList_append_fits_any _ rfl (.tmp 50) (.tmp 54) 32 rfl w.heap.size 29 i29 1 Yba.underlying32 hi29 hx1 w1.heap.size k model.length (pcells (model.take k)) rfl hown3 _ (model.length - (k + 1)) (mc - (k + 1)) (pcells (model.drop (k + 1))) rfl (by simp [pcells]) (by intro h; split at h <;> cases h) (cellsB ((rm1.kept hgrow2 (.inr (by simp [Value.ownBlock]))).kept hgrow3 (.inr (by simp [Value.ownBlock]; omega))) hmc (by intro h; first | rfl | simp [h])) (pcells_one _) (by omega) ?_); intro w4 hown4 hgrow4))
        have hl4 : k + (model.length - (k + 1)) = model.length - 1 := by omega
        rw [hl4] at hown4
        go_roundw
        case rel =>
          have hf4 : Fr (fun _ => False) w1 w4 := (((Fr.refl _ _).grown hgrow2 (by simp)).grown hgrow3 (fun q hq hl => by simp at hq; omega)).grown hgrow4 (fun q hq hl => by simp at hq; omega)
          have hm4 : pcells (model.take k) ++ pcells (model.drop (k + 1)) = pcells (model.eraseIdx k) := by rw [List.eraseIdx_eq_take_drop_succ]; simp [pcells]
          rw [hm4] at hown4
          refine ⟨i + 1, all, model.eraseIdx k, by omega, by go_num, ?_, by omega, by rw [len_erase hkm]; omega, fun b hb => hnew b (List.mem_of_mem_eraseIdx hb), ?_⟩
          · rw [hl4]; exact scr_rem hscr hfr1 hkm HB.out hdl1 hnb rfl hf4 hown4
          · refine (hfr.transNew hfr1 ?_).trans (hf4.mono (fun _ _ h => h.elim))
            rintro q hq (e | e)
            · exact e
            · have := hnew q e; omega
        case measure => simp [intOf]; omega
      · have hs0 := hfr.size
        have hnm : wr.heap.size ∉ model := fun e => by obtain ⟨p, n, hn⟩ := hscr.dl.mem e; have := hn.lt; omega
        have hpush := push_any Q wr.heap.size model (.pointer none) false (wr.alloc (.cells #[.chan none, .int .i64 0, .int .u32 i, .int .u32 0, .int .u32 0, .int .i64 0, .pointer none, .pointer none, .bool false] 39)) (hscr.dl.keep ((Fr.refl (fun _ => False) wr).alloc _) (fun h => h) (fun _ _ h => h)) ⟨_, _, _, _, _, _, heap_alloc_new _ _⟩ hnm
        unfold ptr at hpush
        rcases Classical.em ((z % 3 == 0) = true) with h3 | h3
        · have hm0 : model.length = 0 := by rcases Nat.eq_zero_or_pos model.length with h | h; exact h; exact absurd ⟨h3, h⟩ hrm
          obtain ⟨mo, mc, gm, hmv, -⟩ := owns_view hscr.rm
          subst hmv
          obtain rfl : model = [] := List.eq_nil_of_length_eq_zero hm0
          simp only [List.length_nil] at *
          go_wp2_with (first
            | (go_at_call 12; go_must (refine hpush.mono ?_; rintro e w1 ⟨rfl, hdl1, hfr1⟩; obtain ⟨ra1, rm1⟩ := push_rows hscr hfr1; have s1 := hfr1.size; simp only [size_alloc'] at s1))
            | (at_builtin; (refine wpList_append_fresh _ rfl (.tmp 64) (.tmp 66) 32 rfl w.heap.size 29 i29 (.pointer none) 1 8 Yba.underlying32 hi29 hx0 hx1 hx2 rfl (by omega) _ all.length (pcells all) rfl (ra1.alloc _) ⟨w1.heap.size, 0, none⟩ 1 1 [ptr wr.heap.size] rfl rfl one_news (fun u hu => by simp at hu; subst hu; rfl) (by omega) (by unfold maxLen; omega) (by omega) (by rw [size_alloc']; omega) ?_); intro av' w2 ha2 hg2 hf2; have rm2 := push_row2 hscr rm1 hg2; have s2 := hg2.size; rw [size_alloc'] at s2)
            | (at_builtin; go_must (refine wpList_append_fresh _ rfl (.tmp 68) (.tmp 70) 32 rfl w.heap.size 29 i29 (.pointer none) 1 8 Yba.underlying32 hi29 hx0 hx1 hx2 rfl (by omega) _ 0 (pcells []) rfl (rm2.alloc _) ⟨w2.heap.size, 0, none⟩ 1 1 [ptr wr.heap.size] rfl rfl one_news (fun u hu => by simp at hu; subst hu; rfl) (by omega) (by unfold maxLen; omega) (by omega) (by rw [size_alloc']; omega) ?_); intro mv' w3 hm3 hg3 hf3))
          go_roundw
          case rel =>
            refine ⟨i + 1, all ++ [wr.heap.size], [] ++ [wr.heap.size], by omega, by go_num, scr_push hscr hfr1 hdl1 ra1 rm1 ha2 hg2 hf2 hm3 hg3 hf3, by simp <;> omega, by simp, ?_, ?_⟩
            · intro b hb
              rcases List.mem_append.1 hb with hb | hb
              · exact hnew b hb
              · simp at hb; omega
            · refine ((((hfr.alloc _).transNew hfr1 ?_).alloc _).grown hg2 ?_).alloc _ |>.grown hg3 ?_
              · rintro q hq (e | e | e)
                · exact e
                · omega
                · have := hnew q e; omega
              · intro q hq hl
                have := (ra1.lt q hq).1
                omega
              · intro q hq hl
                have := (rm1.lt q hq).1
                omega
          case measure => simp [intOf]; omega
        · have h3 : (z % 3 == 0) = false := by simpa using h3
          go_wp2_with (first
            | (go_at_call 12; go_must (refine hpush.mono ?_; rintro e w1 ⟨rfl, hdl1, hfr1⟩; obtain ⟨ra1, rm1⟩ := push_rows hscr hfr1; have s1 := hfr1.size; simp only [size_alloc'] at s1))
            | (at_builtin; (refine wpList_append_fresh _ rfl (.tmp 64) (.tmp 66) 32 rfl w.heap.size 29 i29 (.pointer none) 1 8 Yba.underlying32 hi29 hx0 hx1 hx2 rfl (by omega) _ all.length (pcells all) rfl (ra1.alloc _) ⟨w1.heap.size, 0, none⟩ 1 1 [ptr wr.heap.size] rfl rfl one_news (fun u hu => by simp at hu; subst hu; rfl) (by omega) (by unfold maxLen; omega) (by omega) (by rw [size_alloc']; omega) ?_); intro av' w2 ha2 hg2 hf2; have rm2 := push_row2 hscr rm1 hg2; have s2 := hg2.size; rw [size_alloc'] at s2)
            | (at_builtin; go_must (refine wpList_append_fresh _ rfl (.tmp 68) (.tmp 70) 32 rfl w.heap.size 29 i29 (.pointer none) 1 8 Yba.underlying32 hi29 hx0 hx1 hx2 rfl (by omega) _ model.length (pcells model) rfl (rm2.alloc _) ⟨w2.heap.size, 0, none⟩ 1 1 [ptr wr.heap.size] rfl rfl one_news (fun u hu => by simp at hu; subst hu; rfl) (by omega) (by unfold maxLen; omega) (by omega) (by rw [size_alloc']; omega) ?_); intro mv' w3 hm3 hg3 hf3))
          go_roundw
          case rel =>
            refine ⟨i + 1, all ++ [wr.heap.size], model ++ [wr.heap.size], by omega, by go_num, scr_push hscr hfr1 hdl1 ra1 rm1 ha2 hg2 hf2 hm3 hg3 hf3, by simp; omega, by simp; omega, ?_, ?_⟩
            · intro b hb
              rcases List.mem_append.1 hb with hb | hb
              · exact hnew b hb
              · simp at hb; omega
            · refine ((((hfr.alloc _).transNew hfr1 ?_).alloc _).grown hg2 ?_).alloc _ |>.grown hg3 ?_
              · rintro q hq (e | e | e)
                · exact e
                · omega
                · have := hnew q e; omega
              · intro q hq hl
                have := (ra1.lt q hq).1
                omega
              · intro q hq hl
                have := (rm1.lt q hq).1
                omega
          case measure => simp [intOf]; omega
    · obtain rfl : i = len := by omega
      go_wp2
      go_ret2
      exact ⟨u6, u7, all, model, rfl, hscr, by omega, by omega, hnew, hfr⟩
theorem IsRow.keep {k : IntKind} {w w' : World} {a : Option Addr} {len cap : Nat} {zs : List Int} (h : IsRow k w a len cap zs) {P : Nat → Prop} (hf : Fr P w w') (hp : ∀ b, b < w.heap.size → ¬ P b) : IsRow k w' a len cap zs := by
  rcases h with h | ⟨x, rfl, hle, hmx, hzl, hcell, hwf⟩
  · exact .inl h
  · exact .inr ⟨x, rfl, hle, hmx, hzl, fun i hi => hf.cell (hp _ (World.block_lt_of_cell? w _ (hcell i hi))) (hcell i hi), hwf⟩

theorem IsRow.old {k : IntKind} {w : World} {a : Option Addr} {len cap : Nat} {zs : List Int} (h : IsRow k w a len cap zs) : ∀ x, a = some x → 0 < len → ¬ x.block = w.heap.size := by
  intro x hx hl e
  rcases h with ⟨_, h, _⟩ | ⟨y, rfl, hle, hmx, hzl, hcell, hwf⟩
  · omega
  · obtain rfl := Option.some.inj hx
    have := World.block_lt_of_cell? w _ (hcell 0 (by omega))
    rw [addr_add_block] at this
    omega

/-- Behind popAll of what the script made. -/
structure Pst (w : World) (B Q : Nat) (av mv : Value) (all model : List Nat) : Prop where
  ra : w.ownsRow B 29 1 av all.length (pcells all)
  rm : w.ownsRow B 29 1 mv model.length (pcells model)
  pop : Popped w Q model
  off : ∀ b ∈ all, ∃ p n, Node w b p n false

theorem pst_of {w w' : World} {B Q : Nat} {av mv : Value} {all model : List Nat} (h : Scr w B Q av mv all model) (hp : Popped w' Q model) (hf : Fr (fun x => x = Q ∨ x ∈ model) w w') : Pst w' B Q av mv all model := by
  obtain ⟨ra, rm⟩ := rem_rows h hf
  refine ⟨ra, rm, hp, fun b hb => ?_⟩
  by_cases hm : b ∈ model
  · obtain ⟨i, hi, rfl⟩ := List.getElem_of_mem hm
    have := hp.node i hi
    rw [getD_get hi] at this
    exact ⟨_, _, this⟩
  · rcases h.rest b hb with hr | hr
    · exact absurd hr hm
    · refine ⟨_, _, hr.keep hf ?_⟩
      rintro (e | e)
      · exact h.dl.q.ne hr e.symm
      · exact hm e

theorem below_of {w w1 w2 w3 : World} {o : Obj} {model : List Nat} (e : w1 = w.alloc o) (h : Fr (fun x => x = w.heap.size) w1 w2) (hn : ∀ b ∈ model, w1.heap.size ≤ b) (k : Fr (fun x => x = w.heap.size ∨ x ∈ model) w2 w3) : Below w.heap.size w w3 := by
  subst e
  have f : Fr (fun x => x = w.heap.size) w w3 := (((Fr.refl _ _).alloc o).trans h).transNew k (by
    rintro i hi (e | e)
    · exact e
    · have := hn i e; rw [size_alloc'] at this; omega)
  exact f.below (Nat.le_refl _) (fun k e => by omega)

theorem drewN_fr (w : World) (n : Nat) : Fr (fun _ => False) w (w.drewN n) := (Fr.refl _ _).drewN n
end Go.Proofs.Ybulkdbuy
