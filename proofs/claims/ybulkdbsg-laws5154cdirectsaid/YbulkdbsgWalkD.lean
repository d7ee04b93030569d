/-
  THE WALK of LawS5154CDirect.
-/
import Derived.Test.YbulkdbsgSetup
import Derived.Test.YbulkdbsgWalkA
import Derived.Deep.QuietTactic
import Derived.BigQuiet
namespace Go.Proofs.Ybulkdbsg
open Go.RowKit
set_option linter.unusedVariables false

theorem walkD_long (a0 : Int) (a1 : Option Addr) (len1 cap1 : Nat) (a2 : Option Addr) (len2 cap2 : Nat) (a3 a4 : Int) (a5 : Option Addr) (len5 cap5 : Nat) (w : World) (h : 1024 < len1 ∨ 1024 < len5 ∨ 1024 < len2) :
    Calls Yba.prog 4 #[.int .u8 a0, .slice a1 len1 cap1, .slice a2 len2 cap2, .int .i64 a3, .int .u8 a4, .slice a5 len5 cap5] w fun e w' => e = .returned (.bool true) ∧ Below w.heap.size w w' := by
  by_cases h1 : 1024 < len1
  · go_enter Yba.func4, Yba.ntmps4
    go_wp2
    go_ret
    exact ⟨rfl, Below.refl _ _⟩
  · by_cases h5 : 1024 < len5
    · go_enter Yba.func4, Yba.ntmps4
      go_wp2
      go_ret
      exact ⟨rfl, Below.refl _ _⟩
    · have h2 : 1024 < len2 := by omega
      go_enter Yba.func4, Yba.ntmps4
      go_wp2
      go_ret
      exact ⟨rfl, Below.refl _ _⟩

/-- drop, called on the fresh search over clones of the counts and of the team. -/
theorem drop_mk {w W6 : World} {L gm G gt nP H cH gs cs i len5 : Nat} {ms tm hs : List Int} {PV : List Value} {base5 base6 : Nat} (hst : Setup w W6 L gm G gt nP ms tm PV)
    (hv5 : W6.ownsRow base5 3 1 (.slice (some ⟨H, 0, none⟩) nP cH) nP (hs.map (.int .i64))) (hv6 : W6.ownsRow base6 3 1 (.slice (some ⟨gs, 0, none⟩) (len5 + 1) cs) (len5 + 1) (tm.map (.int .i64)))
    (hti : tm.getD len5 0 = (i : Int)) (hin : i < ms.length) (htl : tm.length = len5 + 1) (a3 : Int) (hl5 : len5 ≤ 1024) (hm2 : ms.length ≤ 1024) (hP2 : nP ≤ 64) (hLH : L < H) (hgs : gs < W6.heap.size) :
    Calls Yba.prog 9 #[.pointer (some ⟨W6.heap.size, 0, none⟩)] (W6.alloc (.cells #[.pointer none, .slice (some ⟨G, 0, none⟩) ms.length ms.length, .slice none 0 0, .slice none 0 0, .slice none 0 0, .slice (some ⟨H, 0, none⟩) nP cH, .int .i64 a3, .slice (some ⟨gs, 0, none⟩) (len5 + 1) cs] 35)) fun e w' =>
      e = .returned (.tuple #[]) ∧ Sr w' W6.heap.size H nP cH (.slice (some ⟨G, 0, none⟩) ms.length ms.length) ((plOf nP (ms.getD i 0)).foldl dropStep (hs, a3)).1 ((plOf nP (ms.getD i 0)).foldl dropStep (hs, a3)).2 (.slice (some ⟨gs, 0, none⟩) len5 cs) ∧ Fr (fun b => b = W6.heap.size ∨ b = H) (W6.alloc (.cells #[.pointer none, .slice (some ⟨G, 0, none⟩) ms.length ms.length, .slice none 0 0, .slice none 0 0, .slice none 0 0, .slice (some ⟨H, 0, none⟩) nP cH, .int .i64 a3, .slice (some ⟨gs, 0, none⟩) (len5 + 1) cs] 35)) w' := by
  have hst7 := hst.keep ((Fr.refl (fun k => L ≤ k) W6).alloc (.cells #[.pointer none, .slice (some ⟨G, 0, none⟩) ms.length ms.length, .slice none 0 0, .slice none 0 0, .slice none 0 0, .slice (some ⟨H, 0, none⟩) nP cH, .int .i64 a3, .slice (some ⟨gs, 0, none⟩) (len5 + 1) cs] 35))
  have hlast := (hv6.alloc (.cells #[.pointer none, .slice (some ⟨G, 0, none⟩) ms.length ms.length, .slice none 0 0, .slice none 0 0, .slice none 0 0, .slice (some ⟨H, 0, none⟩) nP cH, .int .i64 a3, .slice (some ⟨gs, 0, none⟩) (len5 + 1) cs] 35)).cellAt len5 (by omega)
  rw [ints_at_getD (by omega), hti] at hlast
  have hcs : len5 + 1 ≤ cs := by
    rcases hv6.2 with ⟨h, _⟩ | ⟨g', cap', cur, h, _, _, hnc, _⟩
    · simp at h
    · simp at h; omega
  have := hst.GL
  have := hst.LW
  refine drop_any W6.heap.size H nP cH G len5 ms.length i gs cs hs a3 (PV.getD i undef) (plOf nP (ms.getD i 0)) (G + 1) _ ⟨heap_alloc_new _ _, owns_base (hv5.alloc _) (fun _ _ => Nat.zero_le _)⟩ hlast hcs (by omega) hin hm2 (hst7.pc i hin) (hst7.pl i hin) (by omega) (by omega) (fun q hq => by have := hst7.plb i hin q hq; omega) plOf_lt hP2 (Nat.le_trans (plOf_le _ _) hP2)

/-- The law's own count behind the permissions below p. -/
def wmOf (hs : List Int) (m2 a3 : Int) (p : Nat) : Int := wrap64 (a3 + (((plOf p m2).filter fun q => wrap64 (hs.getD q 0 - 1) == 0).length : Int))

theorem wm_start (hs : List Int) (m2 a3 : Int) : wmOf hs m2 a3 0 = wrap64 a3 := by simp [wmOf, plOf]
theorem wm_hit {hs : List Int} {m2 a3 y : Int} {p : Nat} (hb : bitB m2 p = true) (hy : hs.getD p 0 = y) (h0 : (wrap64 (y - 1) == 0) = true) : wmOf hs m2 a3 (p + 1) = wrap64 (wmOf hs m2 a3 p + 1) := by
  unfold wmOf
  rw [plOf_hit hb, List.filter_append, List.length_append, wrap64_add]
  have e : ([p].filter fun q => wrap64 (hs.getD q 0 - 1) == 0).length = 1 := by simp only [List.filter_cons, hy, h0, List.filter_nil]; rfl
  rw [e]
  congr 1
  omega
theorem wm_miss {hs : List Int} {m2 a3 y : Int} {p : Nat} (hb : bitB m2 p = true) (hy : hs.getD p 0 = y) (h0 : (wrap64 (y - 1) == 0) = false) : wmOf hs m2 a3 (p + 1) = wmOf hs m2 a3 p := by
  unfold wmOf
  rw [plOf_hit hb, List.filter_append, List.length_append]
  have e : ([p].filter fun q => wrap64 (hs.getD q 0 - 1) == 0).length = 0 := by simp only [List.filter_cons, hy, h0, List.filter_nil]; rfl
  rw [e]
  rfl
theorem wm_off {hs : List Int} {m2 a3 : Int} {p : Nat} (hb : bitB m2 p = false) : wmOf hs m2 a3 (p + 1) = wmOf hs m2 a3 p := by
  unfold wmOf
  rw [plOf_miss hb]

set_option maxHeartbeats 2000000 in
theorem walkD (a0 : Int) (a1 : Option Addr) (len1 cap1 : Nat) (z1 : List Int) (a2 : Option Addr) (len2 cap2 : Nat) (z2 : List Int) (a3 : Int) (a4 : Int) (a5 : Option Addr) (len5 cap5 : Nat) (z5 : List Int) (w : World) (w0 : (Lit.int .u8 a0).wf = true) (w1 : IsRow .u64 w a1 len1 cap1 z1) (w2 : IsRow .i64 w a2 len2 cap2 z2) (w3 : wrap64 a3 = a3) (w4 : (Lit.int .u8 a4).wf = true) (w5 : IsRow .u8 w a5 len5 cap5 z5)
    (hl1 : len1 ≤ 1024) (hl2 : len2 ≤ 1024) (hl5 : len5 ≤ 1024) :
    Calls Yba.prog 4 #[.int .u8 a0, .slice a1 len1 cap1, .slice a2 len2 cap2, .int .i64 a3, .int .u8 a4, .slice a5 len5 cap5] w fun e w' => e = .returned (.bool true) ∧ Below w.heap.size w w' := by
  have HW3 : Hid (wrap64 a3 = a3) := w3
  clear w3
  obtain ⟨b1, b2⟩ := u8_bounds w0
  obtain ⟨nP, hnP⟩ : ∃ nP : Nat, 1 + a0 % 64 = (nP : Int) := ⟨(1 + a0 % 64).toNat, by omega⟩
  have hP1 : 1 ≤ nP := by omega
  have hP2 : nP ≤ 64 := by omega
  obtain ⟨i3, hi3, hy0, hy1, hy2⟩ := info_parts Yba.info3
  obtain ⟨_, _, x, hax, hcell, hwf⟩ := row_view w2
  clear w2
  go_enter Yba.func4, Yba.ntmps4
  go_wp2_with (go_at_call 5; go_must (refine (masks_any a1 len1 cap1 z1 _ w1 hl1).mono ?_; rintro e W1 ⟨mv, ms, rfl, hms, hm1, hm2, bel1⟩; obtain ⟨gm, cm, hmv, hgm, _, hgm2⟩ := owns_pos hms hm1; subst hmv))
  have hmc : ∀ i, i < ms.length → W1.cell? ⟨gm, i, none⟩ = some (.int .u64 (ms.getD i 0)) := fun i hi => by rw [hms.cellAt i (by omega), ints_at_getD hi]
  go_wp2_with (go_at_call 6; go_must (refine (profiles_any nP gm ms.length cm ms W1 hm2 hP2 rfl hgm2 hmc).mono ?_; rintro e W2 ⟨PV, rfl, hpf, bel2⟩))
  have w5' : IsRow .u8 W2 a5 len5 cap5 z5 := row_below (row_below w5 bel1 (Nat.le_refl _)) bel2 (Nat.le_refl _)
  go_wp2_with (first
    | (go_at_call 7; go_must (refine (team_any ms.length a4 a5 len5 cap5 z5 W2 w4 w5' hl5 hm1 hm2).mono ?_; rintro e W3 ⟨tmv, tm, rfl, htm, htl, htr, bel3⟩; obtain ⟨gt, ct, htv, hgt, hct, hgt2⟩ := owns_pos htm (by omega); subst htv))
    | (at_make; go_must (refine wpList_make_full _ rfl _ _ 27 rfl 0 3 i3 _ 1 Yba.underlying27 hi3 hy0 hy1 .i64 .i64 _ _ nP rfl rfl (by omega) (by omega) (by rw [hy2]; omega) (by unfold maxLen; omega) (by simp) ?_); intro W4 hheld hgrow4))
  rw [made_zeros] at hheld
  have hHS : W3.heap.size < W4.heap.size := (hheld.lt _ rfl).2
  have hst3 := setup_mk hms bel1 hgm2 hpf bel2 hm1 htm bel3 hgt2
  have hst4 := hst3.keep ((Fr.refl _ _).grown hgrow4 (by simp))
  clear hms bel1 hgm2 hpf bel2 htm bel3 hgt2 hst3 hgrow4 hmc hgm hgt w1 w5 w5' w4
  generalize W3.heap.size = L at *
  generalize W1.heap.size = G at *
  have HTL : Hid (tm.length = len5 + 1) := htl
  clear htl
  have htr' : ∀ k, k < len5 + 1 → ∃ i : Nat, tm.getD k 0 = (i : Int) ∧ i < ms.length := fun k hk => by
    have := htr (tm.getD k 0) (getD_memI (by have := HTL.out; omega))
    exact ⟨(tm.getD k 0).toNat, by omega, by omega⟩
  clear htr
  go_loopw [18] (fun t wr => ∃ (p : Nat) (hs : List Int), p ≤ nP ∧ t = .int .i64 p ∧ hs.length = nP ∧ wr.ownsRow 0 3 1 (.slice (some ⟨L, 0, none⟩) nP nP) nP (hs.map (.int .i64)) ∧ Setup w wr L gm G gt nP ms tm PV) (fun i _ => nP - (intOf i).toNat)
  case atStart => exact ⟨0, List.replicate nP 0, Nat.zero_le _, rfl, by simp, hheld, hst4⟩
  case round =>
    obtain ⟨p, hs, hp, rfl, hsl, hh, hst⟩ := hrel
    clear hst4 hheld
    by_cases hp1 : p < nP ∧ p < len2
    · obtain ⟨hp1, hp2⟩ := hp1
      obtain rfl := hax (by omega)
      have hc0 := hcell p hp2
      have hc : wr.cell? (x.add p) = some (.int .i64 (z2.getD p 0)) := by rw [hst.bel.cell (World.block_lt_of_cell? w _ hc0)]; exact hc0
      generalize z2.getD p 0 = y at hc
      have hcL : wr.cell? ⟨L, p, none⟩ = some (.int .i64 (hs.getD p 0)) := by rw [hh.cellAt p (by omega), ints_at_getD (by omega)]
      have hfL := hh.frozenAt p
      clear hc0 hcell hwf hax
      go_wp2
      go_roundw
      case rel =>
        have h2 := (hh.stored p (.int .i64 y)).1
        rw [← List.map_set] at h2
        exact ⟨p + 1, hs.set p y, by omega, by go_num, by simp [hsl], h2, hst.keep (Fr.setCell (p := ⟨L, p, none⟩) (Fr.refl _ _) (Nat.le_refl L) _)⟩
      case measure => simp [intOf]; omega
    · have hp3 : ¬ p < nP ∨ (p < nP ∧ ¬ p < len2) := by omega
      obtain ⟨i, hti, hin⟩ := htr' len5 (by omega)
      have hLc : ∀ j, j < nP → wr.cell? ((⟨L, 0, none⟩ : Addr).add j) = some (.int .i64 (hs.getD j 0)) := fun j hj => by
        rw [Addr.add_lit, Nat.zero_add, hh.cellAt j (by omega), ints_at_getD (by omega)]
      have hcl1 := cloneInt ⟨L, 0, none⟩ nP nP hs wr (by omega) hsl (by exact (hh.lt _ rfl).2) hLc
      clear hp1 hcell hwf hax htr' hLc
      rcases hp3 with hp3 | ⟨hp3, hp4⟩
      all_goals
        go_wp2_with (first
          | (go_at_call 11; refine hcl1.mono ?_; go_must (rintro e W5 ⟨v5, rfl, hv5, bel5⟩; obtain ⟨H, cH, rfl, hH1, hH2, hH3⟩ := owns_pos hv5 (by omega); have hst5 := hst.keep ((Fr.of_below bel5).mono (Q := fun k => L ≤ k) (fun q hq h => by have := hst.LW; omega)); have hcl2 := cloneInt ⟨gt, 0, none⟩ (len5 + 1) ct tm W5 (by omega) HTL.out (by have := hst5.gtL; have := hst5.LW; simp; omega) (fun j hj => by rw [Addr.add_lit, Nat.zero_add]; exact hst5.tc j (by have := HTL.out; omega)); clear hcl1))
          | (go_at_call 11; go_must (refine hcl2.mono ?_; rintro e W6 ⟨v6, rfl, hv6, bel6⟩; obtain ⟨gs, cs, rfl, hs1, hs2, hs3⟩ := owns_pos hv6 (by omega); clear hcl2)))
      all_goals
        have hL : L < wr.heap.size := (hh.lt _ rfl).2
        have hst6 := hst5.keep ((Fr.of_below bel6).mono (Q := fun k => L ≤ k) (fun q hq h => by have := hst5.LW; omega))
        have hdrop := drop_mk hst6 ((Fr.of_below bel6).owns hv5 (fun q hq => by simp [Value.ownBlock] at hq; omega)) hv6 hti hin HTL.out a3 (by omega) hm2 hP2 (by omega) (by omega)
        have hteamc : ∀ j, j < len5 → W6.cell? ⟨gs, j, none⟩ = some (.int .i64 (tm.getD j 0)) := fun j hj => by
          rw [hv6.cellAt j (by omega), ints_at_getD (by have := HTL.out; omega)]
        have hhL := (Fr.of_below bel6).owns ((Fr.of_below bel5).owns hh (fun q hq => by simp [Value.ownBlock] at hq; omega)) (fun q hq => by simp [Value.ownBlock] at hq; have := bel5.size; omega)
        have htl6 := hst6.tc len5 (by have := HTL.out; omega)
        rw [hti] at htl6
        have hgtS := hst6.gtL
        have hgmL := hst6.gmL
        have hct' : len5 + 1 ≤ ct := by have := HTL.out; omega
        go_wp2_with (go_at_call 9; go_must (refine hdrop.mono ?_; rintro e W8 ⟨rfl, hsr8, hfr8⟩; have c7 := cells_of_block hsr8.blk 7; have c6 := cells_of_block hsr8.blk 6; simp at c7 c6; have hfr6 := ((Fr.refl (fun b => b = W6.heap.size ∨ b = H) W6).alloc _).trans hfr8; have t8 := hfr6.cell (p := ⟨gt, len5, none⟩) (by simp; omega) htl6))
      all_goals
        have q1 : ∀ j, j < len5 → W8.cell? ⟨gs, j, none⟩ = some (.int .i64 (tm.getD j 0)) := fun j hj => hfr6.cell (by simp; omega) (hteamc j hj)
        have q2 : ∀ j, j < len5 → W8.cell? ⟨gt, j, none⟩ = some (.int .i64 (tm.getD j 0)) := fun j hj => hfr6.cell (by simp; omega) (hst6.tc j (by have := HTL.out; omega))
        have hlI : (len5 : Int) ≤ len5 + 1 := by omega
        go_quiet ((go_at_call 10; exact Calls.quiet_of (equal_pos gs gt len5 cs ct tm _ (by omega) q1 q2)))
      all_goals
        have m8 := hfr6.cell (p := ⟨gm, i, none⟩) (by simp; omega) (hst6.msc i hin)
        have l8 : ∀ j, j < nP → W8.cell? ⟨L, j, none⟩ = some (.int .i64 (hs.getD j 0)) := fun j hj => hfr6.cell (by simp; omega) (by rw [hhL.cellAt j (by omega), ints_at_getD (by omega)])
        obtain ⟨f1, f2, f3⟩ := fold_drop (plOf nP (ms.getD i 0)) hs a3 (plOf_nodup _ _) (fun p hp => by rw [hsl]; exact plOf_lt p hp) HW3.out
        have hbel8 : Below w.heap.size w W8 := hst6.bel.trans (hfr6.below hst6.bel.size (by have := hst6.wL; rintro q (h | h) <;> omega))
        clear c6
        have c6 : W8.cell? ⟨W6.heap.size, 6, none⟩ = some (.int .i64 ((plOf nP (ms.getD i 0)).foldl dropStep (hs, a3)).2) := cells_of_block hsr8.blk 6
        rw [f3] at c6
        generalize ms.getD i 0 = m2 at m8 f1 f2 f3 c6 hsr8
        clear q1 q2 t8 htl6 hteamc hst hst5 hst6 hfr6 hfr8 hdrop hhL hv5 hv6 hh hti f3
        go_wp2
        go_loop [22, 23] (fun z t => ∃ p : Nat, p ≤ nP ∧ t = .int .i64 p ∧ z = .int .i64 (wmOf hs m2 a3 p)) (fun _ t => nP - (intOf t).toNat)
        case atStart => exact ⟨0, Nat.zero_le _, rfl, by rw [wm_start, HW3.out]⟩
        case round =>
          obtain ⟨p, hp, rfl, rfl⟩ := hrel
          by_cases hpl : p < nP
          · have l9 := l8 p hpl
            have h9 := hsr8.cell hpl
            rw [f2 p] at h9
            clear l8 f2
            cases hbit : bitB m2 p with
            | true =>
              rw [if_pos (plOf_mem.2 ⟨hpl, hbit⟩)] at h9
              have hb' : (bits BinOp.and IntKind.u64 (m2 / 2 ^ p) 1 == 1) = true := hbit
              have HB : Hid (bitB m2 p = true) := hbit
              obtain ⟨y, hy⟩ : ∃ y, hs.getD p 0 = y := ⟨_, rfl⟩
              have HY : Hid (hs.getD p 0 = y) := hy
              rw [hy] at l9 h9
              clear hbit hy
              cases h0 : (wrap64 (y - 1) == 0) with
              | true =>
                go_wp2
                go_round
                case rel => exact ⟨p + 1, by omega, by go_num, by rw [wm_hit HB.out HY.out h0]⟩
                case measure => simp [intOf]; omega
              | false =>
                go_wp2
                go_round
                case rel => exact ⟨p + 1, by omega, by go_num, by rw [wm_miss HB.out HY.out h0]⟩
                case measure => simp [intOf]; omega
            | false =>
              rw [if_neg (fun e => by have := (plOf_mem.1 e).2; rw [hbit] at this; cases this)] at h9
              have hb' : (bits BinOp.and IntKind.u64 (m2 / 2 ^ p) 1 == 1) = false := hbit
              have HB : Hid (bitB m2 p = false) := hbit
              generalize hs.getD p 0 = y at l9 h9
              clear hbit
              go_wp2
              go_round
              case rel => exact ⟨p + 1, by omega, by go_num, by rw [wm_off HB.out]⟩
              case measure => simp [intOf]; omega
          · obtain rfl : p = nP := by omega
            go_wp2
            go_ret
            exact ⟨by simp [wmOf], ⟨hbel8.os, hbel8.tape, hbel8.output, hbel8.size, hbel8.block⟩⟩

end Go.Proofs.Ybulkdbsg
