/-
  THE WALK of LawS5154CAddDrop.
-/
import Derived.Test.YbulkdbsgSetup
namespace Go.Proofs.Ybulkdbsg
open Go.RowKit
set_option linter.unusedVariables false

theorem made_zeros (n : Nat) : (madeCells (Value.int .i64 0).cells (n * 1)).toList = (List.replicate n (0 : Int)).map (.int .i64) := by
  simp [Value.cells, toList_madeCells_one]

theorem row_below {k : IntKind} {w w' : World} {a : Option Addr} {len cap : Nat} {zs : List Int} {B : Nat} (h : IsRow k w a len cap zs) (hb : Below B w w') (hB : w.heap.size ≤ B) : IsRow k w' a len cap zs := by
  rcases h with h | ⟨x, rfl, hle, hmx, hzl, hcell, hwf⟩
  · exact .inl h
  · refine .inr ⟨x, rfl, hle, hmx, hzl, fun i hi => ?_, hwf⟩
    have h0 := hcell i hi
    have := World.block_lt_of_cell? w _ h0
    rw [hb.cell (by omega)]; exact h0

theorem getD_memI {l : List Int} {k : Nat} (h : k < l.length) : l.getD k 0 ∈ l := by
  simp [List.getD, h]
theorem take_succI {l : List Int} {k : Nat} (h : k < l.length) : l.take (k + 1) = l.take k ++ [l.getD k 0] := by
  rw [List.take_succ_eq_append_getElem h]; simp [List.getD, h]

theorem walkA_long (a0 : Int) (a1 : Option Addr) (len1 cap1 : Nat) (a2 : Int) (a3 : Option Addr) (len3 cap3 : Nat) (w : World) (h : 1024 < len1 ∨ 1024 < len3) :
    Calls Yba.prog 3 #[.int .u8 a0, .slice a1 len1 cap1, .int .u8 a2, .slice a3 len3 cap3] w fun e w' => e = .returned (.bool true) ∧ Below w.heap.size w w' := by
  by_cases h1 : 1024 < len1
  · go_enter Yba.func3, Yba.ntmps3
    go_wp2
    go_ret
    exact ⟨rfl, Below.refl _ _⟩
  · have h3 : 1024 < len3 := by omega
    go_enter Yba.func3, Yba.ntmps3
    go_wp2
    go_ret
    exact ⟨rfl, Below.refl _ _⟩

set_option maxHeartbeats 2000000 in
theorem walkA (a0 : Int) (a1 : Option Addr) (len1 cap1 : Nat) (z1 : List Int) (a2 : Int) (a3 : Option Addr) (len3 cap3 : Nat) (z3 : List Int) (w : World) (w0 : (Lit.int .u8 a0).wf = true) (w1 : IsRow .u64 w a1 len1 cap1 z1) (w2 : (Lit.int .u8 a2).wf = true) (w3 : IsRow .u8 w a3 len3 cap3 z3)
    (hl1 : len1 ≤ 1024) (hl3 : len3 ≤ 1024) :
    Calls Yba.prog 3 #[.int .u8 a0, .slice a1 len1 cap1, .int .u8 a2, .slice a3 len3 cap3] w fun e w' => e = .returned (.bool true) ∧ Below w.heap.size w w' := by
  obtain ⟨b1, b2⟩ := u8_bounds w0
  obtain ⟨nP, hnP⟩ : ∃ nP : Nat, 1 + a0 % 64 = (nP : Int) := ⟨(1 + a0 % 64).toNat, by omega⟩
  have hP1 : 1 ≤ nP := by omega
  have hP2 : nP ≤ 64 := by omega
  obtain ⟨i3, hi3, hy0, hy1, hy2⟩ := info_parts Yba.info3
  go_enter Yba.func3, Yba.ntmps3
  go_wp2_with (go_at_call 5; go_must (refine (masks_any a1 len1 cap1 z1 _ w1 hl1).mono ?_; rintro e W1 ⟨mv, ms, rfl, hms, hm1, hm2, bel1⟩; obtain ⟨gm, cm, hmv, hgm, _, hgm2⟩ := owns_pos hms hm1; subst hmv))
  have hmc : ∀ i, i < ms.length → W1.cell? ⟨gm, i, none⟩ = some (.int .u64 (ms.getD i 0)) := fun i hi => by rw [hms.cellAt i (by omega), ints_at_getD hi]
  go_wp2_with (go_at_call 6; go_must (refine (profiles_any nP gm ms.length cm ms W1 hm2 hP2 rfl hgm2 hmc).mono ?_; rintro e W2 ⟨PV, rfl, hpf, bel2⟩))
  have w3' : IsRow .u8 W2 a3 len3 cap3 z3 := row_below (row_below w3 bel1 (Nat.le_refl _)) bel2 (Nat.le_refl _)
  go_wp2_with (first
    | (go_at_call 7; go_must (refine (team_any ms.length a2 a3 len3 cap3 z3 W2 w2 w3' hl3 hm1 hm2).mono ?_; rintro e W3 ⟨tmv, tm, rfl, htm, htl, htr, bel3⟩; obtain ⟨gt, ct, htv, hgt, hct, hgt2⟩ := owns_pos htm (by omega); subst htv))
    | (at_make; go_must (refine wpList_make_full _ rfl _ _ 27 rfl 0 3 i3 _ 1 Yba.underlying27 hi3 hy0 hy1 .i64 .i64 _ _ nP rfl rfl (by omega) (by omega) (by rw [hy2]; omega) (by unfold maxLen; omega) (by simp) ?_); intro W4 hheld hgrow4))
  rw [made_zeros] at hheld
  have hHS : W3.heap.size < W4.heap.size := (hheld.lt _ rfl).2
  have hst3 := setup_mk hms bel1 hgm2 hpf bel2 hm1 htm bel3 hgt2
  have hst5 := hst3.keep (((Fr.refl _ _).grown hgrow4 (by simp)).alloc (.cells #[.pointer none, .slice (some ⟨W1.heap.size, 0, none⟩) ms.length ms.length, .slice none 0 0, .slice none 0 0, .slice none 0 0, .slice (some ⟨W3.heap.size, 0, none⟩) nP nP, .int .i64 nP, .slice none 0 0] 35))
  have hs5 : Sr (W4.alloc (.cells #[.pointer none, .slice (some ⟨W1.heap.size, 0, none⟩) ms.length ms.length, .slice none 0 0, .slice none 0 0, .slice none 0 0, .slice (some ⟨W3.heap.size, 0, none⟩) nP nP, .int .i64 nP, .slice none 0 0] 35)) W4.heap.size W3.heap.size nP nP (.slice (some ⟨W1.heap.size, 0, none⟩) ms.length ms.length) (List.replicate nP 0) nP (.slice none 0 0) :=
    ⟨heap_alloc_new _ _, hheld.alloc _⟩
  have hsz5 : (W4.alloc (.cells #[.pointer none, .slice (some ⟨W1.heap.size, 0, none⟩) ms.length ms.length, .slice none 0 0, .slice none 0 0, .slice none 0 0, .slice (some ⟨W3.heap.size, 0, none⟩) nP nP, .int .i64 nP, .slice none 0 0] 35)).heap.size = W4.heap.size + 1 := by simp
  clear hms bel1 hgm2 hpf bel2 htm bel3 hgt2 hst3 hheld hgrow4 hmc hgm hgt
  generalize (W4.alloc (.cells #[.pointer none, .slice (some ⟨W1.heap.size, 0, none⟩) ms.length ms.length, .slice none 0 0, .slice none 0 0, .slice none 0 0, .slice (some ⟨W3.heap.size, 0, none⟩) nP nP, .int .i64 nP, .slice none 0 0] 35)) = W5 at hst5 hs5 hsz5 ⊢
  generalize W4.heap.size = S at *
  generalize W3.heap.size = H at *
  generalize W1.heap.size = G at *
  have HTL : Hid (tm.length = len3 + 1) := htl
  clear htl
  have htr' : ∀ k, k < len3 + 1 → ∃ i : Nat, tm.getD k 0 = (i : Int) ∧ i < ms.length := fun k hk => by
    have := htr (tm.getD k 0) (getD_memI (by have := HTL.out; omega))
    exact ⟨(tm.getD k 0).toNat, by omega, by omega⟩
  clear htr
  go_loopw [52] (fun t wr => ∃ (k : Nat) (hd : List Int) (m : Int) (tv : Value), k ≤ len3 + 1 ∧ t = .int .i64 k ∧ Sr wr S H nP nP (.slice (some ⟨G, 0, none⟩) ms.length ms.length) hd m tv ∧
    wr.ownsRow (S + 1) 3 1 tv k ((tm.take k).map (.int .i64)) ∧ Good ms (tm.take k) nP (hd, m) ∧ Fr (fun b => H ≤ b) W5 wr) (fun i _ => len3 + 1 - (intOf i).toNat)
  case atStart => exact ⟨0, _, _, _, Nat.zero_le _, rfl, hs5, World.ownsRow_nil _ _ _ _, good_start _ _, Fr.refl _ _⟩
  case round =>
    obtain ⟨k, hd, m, tv, hk, rfl, hsr, hown, hgood, hfr⟩ := hrel
    have hst := hst5.keep hfr
    have hsz : S + 1 ≤ wr.heap.size := by have := hfr.size; omega
    by_cases hlt : k < len3 + 1
    · obtain ⟨i, hti, hin⟩ := htr' k hlt
      have hc := hst.tc k (by have := HTL.out; omega)
      rw [hti] at hc
      have hadd := add_any S H nP nP G k ms.length (S + 1) i hd m tv (PV.getD i undef) (plOf nP (ms.getD i 0)) (tm.take k) (G + 1) wr hsr hown (by omega) (by omega) hsz (by omega) hin hm2 (hst.pc i hin) (hst.pl i hin)
        (by have := hst.GL; omega) (by have := hst.GL; omega) (by have := hst.GL; omega) (fun q hq => by have := hst.plb i hin q hq; omega) plOf_lt hP2 (Nat.le_trans (plOf_le _ _) hP2)
      have hkI : (k : Int) < len3 + 1 := by omega
      clear hst
      have HG : Hid (Good ms (tm.take (k + 1)) nP ((plOf nP (ms.getD i 0)).foldl addStep (hd, m))) := by
        rw [take_succI (by have := HTL.out; omega), hti]
        exact good_add hgood (i : Int) (by rw [List.length_take]; omega) hP2
      have HT : Hid (tm.take (k + 1) = tm.take k ++ [(i : Int)]) := by
        show _ = _
        rw [take_succI (by have := HTL.out; omega), hti]
      clear hti
      go_wp2_with (go_at_call 8; go_must (refine hadd.mono ?_; rintro e w' ⟨rfl, tv', hsr', hown', hfr'⟩))
      go_roundw
      case rel =>
        refine ⟨k + 1, _, _, tv', by omega, by go_num, hsr', ?_, HG.out, hfr.trans (hfr'.mono ?_)⟩
        · rw [HT.out]; exact hown'
        · rintro q _ (h | h | h)
          · omega
          · omega
          · have := (hown.lt q h).1; omega
      case measure => simp [intOf]; omega
    · obtain rfl : k = len3 + 1 := by omega
      obtain ⟨gs, cs, rfl, hgs, hcs, _⟩ := owns_pos hown (by omega)
      obtain ⟨i, hti, hin⟩ := htr' len3 (by omega)
      have htake : tm.take (len3 + 1) = tm.take len3 ++ [(i : Int)] := by rw [take_succI (by have := HTL.out; omega), hti]
      rw [htake] at hgood
      have hg2 := good_drop hgood (by rw [List.length_take]; omega) hP2
      have hteamc : ∀ j, j < len3 + 1 → wr.cell? ⟨gs, j, none⟩ = some (.int .i64 (tm.getD j 0)) := fun j hj => by
        rw [hown.cellAt j (by omega), ints_at_getD (by rw [List.length_take]; have := HTL.out; omega)]
        rw [getD_take hj]
      have hlast := hteamc len3 (by omega)
      rw [hti] at hlast
      have hdrop := drop_any S H nP nP G len3 ms.length i gs cs hd m (PV.getD i undef) (plOf nP (ms.getD i 0)) (G + 1) wr hsr hlast hcs (by omega) hin hm2 (hst.pc i hin) (hst.pl i hin)
        (by have := hst.GL; omega) (by have := hst.GL; omega) (fun q hq => by have := hst.plb i hin q hq; omega) plOf_lt hP2 (Nat.le_trans (plOf_le _ _) hP2)
      simp only [Int.toNat_natCast] at hg2
      generalize (plOf nP (ms.getD i 0)).foldl dropStep (hd, m) = s2 at hg2 hdrop
      clear hlast hti htake hgood
      have hct' : len3 + 1 ≤ ct := by have := HTL.out; omega
      go_wp2_with (first
        | (go_at_call 9; go_must (refine hdrop.mono ?_; rintro e W6 ⟨rfl, hsr6, hfr6⟩; have c7 := cells_of_block hsr6.blk 7; have c5 := cells_of_block hsr6.blk 5; have c6 := cells_of_block hsr6.blk 6; simp at c7 c5 c6; have hst6 := hst.keep (hfr6.mono (Q := fun k => H ≤ k) (by rintro q _ (h | h) <;> omega)); clear hst))
        | (go_at_call 10; go_must (refine (equal_pos gs gt len3 cs ct tm _ (by omega) (fun j hj => hfr6.cell (by simp; omega) (hteamc j (by omega))) (fun j hj => hst6.tc j (by have := HTL.out; omega))).mono ?_; rintro e w' ⟨rfl, nd, rfl⟩)))
      obtain ⟨g1, g2, g3⟩ := hg2
      rw [g3] at c6
      clear hsr hown hteamc hdrop hs5
      go_loop [17, 18] (fun z t => ∃ p : Nat, p ≤ nP ∧ t = .int .i64 p ∧ z = .int .i64 (zerosOf ms (tm.take len3) p)) (fun _ t => nP - (intOf t).toNat)
      case atStart => exact ⟨0, Nat.zero_le _, rfl, rfl⟩
      case round =>
        obtain ⟨p, hp, rfl, rfl⟩ := hrel
        have hz := zeros_le ms (tm.take len3) p
        by_cases hpl : p < nP
        · go_wp2
          go_loop [19, 88] (fun c t => ∃ j : Nat, j ≤ len3 ∧ t = .int .i64 j ∧ c = .int .i64 (cntOf ms (tm.take j) p)) (fun _ t => len3 - (intOf t).toNat)
          case atStart => exact ⟨0, Nat.zero_le _, rfl, by simp [cntOf]⟩
          case round =>
            obtain ⟨j, hj, rfl, rfl⟩ := hrel
            by_cases hjl : j < len3
            · obtain ⟨i, hti, hin⟩ := htr' j (by omega)
              have ec := hst6.tc j (by have := HTL.out; omega)
              rw [hti] at ec
              have em := hst6.msc i hin
              have hcl := cnt_le ms (tm.take j) p
              have hcl2 : (tm.take j).length ≤ j := List.length_take_le _ _
              have HT : Hid (cntOf ms (tm.take (j + 1)) p = cntOf ms (tm.take j) p + if bitB (ms.getD i 0) p then 1 else 0) := by
                show _ = _
                rw [take_succI (by have := HTL.out; omega), hti, cnt_snoc]; rfl
              generalize ms.getD i 0 = m2 at em HT
              clear hti
              cases hbit : bitB m2 p with
              | true =>
                rw [hbit] at HT
                have hb' : (bits BinOp.and IntKind.u64 (m2 / 2 ^ p) 1 == 1) = true := hbit
                clear hbit
                go_wp2
                go_round
                case rel => exact ⟨j + 1, by omega, by go_num, by rw [HT.out]; go_num⟩
                case measure => simp [intOf]; omega
              | false =>
                rw [hbit] at HT
                have hb' : (bits BinOp.and IntKind.u64 (m2 / 2 ^ p) 1 == 1) = false := hbit
                clear hbit
                go_wp2
                go_round
                case rel => exact ⟨j + 1, by omega, by go_num, by rw [HT.out]; go_num⟩
                case measure => simp [intOf]; omega
            · obtain rfl : j = len3 := by omega
              have eh := hsr6.cell hpl
              rw [g2 p hpl] at eh
              have HZ : Hid (zerosOf ms (tm.take j) (p + 1) = zerosOf ms (tm.take j) p + if cntOf ms (tm.take j) p == 0 then 1 else 0) := zeros_succ _ _ _
              clear g2 g3
              cases h0 : (cntOf ms (tm.take j) p == 0) with
              | true =>
                rw [h0] at HZ
                have h1 : ((cntOf ms (tm.take j) p : Int) == 0) = true := by simpa using h0
                clear h0
                go_wp2
                go_round
                case rel => exact ⟨p + 1, by omega, by go_num, by rw [HZ.out]; go_num⟩
                case measure => simp [intOf]; omega
              | false =>
                rw [h0] at HZ
                have h1 : ((cntOf ms (tm.take j) p : Int) == 0) = false := by simpa using h0
                clear h0
                go_wp2
                go_round
                case rel => exact ⟨p + 1, by omega, by go_num, by rw [HZ.out]; go_num⟩
                case measure => simp [intOf]; omega
        · obtain rfl : p = nP := by omega
          go_wp2
          go_ret
          exact ⟨by simp, ⟨hst6.bel.os, hst6.bel.tape, hst6.bel.output, hst6.bel.size, hst6.bel.block⟩⟩

end Go.Proofs.Ybulkdbsg
