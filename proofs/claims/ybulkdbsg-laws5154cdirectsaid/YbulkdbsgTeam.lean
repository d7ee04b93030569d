/-
  CONTRACT of zzs5154cteam.
-/
import Derived.Test.YbulkdbsgParts
import Derived.WalkSpells
namespace Go.Proofs.Ybulkdbsg
open Go.RowKit

theorem row_view {k : IntKind} {w : World} {a : Option Addr} {len cap : Nat} {zs : List Int} (h : IsRow k w a len cap zs) :
    len ≤ cap ∧ len ≤ zs.length ∧ ∃ x : Addr, (0 < len → a = some x) ∧ (∀ i, i < len → w.cell? (x.add i) = some (.int k (zs.getD i 0))) ∧ (∀ i, i < len → (Lit.int k (zs.getD i 0)).wf = true) := by
  rcases h with ⟨rfl, rfl, rfl, rfl⟩ | ⟨x, rfl, hle, hmx, hzl, hcell, hwf⟩
  · exact ⟨Nat.le_refl _, by simp, ⟨0, 0, none⟩, fun h => by omega, fun i h => by omega, fun i h => by omega⟩
  · refine ⟨hle, by omega, x, fun _ => rfl, fun i hi => hcell i (by omega), fun i hi => hwf _ ?_⟩
    rw [List.getD_eq_getElem?_getD, List.getElem?_eq_getElem (by omega)]
    simp

theorem u8_bounds {x : Int} (h : (Lit.int .u8 x).wf = true) : 0 ≤ x ∧ x ≤ 255 := by
  simp only [Lit.wf, Bool.and_eq_true, decide_eq_true_eq] at h
  exact h

set_option maxHeartbeats 400000 in
theorem team_any (n : Nat) (a2 : Int) (a : Option Addr) (len cap : Nat) (zs : List Int) (w : World) (w2 : (Lit.int .u8 a2).wf = true) (h : IsRow .u8 w a len cap zs) (hlen : len ≤ 1024) (hn : 0 < n) (hn2 : n ≤ 1024) :
  Calls Yba.prog 7 #[.int .i64 n, .int .u8 a2, .slice a len cap] w fun e w' => ∃ (v : Value) (tm : List Int), e = .returned v ∧ w'.ownsRow w.heap.size 3 1 v tm.length (tm.map (.int .i64)) ∧ tm.length = len + 1 ∧ (∀ x ∈ tm, 0 ≤ x ∧ x < n) ∧ Below w.heap.size w w' := by
  obtain ⟨i0, hi, hz0, hz1, hz2⟩ := info_parts Yba.info3
  have hb2 := u8_bounds w2
  clear w2
  obtain ⟨b1, b2⟩ := hb2
  obtain ⟨_, _, x, hax, hcell, hwf⟩ := row_view h
  clear h
  go_enter Yba.func7, Yba.ntmps7
  go_wp2_with (first
    | (at_make; go_must (refine wpList_make_own _ rfl _ _ 27 rfl w.heap.size 3 i0 _ 1 Yba.underlying27 hi hz0 hz1 .i64 .i64 _ (len + 1) rfl rfl (by omega) (by rw [hz2]; omega) (by unfold maxLen; omega) (by simp) ?_); intro w1 hown1 hgrow1)
    | (at_builtin; go_must (refine wpList_append_fits _ rfl (.tmp 14) (.tmp 19) 27 rfl w.heap.size 3 i0 1 Yba.underlying27 hi hz1 w.heap.size 0 (len + 1) [] rfl (hown1.alloc _) ⟨w1.heap.size, 0, none⟩ 1 1 [.int .i64 (a2 % n)] rfl rfl one_news (by intro u hu; simp at hu; subst hu; rfl) (by omega) ?_); intro w2 hown2 hgrow2))
  simp only [Nat.zero_add, List.nil_append] at hown2
  go_loopw [7, 23] (fun v i wr => ∃ (k : Nat) (tm : List Int), k ≤ len ∧ i = .int .i64 k ∧ v = .slice (some ⟨w.heap.size, 0, none⟩) (k + 1) (len + 1) ∧ tm.length = k + 1 ∧ wr.ownsRow w.heap.size 3 1 (.slice (some ⟨w.heap.size, 0, none⟩) (k + 1) (len + 1)) (k + 1) (tm.map (.int .i64)) ∧ (∀ x ∈ tm, 0 ≤ x ∧ x < n) ∧ Below w.heap.size w wr) (fun _ i _ => len - (intOf i).toNat)
  case atStart =>
    refine ⟨0, [a2 % n], Nat.zero_le _, rfl, rfl, rfl, hown2, ?_, ?_⟩
    · intro y hy
      simp at hy; subst hy
      exact ⟨Int.emod_nonneg _ (by omega), Int.emod_lt_of_pos _ (by omega)⟩
    · exact ((((Below.refl _ _).grown hgrow1 (Nat.le_refl _) (by simp)).alloc (hgrow1.size) _).grown hgrow2 (by have := hgrow1.size; simp; omega) (by intro k hk; simp at hk; omega))
  case round =>
    obtain ⟨k, tm, hk, rfl, rfl, htl, hown, hrng, hbel⟩ := hrel
    clear hown1 hown2 hgrow1 hgrow2
    by_cases hlt : k < len
    · obtain rfl := hax (by omega)
      have hc := hcell k hlt
      have hxb : x.block < w.heap.size := by have := World.block_lt_of_cell? w _ hc; rwa [addr_add_block] at this
      have hcr : wr.cell? (x.add k) = some (.int .u8 (zs.getD k 0)) := (hbel.cell (by rw [addr_add_block]; exact hxb)).trans hc
      obtain ⟨q1, q2⟩ := u8_bounds (hwf k hlt)
      generalize zs.getD k 0 = q at hcr q1 q2
      clear hc hcell hwf hax
      have hsz := hbel.size
      go_wp2_with (at_builtin; go_must (refine wpList_append_fits _ rfl (.tmp 27) (.tmp 32) 27 rfl w.heap.size 3 i0 1 Yba.underlying27 hi hz1 w.heap.size (k + 1) (len + 1) (tm.map (.int .i64)) rfl (hown.alloc _) ⟨wr.heap.size, 0, none⟩ 1 1 [.int .i64 (q % n)] rfl rfl one_news (by intro u hu; simp at hu; subst hu; rfl) (by omega) ?_); intro w2 hown2 hgrow2)
      go_roundw
      case rel =>
        refine ⟨k + 1, tm ++ [q % n], by omega, by go_num, rfl, by simp [htl], by simpa using hown2, ?_, ?_⟩
        · intro y hy
          rcases List.mem_append.1 hy with hy | hy
          · exact hrng y hy
          · simp at hy; subst hy
            exact ⟨Int.emod_nonneg _ (by omega), Int.emod_lt_of_pos _ (by omega)⟩
        · exact ((hbel.alloc hsz _).grown hgrow2 (by simp; omega) (by intro k hk; simp at hk; omega))
      case measure => simp [intOf]; omega
    · go_wp2
      go_ret
      obtain rfl : k = len := by omega
      exact ⟨_, tm, rfl, by rw [htl]; exact hown, htl, hrng, hbel⟩

end Go.Proofs.Ybulkdbsg
