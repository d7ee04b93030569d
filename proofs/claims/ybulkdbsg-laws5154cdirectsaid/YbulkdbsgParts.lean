/-
  CONTRACTS of slices.Equal, slices.Clone (two instances), zzs5154cmasks, zzs5154cteam.
-/
import Derived.Test.YbulkdbsgRows
import Derived.Test.YbulkdbsgMem
import Derived.OpenShut
namespace Go.Proofs.Ybulkdbsg
open Go.RowKit

theorem Yba.info38 : (Yba.prog.info? 38).map (fun i => (i.zero, i.size, i.bytes)) = some (some (.int .u64 0), 1, 8) := by kernel_rfl
theorem Yba.info3 : (Yba.prog.info? 3).map (fun i => (i.zero, i.size, i.bytes)) = some (some (.int .i64 0), 1, 8) := by kernel_rfl

set_option maxHeartbeats 400000 in
theorem equal_pos (g1 g2 n c1 c2 : Nat) (xs : List Int) (w : World) (hn : n ≤ 100000)
   (h1 : ∀ i, i < n → w.cell? ⟨g1, i, none⟩ = some (.int .i64 (xs.getD i 0)))
   (h2 : ∀ i, i < n → w.cell? ⟨g2, i, none⟩ = some (.int .i64 (xs.getD i 0))) :
  Calls Yba.prog 10 #[.slice (some ⟨g1, 0, none⟩) n c1, .slice (some ⟨g2, 0, none⟩) n c2] w fun e w' => e = .returned (.bool true) ∧ ∃ k, w' = w.drewN k := by
  go_enter Yba.func10, Yba.ntmps10
  go_wp2
  go_loopw [13] (fun i wr => ∃ k m : Nat, k ≤ n ∧ i = .int .i64 k ∧ wr = w.drewN m) (fun i _ => n - (intOf i).toNat)
  case atStart => exact ⟨0, 0, Nat.zero_le _, rfl, rfl⟩
  case round =>
    obtain ⟨k, m, hk, rfl, rfl⟩ := hrel
    by_cases hlt : k < n
    · have a1 := h1 k hlt
      have a2 := h2 k hlt
      clear h1 h2
      go_wp2
      go_region
      all_goals go_wp2
      all_goals go_roundw
      case rel => exact ⟨k+1, m+1, by omega, by go_num, rfl⟩
      case measure => simp [intOf]; omega
    · go_wp2
      go_ret
      exact ⟨rfl, _, rfl⟩

set_option maxHeartbeats 400000 in
theorem equal_empty (a1 a2 : Option Addr) (c1 c2 : Nat) (w : World)  :
  Calls Yba.prog 10 #[.slice a1 0 c1, .slice a2 0 c2] w fun e w' => e = .returned (.bool true) ∧ ∃ k, w' = w.drewN k := by
  go_enter Yba.func10, Yba.ntmps10
  go_wp2
  refine wp_loop_rounds 1 ?_; rw [rounds_succ]; go_wp2
  go_ret
  exact ⟨rfl, 0, rfl⟩

attribute [local go_sem] run_eql_slice_nil

set_option maxHeartbeats 400000 in
theorem clone64 (a : Addr) (n c : Nat) (xs : List Int) (w : World) (hn : n ≤ 100000) (hl : xs.length = n) (hb : a.block < w.heap.size)
   (h1 : ∀ i, i < n → w.cell? (a.add i) = some (.int .u64 (xs.getD i 0))) :
  Calls Yba.prog 12 #[.slice (some a) n c] w fun e w' => ∃ v, e = .returned v ∧ w'.ownsRow w.heap.size 38 1 v n (xs.map (.int .u64)) ∧ Below w.heap.size w w' := by
  obtain ⟨i0, hi, hz0, hz1, hz2⟩ := info_parts Yba.info38
  have hown : (w.alloc (.cells #[] 38)).ownsRow w.heap.size 38 1 (.slice (some ⟨w.heap.size, 0, none⟩) 0 0) 0 [] := World.ownsRow_made w #[] 0 (Nat.le_refl _) (by decide) rfl
  have hcs := cells_of_ints (w' := w.alloc (.cells #[] 38)) hl h1 (fun i _ => World.cell?_of_block (Below.heap_alloc _ _ _ (by rw [addr_add_block]; exact hb)))
  clear h1
  go_enter Yba.func12, Yba.ntmps12
  go_wp2_with (at_builtin; refine wpList_append_own _ rfl _ _ 22 rfl w.heap.size 38 i0 (.int .u64 0) 1 8 Yba.underlying22 hi hz0 hz1 hz2 rfl (by decide) _ _ _ rfl hown a n c (xs.map (.int .u64)) rfl (by simp [hl]) hcs (ints_oneCell _ _) (by unfold maxLen; omega) (by omega) (by simp) ?_)
  intro v' w1 hown' hgrow _
  clear hown hcs
  go_wp2
  go_ret
  exact ⟨v', rfl, by simpa using hown', (((Below.refl _ _).alloc (Nat.le_refl _) _).grown hgrow (by simp) (by intro k hk; simp [Value.ownBlock] at hk; omega))⟩

set_option maxHeartbeats 400000 in
theorem cloneInt (a : Addr) (n c : Nat) (xs : List Int) (w : World) (hn : n ≤ 100000) (hl : xs.length = n) (hb : a.block < w.heap.size)
   (h1 : ∀ i, i < n → w.cell? (a.add i) = some (.int .i64 (xs.getD i 0))) :
  Calls Yba.prog 11 #[.slice (some a) n c] w fun e w' => ∃ v, e = .returned v ∧ w'.ownsRow w.heap.size 3 1 v n (xs.map (.int .i64)) ∧ Below w.heap.size w w' := by
  obtain ⟨i0, hi, hz0, hz1, hz2⟩ := info_parts Yba.info3
  have hown : (w.alloc (.cells #[] 3)).ownsRow w.heap.size 3 1 (.slice (some ⟨w.heap.size, 0, none⟩) 0 0) 0 [] := World.ownsRow_made w #[] 0 (Nat.le_refl _) (by decide) rfl
  have hcs := cells_of_ints (w' := w.alloc (.cells #[] 3)) hl h1 (fun i _ => World.cell?_of_block (Below.heap_alloc _ _ _ (by rw [addr_add_block]; exact hb)))
  clear h1
  go_enter Yba.func11, Yba.ntmps11
  go_wp2_with (at_builtin; refine wpList_append_own _ rfl _ _ 27 rfl w.heap.size 3 i0 (.int .i64 0) 1 8 Yba.underlying27 hi hz0 hz1 hz2 rfl (by decide) _ _ _ rfl hown a n c (xs.map (.int .i64)) rfl (by simp [hl]) hcs (ints_oneCell _ _) (by unfold maxLen; omega) (by omega) (by simp) ?_)
  intro v' w1 hown' hgrow _
  clear hown hcs
  go_wp2
  go_ret
  exact ⟨v', rfl, by simpa using hown', (((Below.refl _ _).alloc (Nat.le_refl _) _).grown hgrow (by simp) (by intro k hk; simp [Value.ownBlock] at hk; omega))⟩

/-- WHAT THE WALK IS TOLD OF A SLICE OF INTEGERS THAT CAME IN (the shell's own words). -/
def IsRow (k : IntKind) (w : World) (a : Option Addr) (len cap : Nat) (zs : List Int) : Prop :=
  (a = none ∧ len = 0 ∧ cap = 0 ∧ zs = []) ∨
  ∃ x, a = some x ∧ len ≤ cap ∧ cap ≤ maxLen ∧ zs.length = cap ∧ (∀ i, i < zs.length → w.cell? (x.add i) = some (.int k (zs.getD i 0))) ∧ ∀ n ∈ zs, (Lit.int k n).wf = true

theorem getD_take {xs : List Int} {n i : Nat} (h : i < n) : (xs.take n).getD i 0 = xs.getD i 0 := by
  simp [List.getD, h]

set_option maxHeartbeats 400000 in
/-- zzs5154cmasks: some masks, at least one, at most 1024, in a row of the call's own. -/
theorem masks_any (a : Option Addr) (len cap : Nat) (zs : List Int) (w : World) (h : IsRow .u64 w a len cap zs) (hlen : len ≤ 1024) :
  Calls Yba.prog 5 #[.slice a len cap] w fun e w' => ∃ (v : Value) (ms : List Int), e = .returned v ∧ w'.ownsRow w.heap.size 38 1 v ms.length (ms.map (.int .u64)) ∧ 0 < ms.length ∧ ms.length ≤ 1024 ∧ Below w.heap.size w w' := by
  by_cases h0 : len = 0
  · subst h0
    clear h
    go_enter Yba.func5, Yba.ntmps5
    go_wp2
    go_ret
    exact ⟨_, [1], rfl, World.ownsRow_lit w _ 1 (Nat.le_refl _) (by decide) rfl, by decide, by decide, (Below.refl _ _).alloc (Nat.le_refl _) _⟩
  · rcases h with ⟨_, h, _⟩ | ⟨x, rfl, hle, hmx, hzl, hcell, hwf⟩
    · omega
    · have hb : x.block < w.heap.size := by
        have := World.block_lt_of_cell? w _ (hcell 0 (by omega))
        rwa [addr_add_block] at this
      have hcl := clone64 x len cap (zs.take len) w (by omega) (by simp; omega) hb (fun i hi => by rw [getD_take hi]; exact hcell i (by omega))
      have hne : ((len : Int) == 0) = false := by simpa using h0
      clear hcell hwf hmx
      go_enter Yba.func5, Yba.ntmps5
      go_wp2_with (go_at_call 12; refine hcl.mono ?_; rintro e w' ⟨v, rfl, hown, hbel⟩)
      go_ret
      refine ⟨_, zs.take len, rfl, ?_, ?_, ?_, hbel⟩
      · rw [List.length_take, Nat.min_eq_left (by omega)]; exact hown
      · rw [List.length_take]; omega
      · rw [List.length_take]; omega
end Go.Proofs.Ybulkdbsg
