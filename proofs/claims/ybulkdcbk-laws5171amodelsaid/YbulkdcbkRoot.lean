/-
  CONTRACTS of zzs5171aroot and resolve.
-/
import Derived.Test.YbulkdcbkRows
import Derived.Test.YbulkdcbkPlain
import Derived.OpenShut
import Derived.WalkSpells
import Derived.Deep.QuietTactic
import Derived.BigQuiet
import Derived.BigRegion
import Derived.Deep.LoopGhost
namespace Go.Proofs.Ybulkdcbk
open Go.RowKit
set_option linter.unusedVariables false

set_option maxHeartbeats 1000000 in
theorem root_any (Bd : Nat) (B : Nat → Int) (i0 : Nat) (w : World) (g : Good B) (hb : ∀ i, i < 4 → w.cell? ⟨Bd, i, none⟩ = some (.int .i64 (B i))) (hi0 : i0 < 7) :
    Calls Yba.prog 5 #[.slice (some ⟨Bd, 0, none⟩) 4 4, .int .i64 i0] w fun e w' => e = .returned (.int .i64 (root B i0)) ∧ w' = w := by
  have HB : Hid _ := hb
  clear hb
  go_enter Yba.func5, Yba.ntmps5
  go_wp2
  go_loopw [1] (fun t wr => ∃ i : Nat, i < 7 ∧ t = .int .i64 i ∧ root B i = root B i0 ∧ wr = w) (fun t _ => 7 - (intOf t).toNat)
  case atStart => exact ⟨i0, hi0, rfl, rfl, rfl⟩
  case round =>
    obtain ⟨i, hi, rfl, hr, rfl⟩ := hrel
    by_cases h4 : i < 4
    · have hc := HB.out i h4
      have h4I : (i : Int) < 4 := by omega
      have hg := g i h4
      have HS : Hid (0 ≤ B i → root B i = root B (B i).toNat) := fun h => root_step g h4 h
      have HE : Hid (¬ 0 ≤ B i → root B i = i) := fun h => root_end (fun e => h e.2)
      generalize hz : B i = z at hc hg HS HE
      clear hz
      by_cases h0 : 0 ≤ z
      · go_wp2
        go_roundw
        case rel => exact ⟨z.toNat, by omega, by congr 1; omega, by rw [← hr]; exact (HS.out h0).symm, trivial⟩
        case measure => simp [intOf]; omega
      · go_wp2
        go_ret
        exact ⟨by rw [← hr, HE.out h0]; rfl, rfl⟩
    · have h4I : ¬ (i : Int) < 4 := by omega
      have HE : Hid (root B i = i) := root_end (fun e => h4 e.1)
      go_wp2
      go_ret
      exact ⟨by rw [← hr, HE.out]; rfl, rfl⟩

set_option maxHeartbeats 1000000 in
theorem resolve_any (P S V : Nat) (B : Nat → Int) (i0 : Nat) (w : World) (E : Env w P S V B) (hi0 : i0 < 7) :
    Calls Yba.prog 6 #[.pointer (some ⟨S, 2, none⟩), ptr (P + 1 + i0)] w fun e w' => e = .returned (ptr (P + 1 + root B i0)) ∧ ∃ k, w' = w.drewN k := by
  unfold ptr
  go_enter Yba.func6, Yba.ntmps6
  go_wp2
  go_loopg [1] (7 - i0) (fun g t wr => ∃ i k : Nat, i < 7 ∧ g = 7 - i ∧ t = .pointer (some ⟨P + 1 + i, 0, none⟩) ∧ root B i = root B i0 ∧ wr = w.drewN k)
  case atStart => exact ⟨i0, 0, hi0, rfl, rfl, rfl, rfl⟩
  case round =>
    obtain ⟨i, k, hi, rfl, rfl, hr, rfl⟩ := hrel
    have s0 := E.sub
    by_cases h4 : i < 4
    · have c0 := E.var i h4
      have c4 := E.tid i h4
      have cv := E.val i h4
      have hg := E.good i h4
      have h4I : (i : Int) < 4 := by omega
      have HS : Hid (0 ≤ B i → root B i = root B (B i).toNat) := fun h => root_step E.good h4 h
      have HE : Hid (B i < 0 → root B i = i) := fun h => root_end (fun e => by omega)
      by_cases h0 : B i < 0
      · rw [vv_none h0] at cv
        generalize hz : B i = z at hg HS HE h0
        clear hz E
        go_wp2
        go_region
        go_wp2
        go_ret
        exact ⟨by rw [← hr, HE.out h0]; rfl, k + 1, rfl⟩
      · rw [vv_some h0] at cv
        unfold ptr at cv
        generalize hz : B i = z at hg HS HE h0 cv
        clear hz E
        go_wp2
        go_region
        go_wp2
        go_region
        go_wp2
        go_roundg (7 - z.toNat)
        case measure => omega
        case rel => exact ⟨z.toNat, k + 2, by omega, rfl, rfl, by rw [← hr]; exact (HS.out h0).symm, rfl⟩
    · have HE : Hid (root B i = i) := root_end (fun e => h4 e.1)
      obtain ⟨kk, hk, c0⟩ := E.non i (by omega) hi
      clear E
      go_wp2
      go_region
      go_wp2
      go_ret
      exact ⟨by rw [← hr, HE.out]; rfl, k + 1, rfl⟩
end Go.Proofs.Ybulkdcbk
