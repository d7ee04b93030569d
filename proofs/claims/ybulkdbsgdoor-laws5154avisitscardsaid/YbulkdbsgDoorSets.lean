/-
  SETS OF WORDS IN MEMORY, and the contracts of Has, Add, Remove, Words, New, Include.
-/
import Derived.Test.YbulkdbsgDoorRows
import Derived.Test.YbulkdbsgDoorMem
import Derived.OpenShut
import Derived.WalkSpells
import Derived.Deep.QuietTactic
import Derived.BigQuiet
import Derived.BigRegion
import Derived.OwnWalk
import Derived.Deep.OwnRows
namespace Go.Proofs.YbulkdbsgDoor
open Go.RowKit
set_option linter.unusedVariables false

/-- Block b holds the words ws. -/
def SetAt (w : World) (b : Nat) (ws : List Int) : Prop := w.heap[b]? = some (.cells (ws.map (Value.int .u64)).toArray 41 (0, 0))

theorem SetAt.cell {w : World} {b : Nat} {ws : List Int} (h : SetAt w b ws) {i : Nat} (hi : i < ws.length) : w.cell? ⟨b, i, none⟩ = some (.int .u64 (ws.getD i 0)) := by
  rw [cells_of_block h]
  simp [List.getD, hi]
theorem SetAt.free {w : World} {b : Nat} {ws : List Int} (h : SetAt w b ws) (i : Nat) : w.frozen? ⟨b, i, none⟩ = false := free_of_block h i
theorem SetAt.keep {w w' : World} {b : Nat} {ws : List Int} (h : SetAt w b ws) {P : Nat → Prop} (hf : Fr P w w') (hb : ¬ P b) : SetAt w' b ws := hf.heap hb h
theorem SetAt.set {w : World} {b : Nat} {ws : List Int} (h : SetAt w b ws) (i : Nat) (x : Int) : SetAt (w.setCell ⟨b, i, none⟩ (.int .u64 x)) b (ws.set i x) := by
  unfold SetAt
  rw [heap_setCell_same w b i _ 41 _ h]
  simp [List.map_set]
theorem SetAt.drew {w : World} {b : Nat} {ws : List Int} (h : SetAt w b ws) : SetAt w.drew b ws := h

def setV (b m : Nat) : Value := .slice (some ⟨b, 0, none⟩) m m

def bitI (n : Nat) : Int := IntKind.u64.wrap (2 ^ (n % 64))
def hasI (x : Int) (n : Nat) : Bool := bits .and .u64 x (bitI n) != 0
def addI (x : Int) (n : Nat) : Int := bits .or .u64 x (bitI n)
def remI (x : Int) (n : Nat) : Int := bits .andNot .u64 x (bitI n)

set_option maxHeartbeats 1000000 in
theorem has_any (b : Nat) (ws : List Int) (n : Nat) (w : World) (h : SetAt w b ws) (hn : n / 64 < ws.length) (hm : ws.length ≤ 1024) :
    Calls Ybad.prog 11 #[setV b ws.length, .int .i64 n] w fun e w' => e = .returned (.bool (hasI (ws.getD (n / 64) 0) n)) ∧ ∃ k, w' = w.drewN k := by
  have c := h.cell hn
  have hnI : (n : Int) / 64 < ws.length := by omega
  unfold hasI bitI
  generalize ws.getD (n / 64) 0 = x at c ⊢
  unfold setV
  go_enter Ybad.func11, Ybad.ntmps11
  go_wp2
  go_region
  all_goals go_wp2
  all_goals go_ret
  all_goals exact ⟨rfl, 1, rfl⟩

set_option maxHeartbeats 1000000 in
theorem add_any (b : Nat) (ws : List Int) (n : Nat) (w : World) (h : SetAt w b ws) (hn : n / 64 < ws.length) (hm : ws.length ≤ 1024) :
    Calls Ybad.prog 15 #[setV b ws.length, .int .i64 n] w fun e w' => e = .returned (.tuple #[]) ∧ SetAt w' b (ws.set (n / 64) (addI (ws.getD (n / 64) 0) n)) ∧ Fr (fun k => k = b) w w' := by
  have c := h.cell hn
  have f := h.free (n / 64)
  have hnI : (n : Int) / 64 < ws.length := by omega
  have hset := fun x => h.set (n / 64) x
  unfold addI bitI
  generalize ws.getD (n / 64) 0 = x at c ⊢
  unfold setV
  go_enter Ybad.func15, Ybad.ntmps15
  go_wp2
  go_region
  all_goals go_wp2
  all_goals go_end0
  all_goals exact ⟨rfl, hset _, ((Fr.refl (fun k => k = b) w).setCell (p := ⟨b, n / 64, none⟩) rfl _).drew⟩

set_option maxHeartbeats 1000000 in
theorem rem_any (b : Nat) (ws : List Int) (n : Nat) (w : World) (h : SetAt w b ws) (hn : n / 64 < ws.length) (hm : ws.length ≤ 1024) :
    Calls Ybad.prog 18 #[setV b ws.length, .int .i64 n] w fun e w' => e = .returned (.tuple #[]) ∧ SetAt w' b (ws.set (n / 64) (remI (ws.getD (n / 64) 0) n)) ∧ Fr (fun k => k = b) w w' := by
  have c := h.cell hn
  have f := h.free (n / 64)
  have hnI : (n : Int) / 64 < ws.length := by omega
  have hset := fun x => h.set (n / 64) x
  unfold remI bitI
  generalize ws.getD (n / 64) 0 = x at c ⊢
  unfold setV
  go_enter Ybad.func18, Ybad.ntmps18
  go_wp2
  go_region
  all_goals go_wp2
  all_goals go_end0
  all_goals exact ⟨rfl, hset _, ((Fr.refl (fun k => k = b) w).setCell (p := ⟨b, n / 64, none⟩) rfl _).drew⟩

theorem info41 : (Ybad.prog.info? 41).map (fun i => (i.zero, i.size, i.bytes)) = some (some (.int .u64 0), 1, 8) := by kernel_rfl
theorem made_u64 (n : Nat) : madeCells #[Value.int .u64 0] n = ((List.replicate n (0 : Int)).map (Value.int .u64)).toArray := by
  apply Array.toList_inj.1
  rw [toList_madeCells_one]
  simp
theorem make29 (n : Nat) (hn : n ≤ 100000) (w : World) : (Instr.makeSlice 29 (.int .i64 n) (.int .i64 n)).run Ybad.prog w = .ok (setV w.heap.size n) (w.alloc (.cells ((List.replicate n (0 : Int)).map (Value.int .u64)).toArray 41)) := by
  rw [← made_u64]
  exact run_make_row' 29 41 _ 8 Ybad.underlying29 info41 rfl .i64 .i64 n (by omega) (by omega) w

theorem words_any (n : Nat) (w : World) (hn : n ≤ 100000) : Calls Ybad.prog 13 #[.int .i64 n] w fun e w' => e = .returned (.int .i64 ((n + 63) / 64 : Nat)) ∧ w' = w := by
  go_enter Ybad.func13, Ybad.ntmps13
  go_wp2
  go_ret
  exact ⟨by simp, rfl⟩

theorem new_any (n : Nat) (w : World) (hn : n ≤ 100000) : Calls Ybad.prog 7 #[.int .i64 n] w fun e w' => e = .returned (setV w.heap.size ((n + 63) / 64)) ∧ SetAt w' w.heap.size (List.replicate ((n + 63) / 64) 0) ∧ w'.heap.size = w.heap.size + 1 ∧ Fr (fun _ => False) w w' := by
  have hm := make29 ((n + 63) / 64) (by omega)
  have hw := words_any n w hn
  generalize (n + 63) / 64 = m at hm hw ⊢
  unfold setV at hm ⊢
  go_enter Ybad.func7, Ybad.ntmps7
  go_wp2_with (go_at_call 13; go_must (refine hw.mono ?_; rintro e w' ⟨he, hw⟩; rw [he, hw]; clear he hw e w'))
  go_ret
  refine ⟨rfl, ?_, by simp, (Fr.refl _ _).alloc _⟩
  unfold SetAt
  rw [heap_alloc_new]
  simp

/-- Include of words, one by one. -/
def orW (xs ys : List Int) : Nat → List Int
  | 0 => xs
  | k + 1 => (orW xs ys k).set k (bits .or .u64 ((orW xs ys k).getD k 0) (ys.getD k 0))
theorem orW_len (xs ys : List Int) (k : Nat) : (orW xs ys k).length = xs.length := by
  induction k with
  | zero => rfl
  | succ k ih => simp [orW, ih]

set_option maxHeartbeats 1000000 in
theorem include_any (b c : Nat) (xs ys : List Int) (w : World) (hx : SetAt w b xs) (hy : SetAt w c ys) (hl : ys.length ≤ xs.length) (hm : ys.length ≤ 1024) (hbc : ¬ b = c) :
    Calls Ybad.prog 9 #[setV b xs.length, setV c ys.length] w fun e w' => e = .returned (.tuple #[]) ∧ SetAt w' b (orW xs ys ys.length) ∧ Fr (fun k => k = b) w w' := by
  unfold setV
  go_enter Ybad.func9, Ybad.ntmps9
  go_wp2
  go_loopw [8] (fun t wr => ∃ i : Nat, i ≤ ys.length ∧ t = .int .i64 i ∧ SetAt wr b (orW xs ys i) ∧ Fr (fun k => k = b) w wr) (fun t _ => ys.length - (intOf t).toNat)
  case atStart => exact ⟨0, Nat.zero_le _, rfl, hx, Fr.refl _ _⟩
  case round =>
    obtain ⟨i, hi, rfl, hset, hfr⟩ := hrel
    by_cases hlt : i < ys.length
    · have hltI : (i : Int) < ys.length := by omega
      have hltX : (i : Int) < xs.length := by omega
      have c1 := hset.cell (i := i) (by rw [orW_len]; omega)
      have f1 := hset.free i
      have c2 := (hy.keep hfr (fun e => hbc e.symm)).cell hlt
      have HS : Hid (SetAt (wr.setCell ⟨b, i, none⟩ (.int .u64 (bits .or .u64 ((orW xs ys i).getD i 0) (ys.getD i 0)))) b (orW xs ys (i + 1))) := hset.set i _
      generalize (orW xs ys i).getD i 0 = x at c1 HS
      generalize ys.getD i 0 = y at c2 HS
      clear hset
      go_wp2
      go_roundw
      case rel => exact ⟨i + 1, by omega, by go_num, HS.out, hfr.setCell (p := ⟨b, i, none⟩) rfl _⟩
      case measure => simp [intOf]; omega
    · obtain rfl : i = ys.length := by omega
      have hltI : ¬ (ys.length : Int) < ys.length := by omega
      go_wp2
      go_end0
      exact ⟨rfl, hset, hfr⟩
end Go.Proofs.YbulkdbsgDoor
