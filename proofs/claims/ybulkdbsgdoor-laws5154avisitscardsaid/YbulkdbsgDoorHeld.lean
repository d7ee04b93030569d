/-
  CONTRACT of heldIn.
-/
import Derived.Test.YbulkdbsgDoorApply
namespace Go.Proofs.YbulkdbsgDoor
open Go.RowKit
set_option linter.unusedVariables false

theorem make1 (w : World) : (Instr.makeSlice 29 (.int .i64 1) (.int .i64 1)).run Ybad.prog w = .ok (.slice (some ⟨w.heap.size, 0, none⟩) 1 1) (w.alloc (.cells #[.int .u64 0] 41)) := make29 1 (by omega) w

theorem neq29_nil (w : World) (a : Option Addr) (l c : Nat) : (binOp .neq 29 (.slice a l c) (.slice none 0 0)).run Ybad.prog w = .ok (.bool (!a.isNone)) w := by
  simp only [binOp]
  simp [run_equal_slice_nil w 29 41 a l c Ybad.underlying29]

theorem Fr.transNew {P R : Nat → Prop} {a b c : World} (h : Fr P a b) (k : Fr R b c) (hr : ∀ i, i < a.heap.size → R i → P i) : Fr P a c :=
  ⟨k.os.trans h.os, k.tape.trans h.tape, k.output.trans h.output, Nat.le_trans h.size k.size, fun i hi hp => (k.block i (Nat.lt_of_lt_of_le hi h.size) (fun e => hp (hr i hi e))).trans (h.block i hi hp)⟩

/-- The classes in memory. -/
structure ClassAt (w : World) (C n : Nat) (cb : Nat → Nat) (vs : Nat → Int) : Prop where
  c0 : ∀ i, i < n → w.cell? ⟨C, i * 2, none⟩ = some (setV (cb i) 1)
  c1 : ∀ i, i < n → w.cell? ⟨C, i * 2 + 1, none⟩ = some (.int .i64 1)
  s : ∀ i, i < n → SetAt w (cb i) [vs i]

theorem ClassAt.keep {w w' : World} {C n : Nat} {cb : Nat → Nat} {vs : Nat → Int} (h : ClassAt w C n cb vs) {P : Nat → Prop} (hf : Fr P w w') (h0 : ¬ P C) (h1 : ∀ i, i < n → ¬ P (cb i)) : ClassAt w' C n cb vs :=
  ⟨fun i hi => hf.cell h0 (h.c0 i hi), fun i hi => hf.cell h0 (h.c1 i hi), fun i hi => (h.s i hi).keep hf (h1 i hi)⟩

theorem SetAt.lt {w : World} {b : Nat} {ws : List Int} (h : SetAt w b ws) : b < w.heap.size := lt_of_block h

/-- What the s.fixed holds. -/
def FixAt (w : World) (S : Nat) : Option (Nat × Int) → Prop
  | none => w.cell? ⟨S, 10, none⟩ = some (.slice none 0 0)
  | some (fb, f) => w.cell? ⟨S, 10, none⟩ = some (setV fb 1) ∧ SetAt w fb [f]

def fix0 : Option (Nat × Int) → Int
  | none => 0
  | some (_, f) => f

def heldW (f0 : Int) (vs : Nat → Int) : Nat → Int
  | 0 => f0
  | k + 1 => bits .or .u64 (heldW f0 vs k) (vs k)

attribute [local go_sem] make1 neq29_nil
set_option maxHeartbeats 1000000 in
theorem held_any (S C n : Nat) (cb : Nat → Nat) (vs : Nat → Int) (fx : Option (Nat × Int)) (w : World) (hw1 : w.cell? ⟨S, 1, none⟩ = some (.int .i64 1)) (hfx : FixAt w S fx) (hc : ClassAt w C n cb vs) (hn : n ≤ 256) :
    Calls Ybad.prog 6 #[.pointer (some ⟨S, 0, none⟩), .slice (some ⟨C, 0, none⟩) n n] w fun e w' => e = .returned (setV w.heap.size 1) ∧ SetAt w' w.heap.size [heldW (fix0 fx) vs n] ∧ Fr (fun _ => False) w w' := by
  have HC : Hid _ := hc
  clear hc
  have hnew : ∀ o, Fr (fun _ => False) w (w.alloc o) := fun o => (Fr.refl _ _).alloc o
  unfold setV
  cases fx with
  | none =>
    have hf : w.cell? ⟨S, 10, none⟩ = some (.slice none 0 0) := hfx
    have hfa : ∀ o, (w.alloc o).cell? ⟨S, 10, none⟩ = some (.slice none 0 0) := fun o => (hnew o).cell (fun h => h) hf
    go_enter Ybad.func6, Ybad.ntmps6
    go_wp2
    go_loopw [26] (fun t wr => ∃ i : Nat, i ≤ n ∧ t = .int .i64 i ∧ SetAt wr w.heap.size [heldW 0 vs i] ∧ Fr (fun _ => False) w wr) (fun t _ => n - (intOf t).toNat)
    case atStart => exact ⟨0, Nat.zero_le _, rfl, heap_alloc_new w _, hnew _⟩
    case round =>
      obtain ⟨i, hi, rfl, hset, hfr⟩ := hrel
      by_cases hlt : i < n
      · have hcl := HC.out.keep hfr (fun h => h) (fun _ _ h => h)
        have c0 := hcl.c0 i hlt
        have c1 := hcl.c1 i hlt
        have hs := hcl.s i hlt
        have hne : ¬ w.heap.size = cb i := by have := (HC.out.s i hlt).lt; omega
        have hltI : (i : Int) < n := by omega
        have hin := fun o => include_any w.heap.size (cb i) [heldW 0 vs i] [vs i] (wr.alloc o) (hset.keep ((Fr.refl (fun _ => False) wr).alloc o) (fun h => h)) (hs.keep ((Fr.refl (fun _ => False) wr).alloc o) (fun h => h)) (by simp) (by simp) hne
        have HS : Hid (heldW 0 vs (i + 1) = bits .or .u64 (heldW 0 vs i) (vs i)) := rfl
        unfold setV at c0 hin
        simp only [List.length_cons, List.length_nil, Nat.zero_add, orW, List.getD_cons_zero, List.set_cons_zero] at hin
        generalize cb i = ci at c0 hin
        clear hcl hs hne
        go_wp2_with (go_at_call 9; go_must (refine (hin _).mono ?_; rintro e w' ⟨he, hs', hf'⟩; rw [he]; clear he e))
        go_roundw
        case rel => exact ⟨i + 1, by omega, by go_num, by rw [HS.out]; exact hs', (hfr.alloc _).transNew hf' (fun k hk h => by omega)⟩
        case measure => simp [intOf]; omega
      · obtain rfl : n = i := by omega
        have hltI : ¬ (n : Int) < n := by omega
        go_wp2
        go_ret
        exact ⟨rfl, hset, hfr⟩
  | some p =>
    obtain ⟨fb, f⟩ := p
    obtain ⟨hf, hfs⟩ : w.cell? ⟨S, 10, none⟩ = some (setV fb 1) ∧ SetAt w fb [f] := hfx
    unfold setV at hf
    have hfa : ∀ o, (w.alloc o).cell? ⟨S, 10, none⟩ = some (.slice (some ⟨fb, 0, none⟩) 1 1) := fun o => (hnew o).cell (fun h => h) hf
    have hcp := copy1 (w.alloc (.cells #[.int .u64 0] 41)) (nb := w.heap.size) (sb := fb) (x := 0) (v := f) (heap_alloc_new w _) (hfs.keep (hnew _) (fun h => h))
    go_enter Ybad.func6, Ybad.ntmps6
    go_wp2
    go_loopw [26] (fun t wr => ∃ i : Nat, i ≤ n ∧ t = .int .i64 i ∧ SetAt wr w.heap.size [heldW f vs i] ∧ Fr (fun _ => False) w wr) (fun t _ => n - (intOf t).toNat)
    case atStart => exact ⟨0, Nat.zero_le _, rfl, heap_alloc_new w _, hnew _⟩
    case round =>
      obtain ⟨i, hi, rfl, hset, hfr⟩ := hrel
      by_cases hlt : i < n
      · have hcl := HC.out.keep hfr (fun h => h) (fun _ _ h => h)
        have c0 := hcl.c0 i hlt
        have c1 := hcl.c1 i hlt
        have hs := hcl.s i hlt
        have hne : ¬ w.heap.size = cb i := by have := (HC.out.s i hlt).lt; omega
        have hltI : (i : Int) < n := by omega
        have hin := fun o => include_any w.heap.size (cb i) [heldW f vs i] [vs i] (wr.alloc o) (hset.keep ((Fr.refl (fun _ => False) wr).alloc o) (fun h => h)) (hs.keep ((Fr.refl (fun _ => False) wr).alloc o) (fun h => h)) (by simp) (by simp) hne
        have HS : Hid (heldW f vs (i + 1) = bits .or .u64 (heldW f vs i) (vs i)) := rfl
        unfold setV at c0 hin
        simp only [List.length_cons, List.length_nil, Nat.zero_add, orW, List.getD_cons_zero, List.set_cons_zero] at hin
        generalize cb i = ci at c0 hin
        clear hcl hs hne
        go_wp2_with (go_at_call 9; go_must (refine (hin _).mono ?_; rintro e w' ⟨he, hs', hf'⟩; rw [he]; clear he e))
        go_roundw
        case rel => exact ⟨i + 1, by omega, by go_num, by rw [HS.out]; exact hs', (hfr.alloc _).transNew hf' (fun k hk h => by omega)⟩
        case measure => simp [intOf]; omega
      · obtain rfl : n = i := by omega
        have hltI : ¬ (n : Int) < n := by omega
        go_wp2
        go_ret
        exact ⟨rfl, hset, hfr⟩
end Go.Proofs.YbulkdbsgDoor
