/-
  THE PLAIN LAW: the root of an index under the bindings.
-/
import Derived.Test.YbulkdcbkMem
namespace Go.Proofs.Ybulkdcbk
open Go.RowKit

def ptr (b : Nat) : Value := .pointer (some ⟨b, 0, none⟩)

/-- The index bindings lead upward. -/
def Good (B : Nat → Int) : Prop := ∀ i, i < 4 → B i = -1 ∨ ((i : Int) < B i ∧ B i < 7)

def rootF (B : Nat → Int) : Nat → Nat → Nat
  | 0, i => i
  | n + 1, i => if i < 4 ∧ 0 ≤ B i then rootF B n (B i).toNat else i
def root (B : Nat → Int) (i : Nat) : Nat := rootF B 7 i

theorem rootF_end {B : Nat → Int} {i : Nat} (h : ¬ (i < 4 ∧ 0 ≤ B i)) (n : Nat) : rootF B n i = i := by
  cases n with
  | zero => rfl
  | succ n => simp only [rootF, if_neg h]

theorem rootF_same {B : Nat → Int} (g : Good B) : ∀ (n m i : Nat), 7 - i ≤ n → 7 - i ≤ m → rootF B n i = rootF B m i := by
  intro n
  induction n with
  | zero => intro m i h _; rw [rootF_end (by omega), rootF_end (by omega)]
  | succ n ih =>
    intro m i hn hm
    by_cases h : i < 4 ∧ 0 ≤ B i
    · cases m with
      | zero => omega
      | succ m =>
        simp only [rootF, if_pos h]
        rcases g i h.1 with e | ⟨e, _⟩
        · omega
        · exact ih m _ (by omega) (by omega)
    · rw [rootF_end h, rootF_end h]

theorem root_step {B : Nat → Int} (g : Good B) {i : Nat} (hi : i < 4) (h : 0 ≤ B i) : root B i = root B (B i).toNat := by
  rcases g i hi with e | ⟨e, _⟩
  · omega
  · have : root B i = rootF B 6 (B i).toNat := by simp only [root, rootF, if_pos (show i < 4 ∧ 0 ≤ B i from ⟨hi, h⟩)]
    rw [this]
    exact rootF_same g _ _ _ (by omega) (by omega)

theorem root_end {B : Nat → Int} {i : Nat} (h : ¬ (i < 4 ∧ 0 ≤ B i)) : root B i = i := rootF_end h 7

theorem root_lt {B : Nat → Int} (g : Good B) {i : Nat} (hi : i < 7) : root B i < 7 := by
  have : ∀ (n i : Nat), i < 7 → rootF B n i < 7 := by
    intro n
    induction n with
    | zero => intro i h; exact h
    | succ n ih =>
      intro i h
      simp only [rootF]
      split
      · rename_i hc
        rcases g i hc.1 with e | ⟨_, e⟩
        · omega
        · exact ih _ (by omega)
      · exact h
  exact this 7 i hi

/-- What the slot i of vals holds. -/
def vv (B : Nat → Int) (P i : Nat) : Value := if B i < 0 then .pointer none else ptr (P + 1 + (B i).toNat)
theorem vv_none {B : Nat → Int} {P i : Nat} (h : B i < 0) : vv B P i = .pointer none := by simp only [vv, if_pos h]
theorem vv_some {B : Nat → Int} {P i : Nat} (h : ¬ B i < 0) : vv B P i = ptr (P + 1 + (B i).toNat) := by simp only [vv, if_neg h]

/-- The terms, the solver's bindings. -/
structure Env (w : World) (P S V : Nat) (B : Nat → Int) : Prop where
  good : Good B
  blk : ∀ i, i < 7 → ∃ cs, w.heap[P + 1 + i]? = some (.cells cs 31 (0, 0))
  var : ∀ i, i < 4 → w.cell? ⟨P + 1 + i, 0, none⟩ = some (.int .u8 0)
  tid : ∀ i, i < 4 → w.cell? ⟨P + 1 + i, 4, none⟩ = some (.int .i64 i)
  non : ∀ i, 4 ≤ i → i < 7 → ∃ k : Int, (k == 0) = false ∧ w.cell? ⟨P + 1 + i, 0, none⟩ = some (.int .u8 k)
  sub : w.cell? ⟨S, 3, none⟩ = some (.slice (some ⟨V, 0, none⟩) 4 4)
  val : ∀ i, i < 4 → w.cell? ⟨V, i, none⟩ = some (vv B P i)

theorem Env.keep {w w' : World} {P S V : Nat} {B : Nat → Int} (h : Env w P S V B) (hf : Fr (fun _ => False) w w') : Env w' P S V B where
  good := h.good
  blk := fun i hi => by obtain ⟨cs, hc⟩ := h.blk i hi; exact ⟨cs, hf.heap (fun h => h) hc⟩
  var := fun i hi => hf.cell (fun h => h) (h.var i hi)
  tid := fun i hi => hf.cell (fun h => h) (h.tid i hi)
  non := fun i h4 h7 => by obtain ⟨k, hk, hc⟩ := h.non i h4 h7; exact ⟨k, hk, hf.cell (fun h => h) hc⟩
  sub := hf.cell (fun h => h) h.sub
  val := fun i hi => hf.cell (fun h => h) (h.val i hi)

theorem drewN_fr (w : World) (n : Nat) : Fr (fun _ => False) w (w.drewN n) := (Fr.refl _ _).drewN n
end Go.Proofs.Ybulkdcbk
