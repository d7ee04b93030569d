/-
  LAWS for the walk of the law.
-/
import Derived.Test.YbulkdbsgDoorBuild
import Derived.Test.YbulkdbsgDoorChanges
import Derived.Deep.RegionHeldLaw
namespace Go.Proofs.YbulkdbsgDoor
open Go.RowKit
set_option linter.unusedVariables false
set_option linter.unusedSimpArgs false

/-- Loop 1 begins. -/
theorem lr_start (w : World) (x : Nat → InR) (stop : Value) {w3 : World} (hw : w3 = (((w.alloc (.cells #[stop] 5)).alloc (.map #[] 0)).alloc (.cells (scs (w.heap.size + 1) (.slice none 0 0) (.slice none 0 0)) 38)).alloc (.cells #[.pointer (some ⟨w.heap.size + 1 + 1, 0, none⟩)] 24)) :
    w3.heap.size = w.heap.size + 4 ∧ w3.cell? ⟨w.heap.size, 0, none⟩ = some stop ∧ w3.heap[w.heap.size + 1]? = some (.map #[] 0) ∧ w3.heap[w.heap.size + 1 + 1]? = some (.cells (scs (w.heap.size + 1) (.slice none 0 0) (.slice none 0 0)) 38 (0, 0)) ∧
      w3.cell? ⟨w.heap.size + 1 + 1 + 1, 0, none⟩ = some (.pointer (some ⟨w.heap.size + 1 + 1, 0, none⟩)) ∧ Fr (fun _ => False) w w3 := by
  subst hw
  have ha : ∀ {W : World} {o o' : Obj} {k : Nat}, W.heap[k]? = some o → (W.alloc o').heap[k]? = some o := fun h => (Below.heap_alloc _ _ _ (lt_of_block h)).trans h
  have hn : ∀ (W : World) (o1 o2 : Obj), ((W.alloc o1).alloc o2).heap[W.heap.size + 1]? = some o2 := fun W o1 o2 => by
    have := heap_alloc_new (W.alloc o1) o2
    rwa [World.size_alloc] at this
  have r2 := hn (w.alloc (.cells #[stop] 5)) (.map #[] 0) (.cells (scs (w.heap.size + 1) (.slice none 0 0) (.slice none 0 0)) 38)
  have r3 := hn ((w.alloc (.cells #[stop] 5)).alloc (.map #[] 0)) (.cells (scs (w.heap.size + 1) (.slice none 0 0) (.slice none 0 0)) 38) (.cells #[.pointer (some ⟨w.heap.size + 1 + 1, 0, none⟩)] 24)
  simp only [World.size_alloc] at r2 r3
  exact ⟨by simp, cells_of_block (ha (ha (ha (heap_alloc_new w _)))) 0, ha (ha (hn w _ _)), ha r2, cells_of_block r3 0, ((((Fr.refl _ w).alloc _).alloc _).alloc _).alloc _⟩

theorem shr_bit (H a : Nat) (hH : H < 18446744073709551616) (ha : a < 64) : (bits .and .u64 ((H : Int) / 2 ^ a) 1 == 0) = !hasI (H : Int) a := by
  rw [has_nat H a hH, Nat.mod_eq_of_lt ha]
  have e1 : (H : Int) / 2 ^ a = ((H / 2 ^ a : Nat) : Int) := by simp
  have hl : H / 2 ^ a < 18446744073709551616 := Nat.lt_of_le_of_lt (Nat.div_le_self _ _) hH
  have e2 : bits .and .u64 ((H / 2 ^ a : Nat) : Int) 1 = ((H / 2 ^ a &&& 1 : Nat) : Int) := u64_and_nat (H / 2 ^ a) 1 hl (by omega)
  rw [e1, e2, Nat.and_one_is_mod]
  have e3 : H.testBit a = decide (H / 2 ^ a % 2 = 1) := by
    rw [Nat.testBit_eq_decide_div_mod_eq]
  rw [e3]
  generalize H / 2 ^ a = y
  by_cases h : y % 2 = 1
  · simp [h]
  · have : y % 2 = 0 := by omega
    simp [this]

theorem heldW_nat (f0 : Nat) (v : Nat → Nat) (hf : f0 ≤ 255) (n : Nat) (hv : ∀ j, j < n → v j ≤ 255) : ∃ H : Nat, heldW (f0 : Int) (fun j => (v j : Int)) n = (H : Int) ∧ H < 256 := by
  induction n with
  | zero => exact ⟨f0, rfl, by omega⟩
  | succ n ih =>
    obtain ⟨H, h1, h2⟩ := ih (fun j hj => hv j (by omega))
    refine ⟨H ||| v n, ?_, ?_⟩
    · show bits .or .u64 (heldW (f0 : Int) (fun j => (v j : Int)) n) (v n : Int) = _
      have := hv n (by omega)
      rw [h1, u64_or_nat H (v n) (by omega) (by omega)]
    · have := hv n (by omega)
      exact Nat.or_lt_two_pow (n := 8) h2 (by omega)

theorem three_newsP {w : World} {u v x : Value} {e : TypeId} : ∀ j y, [u, v, x][j]? = some y → (w.alloc (.cells #[u, v, x] e)).cell? ((⟨w.heap.size, 0, none⟩ : Addr).add j) = some y := by
  intro j y hj
  rw [Addr.add_lit, Nat.zero_add]
  refine (cells_of_block (heap_alloc_new w (.cells #[u, v, x] e)) j).trans ?_
  simpa using hj

theorem range_prefix {a b : Nat} (h : a ≤ b) : List.range a <+: List.range b := by
  obtain ⟨d, rfl⟩ := Nat.exists_eq_add_of_le h
  rw [List.range_add]
  exact List.prefix_append _ _

theorem row_form {w : World} {base n : Nat} {v : Value} {xs : List Value} (h : w.ownsRow base 51 3 v n xs) : ∃ ao cap g, v = .slice ao n cap ∧ (0 < n → ao = some ⟨g, 0, none⟩) ∧ n ≤ cap ∧ ∀ j, j < n * 3 → w.cell? ⟨g, j, none⟩ = xs[j]? := by
  rcases h.2 with ⟨e1, e2⟩ | ⟨g, cap, cur, e, _, _, hle, _⟩
  · exact ⟨none, 0, 0, by rw [e1, e2], fun h => by omega, by omega, fun j hj => by omega⟩
  · subst e
    exact ⟨_, cap, g, rfl, fun _ => rfl, hle, fun j hj => h.cellAt j hj⟩

theorem stepCs_at (K : List Stp) : ∀ i o, i < K.length → o < 3 → (stepCs K)[i * 3 + o]? = (stC (K.getD i (0, 0, 0)))[o]? := by
  induction K with
  | nil => intro i o h; simp at h
  | cons a K ih =>
    intro i o hi ho
    have e : stepCs (a :: K) = stC a ++ stepCs K := by simp [stepCs]
    rw [e]
    cases i with
    | zero =>
      rw [List.getElem?_append_left (by simp [stC]; omega)]
      simp
    | succ i =>
      rw [List.getElem?_append_right (by simp [stC]; omega)]
      have := ih i o (by simpa using hi) ho
      simp only [List.getD_cons_succ]
      rw [← this]
      congr 1
      simp [stC]
      omega

theorem SetAt.val {w : World} {b : Nat} {y y' : Int} (h : SetAt w b [y]) (e : y = y') : SetAt w b [y'] := e ▸ h
theorem setA {W1 : World} {Xb : Nat} {o3 o4 : Obj} {y : Int} (hz : W1.heap.size = Xb + 1) : SetAt (((W1.alloc (.cells #[.int .u64 y] 41)).alloc o3).alloc o4).drew (Xb + 1) [y] := by
  have r := heap_alloc_new W1 (.cells #[.int .u64 y] 41)
  rw [hz] at r
  exact (((Fr.refl (fun _ => False) (W1.alloc (.cells #[.int .u64 y] 41))).alloc o3).alloc o4).drew.heap (fun h => h) r
theorem setB {W1 : World} {Xb : Nat} {o2 o4 : Obj} {y : Int} (hz : W1.heap.size = Xb + 1) : SetAt (((W1.alloc o2).alloc (.cells #[.int .u64 y] 41)).alloc o4).drew (Xb + 1 + 1) [y] := by
  have r := heap_alloc_new (W1.alloc o2) (.cells #[.int .u64 y] 41)
  rw [World.size_alloc, hz] at r
  exact ((Fr.refl (fun _ => False) ((W1.alloc o2).alloc (.cells #[.int .u64 y] 41))).alloc o4).drew.heap (fun h => h) r

end Go.Proofs.YbulkdbsgDoor
