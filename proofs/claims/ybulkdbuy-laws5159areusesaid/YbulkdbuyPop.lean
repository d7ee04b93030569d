/-
  CONTRACTS of popAll, len, front, single.
-/
import Derived.Test.YbulkdbuyQueue
import Derived.Deep.LoopGhost
namespace Go.Proofs.Ybulkdbuy
open Go.RowKit
set_option linter.unusedVariables false

/-- Behind popAll: the chain stands, no waiter of it is marked, the queue is empty. -/
structure Popped (w : World) (Q : Nat) (l : List Nat) : Prop where
  q : Qh w Q (.pointer none) (.pointer none)
  node : ∀ i, i < l.length → Node w (l.getD i 0) (pv l i) (nx l i) false

theorem hdv_nil {l : List Nat} (h : l.length = 0) : hdv l = .pointer none := by simp only [hdv, if_neg (show ¬ 0 < l.length by omega)]
theorem hdv_pos {l : List Nat} (h : 0 < l.length) : hdv l = ptr (l.getD 0 0) := by simp only [hdv, if_pos h]

/-- What the walk along the chain stands at behind i steps. -/
def curv (l : List Nat) (i : Nat) : Value := if i < l.length then ptr (l.getD i 0) else .pointer none
theorem curv_zero (l : List Nat) : curv l 0 = hdv l := rfl
theorem curv_lt {l : List Nat} {i : Nat} (h : i < l.length) : curv l i = ptr (l.getD i 0) := by simp only [curv, if_pos h]
theorem curv_end {l : List Nat} {i : Nat} (h : ¬ i < l.length) : curv l i = .pointer none := by simp only [curv, if_neg h]
theorem nx_curv (l : List Nat) (i : Nat) : nx l i = curv l (i + 1) := rfl

theorem pop_next {w : World} {l : List Nat} {k : Nat} (hn : l.Nodup) (hk : k < l.length) (h : ∀ i, i < l.length → Node w (l.getD i 0) (pv l i) (nx l i) (decide (k ≤ i))) :
    ∀ i, i < l.length → Node (w.setCell ⟨l.getD k 0, 8, none⟩ (.bool false)) (l.getD i 0) (pv l i) (nx l i) (decide (k + 1 ≤ i)) := by
  intro i hi
  by_cases e : i = k
  · subst e
    have : decide (i + 1 ≤ i) = false := by simp
    rw [this]
    exact (h i hi).setQ false
  · have : decide (k + 1 ≤ i) = decide (k ≤ i) := by rw [Bool.eq_iff_iff]; simp; omega
    rw [this]
    exact (h i hi).other _ (getD_ne hn hi hk e)

set_option maxHeartbeats 1000000 in
theorem popAll_any (Q : Nat) (l : List Nat) (w : World) (h : DL w Q l) :
    Calls Yba.prog 8 #[ptr Q] w fun e w' => e = .returned (hdv l) ∧ Popped w' Q l ∧ Fr (fun x => x = Q ∨ x ∈ l) w w' := by
  have q1 := h.q.c1
  unfold ptr
  go_enter Yba.func8, Yba.ntmps8
  go_wp2
  go_loopg [4] l.length (fun g t wr => ∃ k : Nat, k ≤ l.length ∧ g = l.length - k ∧ t = curv l k ∧ Qh wr Q (hdv l) (tlv l) ∧ (∀ i, i < l.length → Node wr (l.getD i 0) (pv l i) (nx l i) (decide (k ≤ i))) ∧ Fr (fun x => x = Q ∨ x ∈ l) w wr)
  case atStart => exact ⟨0, Nat.zero_le _, rfl, rfl, h.q, fun i hi => h.node i hi, Fr.refl _ _⟩
  case round =>
    obtain ⟨k, hk, rfl, rfl, hq, hnode, hfr⟩ := hrel
    by_cases hkl : k < l.length
    · have hb := hnode k hkl
      have hmem := getD_memN hkl
      have hnext := pop_next h.nodup hkl hnode
      have HQ : Hid (∀ v, Qh (wr.setCell ⟨l.getD k 0, 8, none⟩ v) Q (hdv l) (tlv l)) := fun v => hq.other v (hq.ne hb)
      have b7 := hb.c7
      have b8 := hb.c8
      have bf := hb.free
      rw [curv_lt hkl]
      rw [nx_curv] at b7
      generalize l.getD k 0 = b at hmem hnext HQ b7 b8 bf ⊢
      unfold ptr
      clear hnode hb q1
      go_wp2
      go_roundg (l.length - (k + 1))
      case measure => omega
      case rel => exact ⟨k + 1, by omega, rfl, rfl, HQ.out _, hnext, Fr.setCell (p := ⟨b, 8, none⟩) hfr (.inr hmem) _⟩
    · obtain rfl : k = l.length := by omega
      rw [curv_end hkl]
      have c1 := hq.c1
      have c2 := hq.c2
      have cf := hq.free
      have hp : Popped ((wr.setCell ⟨Q, 1, none⟩ (.pointer none)).setCell ⟨Q, 2, none⟩ (.pointer none)) Q l := ⟨(hq.setHead _).setTail _, fun i hi => by
        have hn := hnode i hi
        rw [show decide (l.length ≤ i) = false by simpa using hi] at hn
        have hiQ : ¬ l.getD i 0 = Q := fun e => hq.ne hn e.symm
        exact (hn.other _ hiQ).other _ hiQ⟩
      clear hnode q1
      go_wp2
      go_ret
      exact ⟨rfl, hp, Fr.setCell (p := ⟨Q, 2, none⟩) (Fr.setCell (p := ⟨Q, 1, none⟩) hfr (.inl rfl) _) (.inl rfl) _⟩

theorem popped_empty {w : World} {Q : Nat} {l : List Nat} (h : Popped w Q l) : DL w Q [] := ⟨h.q, fun i hi => by simp at hi, by simp⟩

theorem len_zero (Q : Nat) (t : Value) (w : World) (h : Qh w Q (.pointer none) t) : Calls Yba.prog 9 #[ptr Q] w fun e w' => e = .returned (.int .i64 0) ∧ w' = w := by
  have c1 := h.c1
  unfold ptr
  go_enter Yba.func9, Yba.ntmps9
  go_wp2
  refine wp_loop_rounds 1 ?_; rw [rounds_succ]; go_wp2
  go_ret
  exact ⟨rfl, rfl⟩

theorem front_any (Q : Nat) (h t : Value) (w : World) (x : Qh w Q h t) : Calls Yba.prog 10 #[ptr Q] w fun e w' => e = .returned h ∧ w' = w := by
  have c1 := x.c1
  unfold ptr
  go_enter Yba.func10, Yba.ntmps10
  go_wp2
  go_ret
  exact ⟨rfl, rfl⟩

theorem single_empty (Q : Nat) (t : Value) (w : World) (x : Qh w Q (.pointer none) t) : Calls Yba.prog 11 #[ptr Q] w fun e w' => e = .returned (.bool false) ∧ ∃ k, w' = w.drewN k := by
  have c1 := x.c1
  have c2 := x.c2
  unfold ptr
  go_enter Yba.func11, Yba.ntmps11
  go_wp2
  go_region
  all_goals go_wp2
  all_goals go_ret
  all_goals exact ⟨rfl, 1, rfl⟩

theorem size39 (w : World) : (sizeOf 39).run Yba.prog w = .ok 9 w := by kernel_rfl
theorem eq29g (d : Nat) (w : World) (a : Addr) : (Op.equalIn (d + 1) 29 (.pointer (some a)) (.pointer (some a))).run Yba.prog w = .ok true w := by
  unfold Op.equalIn
  simp [Sem.run_bind, run_underlying Yba.underlying29, Result.andThen_ok, sameAddr]
theorem eql29 (w : World) (a : Addr) : (binOp .eql 29 (.pointer (some a)) (.pointer (some a))).run Yba.prog w = .ok (.bool true) w := by
  simp only [binOp]
  have h : (Op.equal 29 (.pointer (some a)) (.pointer (some a))).run Yba.prog w = .ok true w := eq29g 9999 w a
  simp [h]
theorem neq29 (w : World) (a : Addr) : (binOp .neq 29 (.pointer (some a)) (.pointer (some a))).run Yba.prog w = .ok (.bool false) w := by
  simp only [binOp]
  have h : (Op.equal 29 (.pointer (some a)) (.pointer (some a))).run Yba.prog w = .ok true w := eq29g 9999 w a
  simp [h]
attribute [local go_sem] eql29
attribute [local go_sem] neq29

theorem single_one (Q b : Nat) (w : World) (x : Qh w Q (ptr b) (ptr b)) : Calls Yba.prog 11 #[ptr Q] w fun e w' => e = .returned (.bool true) ∧ ∃ k, w' = w.drewN k := by
  have c1 := x.c1
  have c2 := x.c2
  unfold ptr at c1 c2 ⊢
  go_enter Yba.func11, Yba.ntmps11
  go_wp2
  go_region
  all_goals go_wp2
  all_goals go_ret
  all_goals exact ⟨rfl, 1, rfl⟩

end Go.Proofs.Ybulkdbuy
