/-
  A DOUBLY LINKED QUEUE IN MEMORY, and the contracts of pushBack, remove, popAll, len, front, single.
-/
import Derived.Test.YbulkdbuyRows
import Derived.Test.YbulkdbuyMem
import Derived.OpenShut
import Derived.WalkSpells
import Derived.Deep.QuietTactic
import Derived.BigQuiet
namespace Go.Proofs.Ybulkdbuy
open Go.RowKit
set_option linter.unusedVariables false

def ptr (b : Nat) : Value := .pointer (some ⟨b, 0, none⟩)
/-- What node i's prev holds. -/
def pv (l : List Nat) (i : Nat) : Value := if i = 0 then .pointer none else ptr (l.getD (i - 1) 0)
/-- What node i's next holds. -/
def nx (l : List Nat) (i : Nat) : Value := if i + 1 < l.length then ptr (l.getD (i + 1) 0) else .pointer none
def hdv (l : List Nat) : Value := if 0 < l.length then ptr (l.getD 0 0) else .pointer none
def tlv (l : List Nat) : Value := if 0 < l.length then ptr (l.getD (l.length - 1) 0) else .pointer none

/-- Block b is a waiter. -/
def Node (w : World) (b : Nat) (p n : Value) (q : Bool) : Prop :=
  ∃ c0 c1 c2 c3 c4 c5, w.heap[b]? = some (.cells #[c0, c1, c2, c3, c4, c5, p, n, .bool q] 39 (0, 0))

section
variable {w w' : World} {b b' : Nat} {p n : Value} {q : Bool}
theorem Node.c6 (h : Node w b p n q) : w.cell? ⟨b, 6, none⟩ = some p := by obtain ⟨_, _, _, _, _, _, h⟩ := h; rw [cells_of_block h]; rfl
theorem Node.c7 (h : Node w b p n q) : w.cell? ⟨b, 7, none⟩ = some n := by obtain ⟨_, _, _, _, _, _, h⟩ := h; rw [cells_of_block h]; rfl
theorem Node.c8 (h : Node w b p n q) : w.cell? ⟨b, 8, none⟩ = some (.bool q) := by obtain ⟨_, _, _, _, _, _, h⟩ := h; rw [cells_of_block h]; rfl
theorem Node.free (h : Node w b p n q) (i : Nat) : w.frozen? ⟨b, i, none⟩ = false := by obtain ⟨_, _, _, _, _, _, h⟩ := h; exact free_of_block h i
theorem Node.lt (h : Node w b p n q) : b < w.heap.size := by obtain ⟨_, _, _, _, _, _, h⟩ := h; exact lt_of_block h
theorem Node.setPrev (h : Node w b p n q) (v : Value) : Node (w.setCell ⟨b, 6, none⟩ v) b v n q := by
  obtain ⟨c0, c1, c2, c3, c4, c5, h⟩ := h
  exact ⟨c0, c1, c2, c3, c4, c5, by rw [heap_setCell_same w b 6 _ 39 v h]; rfl⟩
theorem Node.setNext (h : Node w b p n q) (v : Value) : Node (w.setCell ⟨b, 7, none⟩ v) b p v q := by
  obtain ⟨c0, c1, c2, c3, c4, c5, h⟩ := h
  exact ⟨c0, c1, c2, c3, c4, c5, by rw [heap_setCell_same w b 7 _ 39 v h]; rfl⟩
theorem Node.setQ (h : Node w b p n q) (v : Bool) : Node (w.setCell ⟨b, 8, none⟩ (.bool v)) b p n v := by
  obtain ⟨c0, c1, c2, c3, c4, c5, h⟩ := h
  exact ⟨c0, c1, c2, c3, c4, c5, by rw [heap_setCell_same w b 8 _ 39 _ h]; rfl⟩
theorem Node.other (h : Node w b p n q) {i : Nat} (v : Value) (hb : ¬ b = b') : Node (w.setCell ⟨b', i, none⟩ v) b p n q := by
  obtain ⟨c0, c1, c2, c3, c4, c5, h⟩ := h
  exact ⟨c0, c1, c2, c3, c4, c5, by rw [heap_setCell_other _ _ _ _ hb]; exact h⟩
theorem Node.keep (h : Node w b p n q) {P : Nat → Prop} (hf : Fr P w w') (hb : ¬ P b) : Node w' b p n q := by
  obtain ⟨c0, c1, c2, c3, c4, c5, h⟩ := h
  exact ⟨c0, c1, c2, c3, c4, c5, hf.heap hb h⟩
end

/-- Block Q is the queue's head: its first and its last waiter. -/
def Qh (w : World) (Q : Nat) (h t : Value) : Prop := ∃ g, w.heap[Q]? = some (.cells #[g, h, t] 31 (0, 0))

section
variable {w w' : World} {Q b : Nat} {h t : Value}
theorem Qh.c1 (x : Qh w Q h t) : w.cell? ⟨Q, 1, none⟩ = some h := by obtain ⟨_, x⟩ := x; rw [cells_of_block x]; rfl
theorem Qh.c2 (x : Qh w Q h t) : w.cell? ⟨Q, 2, none⟩ = some t := by obtain ⟨_, x⟩ := x; rw [cells_of_block x]; rfl
theorem Qh.free (x : Qh w Q h t) (i : Nat) : w.frozen? ⟨Q, i, none⟩ = false := by obtain ⟨_, x⟩ := x; exact free_of_block x i
theorem Qh.setHead (x : Qh w Q h t) (v : Value) : Qh (w.setCell ⟨Q, 1, none⟩ v) Q v t := by
  obtain ⟨g, x⟩ := x
  exact ⟨g, by rw [heap_setCell_same w Q 1 _ 31 v x]; rfl⟩
theorem Qh.setTail (x : Qh w Q h t) (v : Value) : Qh (w.setCell ⟨Q, 2, none⟩ v) Q h v := by
  obtain ⟨g, x⟩ := x
  exact ⟨g, by rw [heap_setCell_same w Q 2 _ 31 v x]; rfl⟩
theorem Qh.other (x : Qh w Q h t) {i : Nat} (v : Value) (hb : ¬ Q = b) : Qh (w.setCell ⟨b, i, none⟩ v) Q h t := by
  obtain ⟨g, x⟩ := x
  exact ⟨g, by rw [heap_setCell_other _ _ _ _ hb]; exact x⟩
theorem Qh.keep (x : Qh w Q h t) {P : Nat → Prop} (hf : Fr P w w') (hb : ¬ P Q) : Qh w' Q h t := by
  obtain ⟨g, x⟩ := x
  exact ⟨g, hf.heap hb x⟩
theorem Qh.ne (x : Qh w Q h t) {p n : Value} {q : Bool} (y : Node w b p n q) : ¬ Q = b := by
  obtain ⟨g, x⟩ := x
  obtain ⟨_, _, _, _, _, _, y⟩ := y
  intro e
  subst e
  rw [x] at y
  simp at y
end

structure DL (w : World) (Q : Nat) (l : List Nat) : Prop where
  q : Qh w Q (hdv l) (tlv l)
  node : ∀ i, i < l.length → Node w (l.getD i 0) (pv l i) (nx l i) true
  nodup : l.Nodup

theorem DL.keep {w w' : World} {Q : Nat} {l : List Nat} (h : DL w Q l) {P : Nat → Prop} (hf : Fr P w w') (hq : ¬ P Q) (hn : ∀ b ∈ l, ¬ P b) : DL w' Q l :=
  ⟨h.q.keep hf hq, fun i hi => (h.node i hi).keep hf (hn _ (by simp [List.getD, hi])), h.nodup⟩

theorem getD_memN {l : List Nat} {k : Nat} (h : k < l.length) : l.getD k 0 ∈ l := by simp [List.getD, h]
theorem getD_ne {l : List Nat} (hn : l.Nodup) {i j : Nat} (hi : i < l.length) (hj : j < l.length) (h : ¬ i = j) : ¬ l.getD i 0 = l.getD j 0 := by
  simp only [List.getD, List.getElem?_eq_getElem hi, List.getElem?_eq_getElem hj, Option.getD_some]
  intro e
  exact h ((List.getElem_inj hn).1 e)
theorem getD_snoc_lt {l : List Nat} {b i : Nat} (h : i < l.length) : (l ++ [b]).getD i 0 = l.getD i 0 := by
  simp [List.getD, List.getElem?_append_left h]
theorem getD_snoc_eq (l : List Nat) (b : Nat) : (l ++ [b]).getD l.length 0 = b := by
  simp [List.getD]

/-- The end of pushBack, the queue empty. -/
theorem push_end0 {w : World} {Q b : Nat} {p : Value} {q : Bool} (h : DL w Q []) (hb : Node w b p (.pointer none) q) :
    DL ((((w.setCell ⟨b, 6, none⟩ (.pointer none)).setCell ⟨Q, 1, none⟩ (ptr b)).setCell ⟨Q, 2, none⟩ (ptr b)).setCell ⟨b, 8, none⟩ (.bool true)) Q [b] := by
  have hne := h.q.ne hb
  have hne' : ¬ b = Q := fun e => hne e.symm
  refine ⟨?_, fun i hi => ?_, by simp⟩
  · exact ((((h.q.other _ hne).setHead _).setTail _).other _ hne)
  · obtain rfl : i = 0 := by simp at hi; exact hi
    exact ((((hb.setPrev _).other _ hne').other _ hne').setQ true)

theorem push_end {w : World} {Q b : Nat} {l : List Nat} {p : Value} {q : Bool} (h : DL w Q l) (hl : 0 < l.length) (hb : Node w b p (.pointer none) q) (hbl : b ∉ l) :
    DL ((((w.setCell ⟨b, 6, none⟩ (ptr (l.getD (l.length - 1) 0))).setCell ⟨l.getD (l.length - 1) 0, 7, none⟩ (ptr b)).setCell ⟨Q, 2, none⟩ (ptr b)).setCell ⟨b, 8, none⟩ (.bool true)) Q (l ++ [b]) := by
  have hne := h.q.ne hb
  have hne' : ¬ b = Q := fun e => hne e.symm
  have hmem := getD_memN (l := l) (k := l.length - 1) (by omega)
  have hbt : ¬ b = l.getD (l.length - 1) 0 := fun e => hbl (e ▸ hmem)
  have hlast := h.node (l.length - 1) (by omega)
  have hQt := h.q.ne hlast
  refine ⟨?_, fun i hi => ?_, ?_⟩
  · have e1 : hdv (l ++ [b]) = hdv l := by simp only [hdv, List.length_append, List.length_cons, List.length_nil, if_pos hl]; rw [if_pos (by omega), getD_snoc_lt hl]
    have e2 : tlv (l ++ [b]) = ptr b := by simp only [tlv, List.length_append, List.length_cons, List.length_nil]; rw [if_pos (by omega), show l.length + (0 + 1) - 1 = l.length by omega, getD_snoc_eq]
    rw [e1, e2]
    exact ((((h.q.other _ hne).other _ hQt).setTail _).other _ hne)
  · simp only [List.length_append, List.length_cons, List.length_nil] at hi
    by_cases e : i = l.length
    · subst e
      rw [getD_snoc_eq]
      have e1 : pv (l ++ [b]) l.length = ptr (l.getD (l.length - 1) 0) := by simp only [pv]; rw [if_neg (by omega), getD_snoc_lt (by omega)]
      have e2 : nx (l ++ [b]) l.length = .pointer none := by simp only [nx, List.length_append, List.length_cons, List.length_nil]; rw [if_neg (by omega)]
      rw [e1, e2]
      exact ((((hb.setPrev _).other _ hbt).other _ hne').setQ true)
    · have hil : i < l.length := by omega
      have hno := h.node i hil
      have hib : ¬ l.getD i 0 = b := fun e' => hbl (e' ▸ getD_memN hil)
      have hiQ : ¬ l.getD i 0 = Q := fun e' => (h.q.ne hno) e'.symm
      rw [getD_snoc_lt hil]
      have e1 : pv (l ++ [b]) i = pv l i := by
        simp only [pv]
        by_cases h0 : i = 0
        · rw [if_pos h0, if_pos h0]
        · rw [if_neg h0, if_neg h0, getD_snoc_lt (by omega)]
      by_cases hi2 : i = l.length - 1
      · subst hi2
        have e2 : nx (l ++ [b]) (l.length - 1) = ptr b := by simp only [nx, List.length_append, List.length_cons, List.length_nil]; rw [if_pos (by omega), show l.length - 1 + 1 = l.length by omega, getD_snoc_eq]
        rw [e1, e2]
        exact ((((hno.other _ hib).setNext _).other _ hiQ).other _ hib)
      · have e2 : nx (l ++ [b]) i = nx l i := by simp only [nx, List.length_append, List.length_cons, List.length_nil]; rw [if_pos (by omega), if_pos (by omega), getD_snoc_lt (by omega)]
        rw [e1, e2]
        exact ((((hno.other _ hib).other _ (getD_ne h.nodup hil (by omega) hi2)).other _ hiQ).other _ hib)
  · rw [List.nodup_append]
    exact ⟨h.nodup, by simp, fun a ha x hx => by simp at hx; subst hx; exact fun e => hbl (e ▸ ha)⟩

set_option maxHeartbeats 1000000 in
theorem push_any (Q b : Nat) (l : List Nat) (p : Value) (q : Bool) (w : World) (h : DL w Q l) (hb : Node w b p (.pointer none) q) (hbl : b ∉ l) :
    Calls Yba.prog 12 #[ptr Q, ptr b] w fun e w' => e = .returned (.tuple #[]) ∧ DL w' Q (l ++ [b]) ∧ Fr (fun x => x = Q ∨ x = b ∨ x ∈ l) w w' := by
  have hne := h.q.ne hb
  have hne' : ¬ b = Q := fun e => hne e.symm
  have k1 := h.q.c1
  have k2 := h.q.c2
  have k3 := h.q.free
  have b6 := hb.c6
  have b7 := hb.c7
  have b8 := hb.c8
  have bf := hb.free
  by_cases hl : l = []
  · subst hl
    have e2 : tlv [] = .pointer none := rfl
    rw [e2] at k2
    unfold ptr
    go_enter Yba.func12, Yba.ntmps12
    go_wp2
    go_end0
    exact ⟨rfl, push_end0 h hb, (((Fr.refl _ _).setCell (.inr (.inl rfl)) _).setCell (.inl rfl) _ |>.setCell (.inl rfl) _).setCell (.inr (.inl rfl)) _⟩
  · have hl0 : 0 < l.length := by cases l with | nil => exact absurd rfl hl | cons a l => simp
    have e2 : tlv l = ptr (l.getD (l.length - 1) 0) := by simp only [tlv, if_pos hl0]
    rw [e2] at k2
    have hlast := h.node (l.length - 1) (by omega)
    have hmem := getD_memN (l := l) (k := l.length - 1) (by omega)
    have hend := push_end h hl0 hb hbl
    have hbt : ¬ b = l.getD (l.length - 1) 0 := fun e => hbl (e ▸ hmem)
    have hQt := h.q.ne hlast
    have t7 := hlast.c7
    have tf := hlast.free
    generalize l.getD (l.length - 1) 0 = t at k2 hmem hend hbt hQt t7 tf
    have hbt' : ¬ t = b := fun e => hbt e.symm
    have hQt' : ¬ t = Q := fun e => hQt e.symm
    unfold ptr at k2 hend ⊢
    clear hlast e2
    go_enter Yba.func12, Yba.ntmps12
    go_wp2
    go_end0
    exact ⟨rfl, hend, ((((Fr.refl _ _).setCell (.inr (.inl rfl)) _).setCell (.inr (.inr hmem)) _).setCell (.inl rfl) _).setCell (.inr (.inl rfl)) _⟩
theorem getD_erase_lt {l : List Nat} {k j : Nat} (h : j < k) : (l.eraseIdx k).getD j 0 = l.getD j 0 := by
  simp [List.getD, List.getElem?_eraseIdx, h]
theorem getD_erase_ge {l : List Nat} {k j : Nat} (h : k ≤ j) : (l.eraseIdx k).getD j 0 = l.getD (j + 1) 0 := by
  simp [List.getD, List.getElem?_eraseIdx, Nat.not_lt.2 h]
theorem len_erase {l : List Nat} {k : Nat} (h : k < l.length) : (l.eraseIdx k).length = l.length - 1 := List.length_eraseIdx_of_lt h

/-- Node k taken out, its neighbours tied together. -/
theorem relink {w : World} {Q : Nat} {l : List Nat} {k : Nat} (hk : k < l.length) (hn : l.Nodup) (hq : Qh w Q (if k = 0 then nx l k else hdv l) (if k + 1 = l.length then pv l k else tlv l))
    (hnode : ∀ i, i < l.length → ¬ i = k → Node w (l.getD i 0) (if i = k + 1 then pv l k else pv l i) (if i + 1 = k then nx l k else nx l i) true) : DL w Q (l.eraseIdx k) := by
  have hlen := len_erase hk
  refine ⟨?_, fun j hj => ?_, hn.sublist (List.eraseIdx_sublist l k)⟩
  · have e1 : hdv (l.eraseIdx k) = if k = 0 then nx l k else hdv l := by
      by_cases h0 : k = 0
      · subst h0
        rw [if_pos rfl]
        simp only [hdv, nx, hlen]
        by_cases h1 : 1 < l.length
        · rw [if_pos (by omega), if_pos (by omega), getD_erase_ge (Nat.le_refl _)]
        · rw [if_neg (by omega), if_neg (by omega)]
      · rw [if_neg h0]
        simp only [hdv, hlen]
        rw [if_pos (by omega), if_pos (by omega), getD_erase_lt (by omega)]
    have e2 : tlv (l.eraseIdx k) = if k + 1 = l.length then pv l k else tlv l := by
      by_cases h0 : k + 1 = l.length
      · rw [if_pos h0]
        simp only [tlv, pv, hlen]
        by_cases h1 : k = 0
        · rw [if_neg (by omega), if_pos h1]
        · rw [if_pos (by omega), if_neg h1, getD_erase_lt (by omega), show l.length - 1 - 1 = k - 1 by omega]
      · rw [if_neg h0]
        simp only [tlv, hlen]
        rw [if_pos (by omega), if_pos (by omega), getD_erase_ge (by omega), show l.length - 1 - 1 + 1 = l.length - 1 by omega]
    rw [e1, e2]; exact hq
  · rw [hlen] at hj
    by_cases hjk : j < k
    · have h := hnode j (by omega) (by omega)
      rw [if_neg (by omega)] at h
      rw [getD_erase_lt hjk]
      have e1 : pv (l.eraseIdx k) j = pv l j := by
        simp only [pv]
        by_cases h0 : j = 0
        · rw [if_pos h0, if_pos h0]
        · rw [if_neg h0, if_neg h0, getD_erase_lt (by omega)]
      have e2 : nx (l.eraseIdx k) j = if j + 1 = k then nx l k else nx l j := by
        by_cases h1 : j + 1 = k
        · rw [if_pos h1]
          simp only [nx, hlen]
          by_cases h2 : k + 1 < l.length
          · rw [if_pos (by omega), if_pos h2, getD_erase_ge (by omega), show j + 1 + 1 = k + 1 by omega]
          · rw [if_neg (by omega), if_neg h2]
        · rw [if_neg h1]
          simp only [nx, hlen]
          rw [if_pos (by omega), if_pos (by omega), getD_erase_lt (by omega)]
      rw [e1, e2]; exact h
    · have h := hnode (j + 1) (by omega) (by omega)
      rw [if_neg (c := j + 1 + 1 = k) (by omega)] at h
      rw [getD_erase_ge (by omega)]
      have e1 : pv (l.eraseIdx k) j = if j + 1 = k + 1 then pv l k else pv l (j + 1) := by
        by_cases h1 : j = k
        · subst h1
          rw [if_pos rfl]
          simp only [pv]
          by_cases h0 : j = 0
          · rw [if_pos h0, if_pos h0]
          · rw [if_neg h0, if_neg h0, getD_erase_lt (by omega)]
        · rw [if_neg (by omega)]
          simp only [pv]
          rw [if_neg (by omega), if_neg (by omega), getD_erase_ge (by omega), show j - 1 + 1 = j + 1 - 1 by omega]
      have e2 : nx (l.eraseIdx k) j = nx l (j + 1) := by
        simp only [nx, hlen]
        by_cases h2 : j + 1 < l.length - 1
        · rw [if_pos h2, if_pos (by omega), getD_erase_ge (by omega)]
        · rw [if_neg h2, if_neg (by omega)]
      rw [e1, e2]; exact h

theorem DL.drew {w : World} {Q : Nat} {l : List Nat} (h : DL w Q l) : DL w.drew Q l := h.keep (Fr.refl (fun _ => False) _).drew (fun h => h) (fun _ _ h => h)
theorem Node.drew {w : World} {b : Nat} {p n : Value} {q : Bool} (h : Node w b p n q) : Node w.drew b p n q := h.keep (Fr.refl (fun _ => False) _).drew (fun h => h)

/-- The end of remove: W: the world with the neighbours tied together. -/
theorem remove_fin {W : World} {Q : Nat} {l : List Nat} {k : Nat} (hk : k < l.length) (hn : l.Nodup) (hq : Qh W Q (if k = 0 then nx l k else hdv l) (if k + 1 = l.length then pv l k else tlv l))
    (hnode : ∀ i, i < l.length → ¬ i = k → Node W (l.getD i 0) (if i = k + 1 then pv l k else pv l i) (if i + 1 = k then nx l k else nx l i) true) {b : Nat} (hbk : l.getD k 0 = b) {p n : Value} {q : Bool} (hb : Node W b p n q) :
    DL (((W.setCell ⟨b, 6, none⟩ (.pointer none)).setCell ⟨b, 7, none⟩ (.pointer none)).setCell ⟨b, 8, none⟩ (.bool false)) Q (l.eraseIdx k) ∧ Node (((W.setCell ⟨b, 6, none⟩ (.pointer none)).setCell ⟨b, 7, none⟩ (.pointer none)).setCell ⟨b, 8, none⟩ (.bool false)) b (.pointer none) (.pointer none) false := by
  have hne := hq.ne hb
  refine ⟨relink hk hn (((hq.other _ hne).other _ hne).other _ hne) (fun i hi hik => ?_), ((hb.setPrev _).setNext _).setQ false⟩
  have hib : ¬ l.getD i 0 = b := by rw [← hbk]; exact getD_ne hn hi hk hik
  exact (((hnode i hi hik).other _ hib).other _ hib).other _ hib

theorem pv_zero (l : List Nat) {k : Nat} (h : k = 0) : pv l k = .pointer none := by simp only [pv, if_pos h]
theorem pv_pos (l : List Nat) {k : Nat} (h : ¬ k = 0) : pv l k = ptr (l.getD (k - 1) 0) := by simp only [pv, if_neg h]
theorem nx_lt {l : List Nat} {k : Nat} (h : k + 1 < l.length) : nx l k = ptr (l.getD (k + 1) 0) := by simp only [nx, if_pos h]
theorem nx_end {l : List Nat} {k : Nat} (h : ¬ k + 1 < l.length) : nx l k = .pointer none := by simp only [nx, if_neg h]

set_option maxHeartbeats 2000000 in
theorem remove_any (Q b k : Nat) (l : List Nat) (w : World) (h : DL w Q l) (hk : k < l.length) (hbk : l.getD k 0 = b) :
    Calls Yba.prog 18 #[ptr Q, ptr b] w fun e w' => e = .returned (.tuple #[]) ∧ DL w' Q (l.eraseIdx k) ∧ Node w' b (.pointer none) (.pointer none) false ∧ Fr (fun x => x = Q ∨ x ∈ l) w w' := by
  have hb := h.node k hk
  rw [hbk] at hb
  have hmb : b ∈ l := hbk ▸ getD_memN hk
  have hne := h.q.ne hb
  have hne' : ¬ b = Q := fun e => hne e.symm
  have q1 := h.q.c1
  have q2 := h.q.c2
  have qf := h.q.free
  have b6 := hb.c6
  have b7 := hb.c7
  have b8 := hb.c8
  have bf := hb.free
  by_cases hk0 : k = 0
  · by_cases hkl : k + 1 < l.length
    · -- first, not last
      have hno := h.node (k + 1) hkl
      have hm2 := getD_memN hkl
      have hnb : ¬ l.getD (k + 1) 0 = b := by rw [← hbk]; exact getD_ne h.nodup hkl hk (by omega)
      have hnQ := h.q.ne hno
      have hfin := remove_fin (W := (w.setCell ⟨Q, 1, none⟩ (nx l k)).setCell ⟨l.getD (k + 1) 0, 6, none⟩ (pv l k)) hk h.nodup
        (by rw [if_pos hk0, if_neg (by omega)]; exact (h.q.setHead _).other _ hnQ)
        (fun i hi hik => by
          rw [if_neg (c := i + 1 = k) (by omega)]
          have hn0 := h.node i hi
          have hiQ : ¬ l.getD i 0 = Q := fun e => h.q.ne hn0 e.symm
          by_cases e : i = k + 1
          · subst e; rw [if_pos rfl]; exact (hn0.other _ hiQ).setPrev _
          · rw [if_neg e]; exact (hn0.other _ hiQ).other _ (getD_ne h.nodup hi hkl e))
        hbk ((hb.other _ hne').other _ (fun e => hnb e.symm))
      have n6 := hno.c6
      have nf := hno.free
      rw [nx_lt hkl] at hfin b7
      rw [pv_zero l hk0] at hfin b6
      generalize l.getD (k + 1) 0 = c at hm2 hnb hnQ hfin n6 nf b7
      have hnb' : ¬ b = c := fun e => hnb e.symm
      have hnQ' : ¬ c = Q := fun e => hnQ e.symm
      clear hno hb
      unfold ptr at hfin b7 ⊢
      go_enter Yba.func18, Yba.ntmps18
      go_wp2
      go_region
      all_goals go_wp2
      go_end0
      exact ⟨rfl, hfin.1.drew, hfin.2.drew, (((((Fr.refl _ _).setCell (.inl rfl) _).setCell (.inr hm2) _).setCell (.inr hmb) _).setCell (.inr hmb) _ |>.setCell (.inr hmb) _).drew⟩
    · -- first and last
      have hfin := remove_fin (W := (w.setCell ⟨Q, 1, none⟩ (nx l k)).setCell ⟨Q, 2, none⟩ (pv l k)) hk h.nodup
        (by rw [if_pos hk0, if_pos (by omega)]; exact (h.q.setHead _).setTail _)
        (fun i hi hik => by omega)
        hbk ((hb.other _ hne').other _ hne')
      rw [nx_end hkl] at hfin b7
      rw [pv_zero l hk0] at hfin b6
      clear hb
      unfold ptr
      go_enter Yba.func18, Yba.ntmps18
      go_wp2
      go_end0
      exact ⟨rfl, hfin.1, hfin.2, (((((Fr.refl _ _).setCell (.inl rfl) _).setCell (.inl rfl) _).setCell (.inr hmb) _).setCell (.inr hmb) _ |>.setCell (.inr hmb) _)⟩
  · have hpo := h.node (k - 1) (by omega)
    have hm3 := getD_memN (l := l) (k := k - 1) (by omega)
    have hpb : ¬ l.getD (k - 1) 0 = b := by rw [← hbk]; exact getD_ne h.nodup (by omega) hk (by omega)
    have hpQ := h.q.ne hpo
    have p7 := hpo.c7
    have pf := hpo.free
    by_cases hkl : k + 1 < l.length
    · -- in the middle
      have hno := h.node (k + 1) hkl
      have hm2 := getD_memN hkl
      have hnb : ¬ l.getD (k + 1) 0 = b := by rw [← hbk]; exact getD_ne h.nodup hkl hk (by omega)
      have hnp : ¬ l.getD (k + 1) 0 = l.getD (k - 1) 0 := getD_ne h.nodup hkl (by omega) (by omega)
      have hnQ := h.q.ne hno
      have hfin := remove_fin (W := (w.setCell ⟨l.getD (k - 1) 0, 7, none⟩ (nx l k)).setCell ⟨l.getD (k + 1) 0, 6, none⟩ (pv l k)) hk h.nodup
        (by rw [if_neg hk0, if_neg (by omega)]; exact (h.q.other _ hpQ).other _ hnQ)
        (fun i hi hik => by
          have hn0 := h.node i hi
          by_cases e : i = k + 1
          · subst e; rw [if_pos rfl, if_neg (by omega)]; exact (hn0.other _ hnp).setPrev _
          · rw [if_neg e]
            by_cases e2 : i + 1 = k
            · obtain rfl : i = k - 1 := by omega
              rw [if_pos e2]; exact (hn0.setNext _).other _ (fun e' => hnp e'.symm)
            · rw [if_neg e2]; exact (hn0.other _ (getD_ne h.nodup hi (by omega) (by omega))).other _ (getD_ne h.nodup hi hkl e))
        hbk ((hb.other _ (fun e => hpb e.symm)).other _ (fun e => hnb e.symm))
      have n6 := hno.c6
      have nf := hno.free
      rw [nx_lt hkl] at hfin b7
      rw [pv_pos l hk0] at hfin b6
      generalize l.getD (k + 1) 0 = c at hm2 hnb hnQ hnp hfin n6 nf b7
      generalize l.getD (k - 1) 0 = d at hm3 hpb hpQ hnp hfin p7 pf b6
      have hnb' : ¬ b = c := fun e => hnb e.symm
      have hnQ' : ¬ c = Q := fun e => hnQ e.symm
      have hpb' : ¬ b = d := fun e => hpb e.symm
      have hpQ' : ¬ d = Q := fun e => hpQ e.symm
      have hnp' : ¬ d = c := fun e => hnp e.symm
      clear hno hb hpo
      unfold ptr at hfin b7 b6 ⊢
      go_enter Yba.func18, Yba.ntmps18
      go_wp2
      go_region
      all_goals go_wp2
      go_region
      all_goals go_wp2
      go_end0
      exact ⟨rfl, hfin.1.drew.drew, hfin.2.drew.drew, (((((Fr.refl _ _).setCell (.inr hm3) _).setCell (.inr hm2) _).setCell (.inr hmb) _).setCell (.inr hmb) _ |>.setCell (.inr hmb) _).drew.drew⟩
    · -- last, not first
      have hfin := remove_fin (W := (w.setCell ⟨l.getD (k - 1) 0, 7, none⟩ (nx l k)).setCell ⟨Q, 2, none⟩ (pv l k)) hk h.nodup
        (by rw [if_neg hk0, if_pos (by omega)]; exact (h.q.other _ hpQ).setTail _)
        (fun i hi hik => by
          have hn0 := h.node i hi
          have hiQ : ¬ l.getD i 0 = Q := fun e => h.q.ne hn0 e.symm
          rw [if_neg (c := i = k + 1) (by omega)]
          by_cases e2 : i + 1 = k
          · obtain rfl : i = k - 1 := by omega
            rw [if_pos e2]; exact (hn0.setNext _).other _ hiQ
          · rw [if_neg e2]; exact (hn0.other _ (getD_ne h.nodup hi (by omega) (by omega))).other _ hiQ)
        hbk ((hb.other _ (fun e => hpb e.symm)).other _ hne')
      rw [nx_end hkl] at hfin b7
      rw [pv_pos l hk0] at hfin b6
      generalize l.getD (k - 1) 0 = d at hm3 hpb hpQ hfin p7 pf b6
      have hpb' : ¬ b = d := fun e => hpb e.symm
      have hpQ' : ¬ d = Q := fun e => hpQ e.symm
      clear hb hpo
      unfold ptr at hfin b6 ⊢
      go_enter Yba.func18, Yba.ntmps18
      go_wp2
      go_region
      all_goals go_wp2
      go_end0
      exact ⟨rfl, hfin.1.drew, hfin.2.drew, (((((Fr.refl _ _).setCell (.inr hm3) _).setCell (.inl rfl) _).setCell (.inr hmb) _).setCell (.inr hmb) _ |>.setCell (.inr hmb) _).drew⟩

end Go.Proofs.Ybulkdbuy
