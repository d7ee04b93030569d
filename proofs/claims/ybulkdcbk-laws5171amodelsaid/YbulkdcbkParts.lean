/-
  THE LAW's OWN MEMORY: the pool of terms, the rows of bindings, the obligations.
-/
import Derived.Test.YbulkdcbkSent
import Derived.Deep.OwnRows
namespace Go.Proofs.Ybulkdcbk
open Go.RowKit
set_option linter.unusedVariables false

theorem info25 : (Yba.prog.info? 25).map (fun i => (i.zero, i.size, i.bytes)) = some (some (.pointer none), 1, 8) := by kernel_rfl
theorem info3 : (Yba.prog.info? 3).map (fun i => (i.zero, i.size, i.bytes)) = some (some (.int .i64 0), 1, 8) := by kernel_rfl
theorem info40 : (Yba.prog.info? 40).map (fun i => (i.zero, i.size, i.bytes)) = some (some (.agg #[.int .u8 0, .pointer none, .pointer none, .int .i64 0, .int .i64 0, .pointer none, .pointer none, .int .i64 0, .bool false, .int .i64 0, .bool false, .bool false]), 12, 88) := by kernel_rfl
theorem mc7 : madeCells #[Value.pointer none] 7 = #[.pointer none, .pointer none, .pointer none, .pointer none, .pointer none, .pointer none, .pointer none] := by kernel_rfl
theorem mc4 : madeCells #[Value.pointer none] 4 = #[.pointer none, .pointer none, .pointer none, .pointer none] := by kernel_rfl
theorem mc4i : madeCells #[Value.int .i64 0] 4 = #[.int .i64 0, .int .i64 0, .int .i64 0, .int .i64 0] := by kernel_rfl
theorem make7 (w : World) : (Instr.makeSlice 24 (.int .i64 7) (.int .i64 7)).run Yba.prog w = .ok (.slice (some ⟨w.heap.size, 0, none⟩) 7 7) (w.alloc (.cells #[.pointer none, .pointer none, .pointer none, .pointer none, .pointer none, .pointer none, .pointer none] 25)) := by
  rw [← mc7]
  exact run_make_row' 24 25 _ 8 Yba.underlying24 info25 rfl .i64 .i64 7 (by omega) (by omega) w
theorem make4 (w : World) : (Instr.makeSlice 24 (.int .i64 4) (.int .i64 4)).run Yba.prog w = .ok (.slice (some ⟨w.heap.size, 0, none⟩) 4 4) (w.alloc (.cells #[.pointer none, .pointer none, .pointer none, .pointer none] 25)) := by
  rw [← mc4]
  exact run_make_row' 24 25 _ 8 Yba.underlying24 info25 rfl .i64 .i64 4 (by omega) (by omega) w
theorem make4i (w : World) : (Instr.makeSlice 32 (.int .i64 4) (.int .i64 4)).run Yba.prog w = .ok (.slice (some ⟨w.heap.size, 0, none⟩) 4 4) (w.alloc (.cells #[.int .i64 0, .int .i64 0, .int .i64 0, .int .i64 0] 3)) := by
  rw [← mc4i]
  exact run_make_row' 32 3 _ 8 Yba.underlying32 info3 rfl .i64 .i64 4 (by omega) (by omega) w

theorem Fr.transNew {P R : Nat → Prop} {a b c : World} (h : Fr P a b) (k : Fr R b c) (hr : ∀ i, i < a.heap.size → R i → P i) : Fr P a c :=
  ⟨k.os.trans h.os, k.tape.trans h.tape, k.output.trans h.output, Nat.le_trans h.size k.size, fun i hi hp => (k.block i (Nat.lt_of_lt_of_le hi h.size) (fun e => hp (hr i hi e))).trans (h.block i hi hp)⟩

/-- A term's cells. -/
def tc (k : Int) (s : ByteArray) (i : Int) : Obj :=
  .cells #[.int .u8 k, .int .i64 0, .bool false, .string s, .int .i64 i, .pointer none, .slice none 0 0, .pointer none, .int .i64 0, .bool false, .int .i64 0] 31
def poolObj (P : Nat) : Obj := .cells #[ptr (P + 1), ptr (P + 1 + 1), ptr (P + 1 + 1 + 1), ptr (P + 1 + 1 + 1 + 1), ptr (P + 1 + 1 + 1 + 1 + 1), ptr (P + 1 + 1 + 1 + 1 + 1 + 1), ptr (P + 1 + 1 + 1 + 1 + 1 + 1 + 1)] 25

/-- The world behind the pool, and the two rows. -/
def w10 (w : World) (sf se sc : ByteArray) : World :=
  (((((((((w.alloc (poolObj w.heap.size)).alloc (tc 0 se 0)).alloc (tc 0 se 1)).alloc (tc 0 se 2)).alloc (tc 0 se 3)).alloc (tc 3 sf 0)).alloc (tc 4 se 0)).alloc (tc 2 sc 0)).alloc (.cells #[.int .i64 0, .int .i64 0, .int .i64 0, .int .i64 0] 3)).alloc (.cells #[.pointer none, .pointer none, .pointer none, .pointer none] 25)

structure Terms (w : World) (P : Nat) : Prop where
  pool : ∀ i, i < 7 → w.cell? ⟨P, i, none⟩ = some (ptr (P + 1 + i))
  blk : ∀ i, i < 7 → ∃ cs, w.heap[P + 1 + i]? = some (.cells cs 31 (0, 0))
  var : ∀ i, i < 4 → w.cell? ⟨P + 1 + i, 0, none⟩ = some (.int .u8 0)
  tid : ∀ i, i < 4 → w.cell? ⟨P + 1 + i, 4, none⟩ = some (.int .i64 i)
  non : ∀ i, 4 ≤ i → i < 7 → ∃ k : Int, (k == 0) = false ∧ w.cell? ⟨P + 1 + i, 0, none⟩ = some (.int .u8 k)

theorem Terms.keep {w w' : World} {P : Nat} {Q : Nat → Prop} (h : Terms w P) (hf : Fr Q w w') (hq : ∀ b, b < P + 8 → ¬ Q b) : Terms w' P where
  pool := fun i hi => hf.cell (hq _ (by show P < P + 8; omega)) (h.pool i hi)
  blk := fun i hi => by obtain ⟨cs, hc⟩ := h.blk i hi; exact ⟨cs, hf.heap (hq _ (by omega)) hc⟩
  var := fun i hi => hf.cell (hq _ (by show P + 1 + i < P + 8; omega)) (h.var i hi)
  tid := fun i hi => hf.cell (hq _ (by show P + 1 + i < P + 8; omega)) (h.tid i hi)
  non := fun i h4 h7 => by obtain ⟨k, hk, hc⟩ := h.non i h4 h7; exact ⟨k, hk, hf.cell (hq _ (by show P + 1 + i < P + 8; omega)) hc⟩

theorem w10_at (w : World) (sf se sc : ByteArray) :
    (w10 w sf se sc).heap[w.heap.size]? = some (poolObj w.heap.size) ∧
    (w10 w sf se sc).heap[w.heap.size + 1 + 0]? = some (tc 0 se 0) ∧ (w10 w sf se sc).heap[w.heap.size + 1 + 1]? = some (tc 0 se 1) ∧ (w10 w sf se sc).heap[w.heap.size + 1 + 2]? = some (tc 0 se 2) ∧ (w10 w sf se sc).heap[w.heap.size + 1 + 3]? = some (tc 0 se 3) ∧
    (w10 w sf se sc).heap[w.heap.size + 1 + 4]? = some (tc 3 sf 0) ∧ (w10 w sf se sc).heap[w.heap.size + 1 + 5]? = some (tc 4 se 0) ∧ (w10 w sf se sc).heap[w.heap.size + 1 + 6]? = some (tc 2 sc 0) ∧
    (w10 w sf se sc).heap[w.heap.size + 8]? = some (.cells #[.int .i64 0, .int .i64 0, .int .i64 0, .int .i64 0] 3) ∧ (w10 w sf se sc).heap[w.heap.size + 9]? = some (.cells #[.pointer none, .pointer none, .pointer none, .pointer none] 25) ∧
    (w10 w sf se sc).heap.size = w.heap.size + 10 := by
  have hs : ∀ (v : World) (o : Obj), (v.alloc o).heap.size = v.heap.size + 1 := fun v o => by simp
  have ho : ∀ (v : World) (o : Obj) (k : Nat), k < v.heap.size → (v.alloc o).heap[k]? = v.heap[k]? := fun v o k h => heap_alloc_old v o h
  have hn : ∀ (v : World) (o : Obj) (k : Nat), k = v.heap.size → (v.alloc o).heap[k]? = some o := fun v o k h => by subst h; exact heap_alloc_new v o
  unfold w10
  refine ⟨?_, ?_, ?_, ?_, ?_, ?_, ?_, ?_, ?_, ?_, ?_⟩
  all_goals (try (simp only [hs]))
  all_goals (repeat (first | exact hn _ _ _ (by (try simp only [hs]) <;> omega) | (rw [ho _ _ _ (by (try simp only [hs]); omega)])))

theorem w10_fr (w : World) (sf se sc : ByteArray) : Fr (fun _ => False) w (w10 w sf se sc) :=
  ((((((((((Fr.refl _ _).alloc _).alloc _).alloc _).alloc _).alloc _).alloc _).alloc _).alloc _).alloc _).alloc _

theorem w10_terms (w : World) (sf se sc : ByteArray) : Terms (w10 w sf se sc) w.heap.size := by
  obtain ⟨hp, h0, h1, h2, h3, h4, h5, h6, -⟩ := w10_at w sf se sc
  refine ⟨fun i hi => ?_, fun i hi => ?_, fun i hi => ?_, fun i hi => ?_, fun i hi hj => ?_⟩
  · rw [cells_of_block hp]
    match i, hi with
    | 0, _ => rfl
    | 1, _ => rfl
    | 2, _ => rfl
    | 3, _ => rfl
    | 4, _ => rfl
    | 5, _ => rfl
    | 6, _ => rfl
  · match i, hi with
    | 0, _ => exact ⟨_, h0⟩
    | 1, _ => exact ⟨_, h1⟩
    | 2, _ => exact ⟨_, h2⟩
    | 3, _ => exact ⟨_, h3⟩
    | 4, _ => exact ⟨_, h4⟩
    | 5, _ => exact ⟨_, h5⟩
    | 6, _ => exact ⟨_, h6⟩
  · match i, hi with
    | 0, _ => exact cells_of_block h0 0
    | 1, _ => exact cells_of_block h1 0
    | 2, _ => exact cells_of_block h2 0
    | 3, _ => exact cells_of_block h3 0
  · match i, hi with
    | 0, _ => exact cells_of_block h0 4
    | 1, _ => exact cells_of_block h1 4
    | 2, _ => exact cells_of_block h2 4
    | 3, _ => exact cells_of_block h3 4
  · match i, hi, hj with
    | 4, _, _ => exact ⟨3, rfl, cells_of_block h4 0⟩
    | 5, _, _ => exact ⟨4, rfl, cells_of_block h5 0⟩
    | 6, _, _ => exact ⟨2, rfl, cells_of_block h6 0⟩

/-- The bindings by the bytes: 'z j' the byte, where j is below the length. -/
def Bf (len : Nat) (z : Nat → Int) (j : Nat) : Int :=
  if j < len ∧ ¬ z j % 8 = 0 then (j : Int) + 1 + (z j % 8 - 1) % (6 - (j : Int)) else -1

theorem bf_good (len : Nat) (z : Nat → Int) : Good (Bf len z) := by
  intro i hi
  unfold Bf
  split
  · right
    have h1 := Int.emod_nonneg (z i % 8 - 1) (show (6 - (i : Int)) ≠ 0 by omega)
    have h2 := Int.emod_lt_of_pos (z i % 8 - 1) (show 0 < (6 - (i : Int)) by omega)
    omega
  · exact .inl rfl

section
variable {w w' : World} {b b' i j : Nat} {v : Value} {f : Nat → Value}
theorem row_set (h : ∀ j, j < 4 → w.cell? ⟨b, j, none⟩ = some (f j)) (hi : i < 4) : ∀ j, j < 4 → (w.setCell ⟨b, i, none⟩ v).cell? ⟨b, j, none⟩ = some (if j = i then v else f j) := by
  intro j hj
  by_cases e : j = i
  · subst e; rw [if_pos rfl]; exact World.cell?_setCell_same _ _ _ (h j hj)
  · rw [if_neg e, World.cell?_setCell_other _ _ _ _ (by intro x; cases x; exact e rfl)]; exact h j hj
theorem row_other (h : ∀ j, j < 4 → w.cell? ⟨b, j, none⟩ = some (f j)) (hb : ¬ b = b') : ∀ j, j < 4 → (w.setCell ⟨b', i, none⟩ v).cell? ⟨b, j, none⟩ = some (f j) := by
  intro j hj
  rw [World.cell?_setCell_other _ _ _ _ (by intro x; cases x; exact hb rfl)]; exact h j hj
theorem rows_next {F : Nat → Value} {d : Value} (h : ∀ j, j < 4 → w.cell? ⟨b, j, none⟩ = some (if j < i then F j else d)) (hi : i < 4) (hv : v = F i) :
    ∀ j, j < 4 → (w.setCell ⟨b, i, none⟩ v).cell? ⟨b, j, none⟩ = some (if j < i + 1 then F j else d) := by
  intro j hj
  rw [row_set h hi j hj]
  by_cases e : j = i
  · subst e; rw [if_pos rfl, if_pos (by omega), hv]
  · rw [if_neg e]
    by_cases l : j < i
    · rw [if_pos l, if_pos (by omega)]
    · rw [if_neg l, if_neg (by omega)]
theorem rows_skip {F : Nat → Value} {d : Value} (h : ∀ j, j < 4 → w.cell? ⟨b, j, none⟩ = some (if j < i then F j else d)) (hv : d = F i) :
    ∀ j, j < 4 → w.cell? ⟨b, j, none⟩ = some (if j < i + 1 then F j else d) := by
  intro j hj
  rw [h j hj]
  by_cases e : j = i
  · subst e; rw [if_neg (Nat.lt_irrefl _), if_pos (by omega), hv]
  · by_cases l : j < i
    · rw [if_pos l, if_pos (by omega)]
    · rw [if_neg l, if_neg (by omega)]
/-- Two stores at one place. -/
theorem rows_twice {F : Nat → Value} {d u : Value} (h : ∀ j, j < 4 → w.cell? ⟨b, j, none⟩ = some (if j < i then F j else d)) (hi : i < 4) (hv : v = F i) :
    ∀ j, j < 4 → ((w.setCell ⟨b, i, none⟩ u).setCell ⟨b, i, none⟩ v).cell? ⟨b, j, none⟩ = some (if j < i + 1 then F j else d) := by
  intro j hj
  rw [row_set (row_set h hi) hi j hj]
  by_cases e : j = i
  · subst e; rw [if_pos rfl, if_pos (by omega), hv]
  · rw [if_neg e, if_neg e]
    by_cases l : j < i
    · rw [if_pos l, if_pos (by omega)]
    · rw [if_neg l, if_neg (by omega)]
end
theorem setCells_block {O : Nat} {t : TypeId} : ∀ (vs : List Value) (o : Nat) (w : World) (cur : Array Value), w.heap[O]? = some (.cells cur t (0, 0)) → o + vs.length ≤ cur.size →
    ∃ cur', (w.setCells O o vs).heap[O]? = some (.cells cur' t (0, 0)) ∧ cur'.size = cur.size ∧ (∀ k, k < o → cur'[k]? = cur[k]?) ∧ (∀ k, k < vs.length → cur'[o + k]? = vs[k]?) := by
  intro vs
  induction vs with
  | nil => intro o w cur h hl; exact ⟨cur, h, rfl, fun _ _ => rfl, fun k hk => by simp at hk⟩
  | cons v vs ih =>
    intro o w cur h hl
    simp only [List.length_cons] at hl
    obtain ⟨cur', h1, h2, h3, h4⟩ := ih (o + 1) (w.setCell ⟨O, o, none⟩ v) _ (heap_setCell_same w O o cur t v h) (by simp; omega)
    refine ⟨cur', h1, by rw [h2]; simp, fun k hk => ?_, fun k hk => ?_⟩
    · rw [h3 k (by omega), Array.getElem?_setIfInBounds_ne (by omega)]
    · match k with
      | 0 =>
        rw [Nat.add_zero, h3 o (by omega)]
        show (cur.setIfInBounds o v)[o]? = some v
        rw [Array.getElem?_setIfInBounds, if_pos rfl, if_pos (by omega)]
      | k + 1 =>
        have := h4 k (by simpa using hk)
        rw [show o + (k + 1) = o + 1 + k by omega, this]; simp

theorem setCells_fr {O : Nat} {P : Nat → Prop} (hO : P O) {a : World} : ∀ (vs : List Value) (o : Nat) (w : World), Fr P a w → Fr P a (w.setCells O o vs) := by
  intro vs
  induction vs with
  | nil => intro o w h; exact h
  | cons v vs ih => intro o w h; exact ih (o + 1) _ (h.setCell (p := ⟨O, o, none⟩) hO v)

theorem chain12 (w : World) (O b P : Nat) (k y : Int) (s : Bool) (t : Nat) :
    ((((((((((((w.setCell ⟨O, b, none⟩ (.int .u8 k)).setCell ⟨O, b + 1, none⟩ (.pointer none)).setCell ⟨O, b + 2, none⟩ (.pointer none)).setCell ⟨O, b + 3, none⟩ (.int .i64 0)).setCell ⟨O, b + 4, none⟩ (.int .i64 0)).setCell ⟨O, b + 5, none⟩ (.pointer (some ⟨P + 1 + t, 0, none⟩))).setCell
      ⟨O, b + 6, none⟩ (.pointer none)).setCell ⟨O, b + 7, none⟩ (.int .i64 y)).setCell ⟨O, b + 8, none⟩ (.bool s)).setCell ⟨O, b + 9, none⟩ (.int .i64 0)).setCell ⟨O, b + 10, none⟩ (.bool false)).setCell ⟨O, b + 11, none⟩ (.bool false))
      = w.setCells O b (ocell P k y s t) := rfl

/-- The solver of the law's making. -/
def sobj (V O len : Nat) : Obj :=
  .cells #[.pointer none, .pointer none, .slice none 0 0, .slice (some ⟨V, 0, none⟩) 4 4, .slice none 0 0, .slice none 0 0, .slice none 0 0, .slice (some ⟨O, 0, none⟩) len len, .slice none 0 0, .slice none 0 0, .slice none 0 0, .slice none 0 0, .slice none 0 0,
    .slice none 0 0, .map none, .slice none 0 0, .int .i64 0, .bool false, .bool false, .bool false, .slice none 0 0, .map none, .map none, .bool false, .bool false, .int .i64 0, .int .i64 0] 59

theorem env_of {w : World} {P V O len : Nat} {B : Nat → Int} (T : Terms w P) (g : Good B) (hv : ∀ j, j < 4 → w.cell? ⟨V, j, none⟩ = some (vv B P j)) : Env (w.alloc (sobj V O len)) P w.heap.size V B := by
  have hf : Fr (fun _ => False) w (w.alloc (sobj V O len)) := (Fr.refl _ _).alloc _
  have T' := T.keep hf (fun _ _ h => h)
  exact ⟨g, T'.blk, T'.var, T'.tid, T'.non, cells_of_block (heap_alloc_new w (sobj V O len)) 3, fun j hj => hf.cell (fun h => h) (hv j hj)⟩

theorem neq25 (w : World) (a : Addr) : (binOp .neq 25 (.pointer (some a)) (.pointer (some a))).run Yba.prog w = .ok (.bool false) w := by
  obtain ⟨i, hi, hs⟩ := Option.map_eq_some_iff.1 info31
  have h : ∀ d : Nat, (Op.equalIn (d + 1) 25 (.pointer (some a)) (.pointer (some a))).run Yba.prog w = .ok true w := fun d => by
    simp [Op.equalIn, run_underlying Yba.underlying25, sizeOf, typeInfo, hi, run_sameAddr_same]
  simp only [binOp]
  simp [Op.equal, Op.maxDepth, h 9999]

theorem bf_none {len : Nat} {z : Nat → Int} {i : Nat} (h : ¬ i < len) : Bf len z i = -1 := by unfold Bf; rw [if_neg (fun e => h e.1)]
theorem bf_zero {len : Nat} {z : Nat → Int} {i : Nat} (h : z i % 8 = 0) : Bf len z i = -1 := by unfold Bf; rw [if_neg (fun e => e.2 h)]
theorem bf_some {len : Nat} {z : Nat → Int} {i : Nat} (hl : i < len) (h : ¬ z i % 8 = 0) : Bf len z i = (i : Int) + 1 + (z i % 8 - 1) % (6 - (i : Int)) := by unfold Bf; rw [if_pos ⟨hl, h⟩]
end Go.Proofs.Ybulkdcbk
