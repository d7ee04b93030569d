/-
  THE WALK of LawS5154BOps.
-/
import Derived.Test.YbulkdbsgFmtNew
import Derived.Deep.QuietTactic
import Derived.BigQuiet
namespace Go.Proofs.YbulkdbsgFmt
open Go.RowKit
set_option linter.unusedVariables false

/-- Block b begins with n cells, none frozen; cell i holds f i. -/
structure Rw (w : World) (b n : Nat) (f : Nat → Value) : Prop where
  cell : ∀ i, i < n → w.cell? ⟨b, i, none⟩ = some (f i)
  free : ∀ i, w.frozen? ⟨b, i, none⟩ = false
  lt : b < w.heap.size

theorem Rw.set {w : World} {b n : Nat} {f : Nat → Value} (h : Rw w b n f) {i : Nat} (hi : i < n) (v : Value) : Rw (w.setCell ⟨b, i, none⟩ v) b n (upd f i v) := by
  refine ⟨fun j hj => ?_, fun j => ?_, by have := h.lt; simpa [World.setCell] using this⟩
  · unfold upd
    by_cases e : j = i
    · subst e
      rw [if_pos rfl]; exact World.cell?_setCell_same _ _ _ (h.cell j hj)
    · rw [if_neg e]
      exact (World.cell?_setCell_other _ _ _ _ (fun e' => e (congrArg Addr.off e').symm)).trans (h.cell j hj)
  · simpa using h.free j

theorem Rw.keep {w w' : World} {b n : Nat} {f : Nat → Value} (h : Rw w b n f) {P : Nat → Prop} (hf : Fr P w w') (hs : ¬ P b) : Rw w' b n f :=
  ⟨fun i hi => hf.cell hs (h.cell i hi), fun i => (hf.frozen hs h.lt).trans (h.free i), Nat.lt_of_lt_of_le h.lt hf.size⟩

def tab : List Int := [61, 60, 62, 33, 38, 124, 58, 97, 233, 8364, 128512, 65533]

/-- The table's entry that a byte picks. -/
def pickT (z : Int) : Int := tab.getD (z % 12).toNat 0

theorem pick_mem {z : Int} (h : 0 ≤ z) : pickT z ∈ tab := by
  have h2 : (z % 12).toNat < 12 := by omega
  unfold pickT
  rw [List.getD_eq_getElem?_getD, List.getElem?_eq_getElem (by simpa [tab] using h2)]
  simp

def encS (a b : Int) : ByteArray := ByteArray.empty ++ Utf8.encode a ++ Utf8.encode b

def chk (a b : Int) : Bool :=
  match (Conv.runesFrom (encS a b) (encS a b).size 0 #[]).toList with
  | [.int .i32 x, .int .i32 y] => x == a && y == b
  | _ => false

theorem chk_all : (tab.all fun a => tab.all fun b => chk a b) = true := by kernel_rfl

theorem runes_enc {a b : Int} (ha : a ∈ tab) (hb : b ∈ tab) : Conv.runesFrom (encS a b) (encS a b).size 0 #[] = #[.int .i32 a, .int .i32 b] := by
  have h := List.all_eq_true.1 (List.all_eq_true.1 chk_all a ha) b hb
  unfold chk at h
  generalize Conv.runesFrom (encS a b) (encS a b).size 0 #[] = r at h ⊢
  obtain ⟨l⟩ := r
  simp only at h
  split at h
  · simp at h
    obtain ⟨rfl, rfl⟩ := h
    rfl
  · cases h

/-- 'string([]rune{a, b})'. -/
theorem wpList_string {ops : Array Oper} {rest : List Oper} {o : Oper} {a : Act} {Q : Exit → Act → World → Prop} {w : World} (hg : o.guard = none) (x : Operand) (hop : o.op = Op.convert 23 9 x) (g c : Nat) (hx : a.eval x = .slice (some ⟨g, 0, none⟩) 2 c)
    (A B : Int) (h0 : w.cell? ⟨g, 0, none⟩ = some (.int .i32 A)) (h1 : w.cell? ⟨g, 1, none⟩ = some (.int .i32 B))
    (hK : wpList Ybaf.prog ops Q rest (a.put o.dst (.string (encS A B))) w) : wpList Ybaf.prog ops Q (o :: rest) a w := by
  refine wpList_plain hg fun K hK' => ?_
  have hrun : (convert 23 9 (.slice (some ⟨g, 0, none⟩) 2 c)).run Ybaf.prog w = .ok (.string (encS A B)) w := by
    simp [convert, run_underlying Ybaf.underlying23, run_underlying Ybaf.underlying9, run_underlying Ybaf.underlying21, Conv.runesToString, loadCells, loadCellsFrom, load, Sem.run, Addr.add, h0, h1, encS]
  unfold Oper.wp
  simp only [execOp, hop, hx, Sem.run_bind, hrun, Result.andThen_ok, Sem.run_pure, Oper.upon]
  exact hK' _ _ hK

theorem part21a (w : World) (x y : Int) : (part 21 #[.int .i32 x, .int .i32 y] 0).run Ybaf.prog w = .ok (.int .i32 x) w := by kernel_rfl
theorem part21b (w : World) (x y : Int) : (part 21 #[.int .i32 x, .int .i32 y] 1).run Ybaf.prog w = .ok (.int .i32 y) w := by kernel_rfl
theorem size21 (w : World) : (sizeOf 21).run Ybaf.prog w = .ok 1 w := by kernel_rfl
theorem eq29g (d : Nat) (w : World) (x y : Int) : (Op.equalIn (d + 1 + 1) 29 (.agg #[.int .i32 x, .int .i32 y]) (.agg #[.int .i32 x, .int .i32 y])).run Ybaf.prog w = .ok true w := by
  have h1 : ∀ w a, (Op.equalIn (d + 1) 21 (.int .i32 a) (.int .i32 a)).run Ybaf.prog w = .ok true w := fun w a => by
    rw [run_equalIn_int w d 21 .i32 .i32 a a Ybaf.underlying21]; simp
  generalize hd : d + 1 = e at h1
  unfold Op.equalIn
  simp only [Sem.run_bind, run_underlying Ybaf.underlying29, Result.andThen_ok, size21]
  simp [Std.Legacy.Range.forIn_eq_forIn_range', List.range', part21a, part21b, h1]
theorem eq29 (w : World) (x y : Int) : (Op.equalIn 10000 29 (.agg #[.int .i32 x, .int .i32 y]) (.agg #[.int .i32 x, .int .i32 y])).run Ybaf.prog w = .ok true w := eq29g 9998 w x y

theorem neq46 (w : World) : (binOp .neq 46 .nilFunc .nilFunc).run Ybaf.prog w = .ok (.bool false) w := by kernel_rfl
theorem eql46 (w : World) (f : Fn) (a b : Array Value) : (binOp .eql 46 (.func f a b) .nilFunc).run Ybaf.prog w = .ok (.bool false) w := by kernel_rfl
theorem eql43 (w : World) (f : Fn) (a b : Array Value) : (binOp .eql 43 (.func f a b) .nilFunc).run Ybaf.prog w = .ok (.bool false) w := by kernel_rfl
theorem neq52 (w : World) : (binOp .neq 52 .nilIface .nilIface).run Ybaf.prog w = .ok (.bool false) w := by kernel_rfl
theorem info30 : (Ybaf.prog.info? 30).map (fun i => i.comparable) = some true := by kernel_rfl
theorem size32 (w : World) : (sizeOf 32).run Ybaf.prog w = .ok 1 w := by kernel_rfl
theorem eq30g (d : Nat) (w : World) (a : Addr) : (Op.equalIn (d + 1) 30 (.pointer (some a)) (.pointer (some a))).run Ybaf.prog w = .ok true w := by
  unfold Op.equalIn
  simp [Sem.run_bind, run_underlying Ybaf.underlying30, Result.andThen_ok, sameAddr]
theorem eq36g (d : Nat) (w : World) (a : Addr) : (Op.equalIn (d + 1 + 1) 36 (.iface 30 (.pointer (some a))) (.iface 30 (.pointer (some a)))).run Ybaf.prog w = .ok true w := by
  obtain ⟨i, hi, hc⟩ := Option.map_eq_some_iff.1 info30
  have h1 := fun w => eq30g d w a
  generalize d + 1 = e at h1
  unfold Op.equalIn
  simp [Sem.run_bind, run_underlying Ybaf.underlying36, Result.andThen_ok, typeInfo, hi, hc, h1]
theorem neq36 (w : World) (a : Addr) : (binOp .neq 36 (.iface 30 (.pointer (some a))) (.iface 30 (.pointer (some a)))).run Ybaf.prog w = .ok (.bool false) w := by
  simp only [binOp]
  have h : (Op.equal 36 (.iface 30 (.pointer (some a))) (.iface 30 (.pointer (some a)))).run Ybaf.prog w = .ok true w := eq36g 9998 w a
  simp [h]

/-- WHAT THE WALK IS TOLD OF THE SLICE OF OPERATORS THAT CAME IN. -/
structure IsOps (w : World) (a : Option Addr) (len : Nat) (b off : Nat) (zA zB : Nat → Int) : Prop where
  addr : 0 < len → a = some ⟨b, off, none⟩
  fst : ∀ i, i < len → w.cell? ⟨b, off + i * 2, none⟩ = some (.int .u8 (zA i))
  snd : ∀ i, i < len → w.cell? ⟨b, off + i * 2 + 1, none⟩ = some (.int .u8 (zB i))
  bA : ∀ i, i < len → 0 ≤ zA i ∧ zA i ≤ 255
  bB : ∀ i, i < len → 0 ≤ zB i ∧ zB i ≤ 255

theorem Ybaf.info9 : (Ybaf.prog.info? 9).map (fun i => (i.zero, i.size, i.bytes)) = some (some (.string ByteArray.empty), 1, 16) := by kernel_rfl

theorem alloc_size (w : World) (o : Obj) : (w.alloc o).heap.size = w.heap.size + 1 := by simp

theorem news_at (w : World) (o1 : Obj) (i : Nat) {cs : Array Value} {t : TypeId} : ((w.alloc o1).alloc (.cells cs t)).cell? ⟨w.heap.size + 1, i, none⟩ = cs[i]? := by
  have h := cells_of_block (heap_alloc_new (w.alloc o1) (.cells cs t)) i
  rwa [alloc_size] at h

theorem rw_of_owns {w : World} {base : Nat} {e : TypeId} {size g n cap : Nat} {xs : List Value} (h : w.ownsRow base e size (.slice (some ⟨g, 0, none⟩) n cap) n xs) : Rw w g (n * size) (fun i => xs.getD i undef) := by
  have hl := h.1
  refine ⟨fun i hi => ?_, fun i => h.frozenAt i, (h.lt g rfl).2⟩
  rw [h.cellAt i hi]
  simp [List.getD, show i < xs.length by omega]

theorem tab_made (w : World) : Rw (w.alloc (.cells #[.int .i32 61, .int .i32 60, .int .i32 62, .int .i32 33, .int .i32 38, .int .i32 124, .int .i32 58, .int .i32 97, .int .i32 233, .int .i32 8364, .int .i32 128512, .int .i32 65533] 21)) w.heap.size 12 (fun i => .int .i32 (tab.getD i 0)) := by
  have hh := heap_alloc_new w (.cells #[.int .i32 61, .int .i32 60, .int .i32 62, .int .i32 33, .int .i32 38, .int .i32 124, .int .i32 58, .int .i32 97, .int .i32 233, .int .i32 8364, .int .i32 128512, .int .i32 65533] 21)
  refine ⟨fun i hi => ?_, fun i => free_of_block hh i, by simp⟩
  rw [cells_of_block hh i]
  match i, hi with
  | 0, _ | 1, _ | 2, _ | 3, _ | 4, _ | 5, _ | 6, _ | 7, _ | 8, _ | 9, _ | 10, _ | 11, _ => rfl
  | i + 12, h => omega

set_option maxRecDepth 100000 in
theorem ops_long (a0 : Option Addr) (len cap : Nat) (path : ByteArray) (w : World) (h : 1024 < len) :
    Calls Ybaf.prog 3 #[.slice a0 len cap, .string path] w fun e w' => e = .returned (.bool true) ∧ Below w.heap.size w w' := by
  go_enter Ybaf.func3, Ybaf.ntmps3
  go_wp2
  go_ret
  exact ⟨rfl, Below.refl _ _⟩

theorem owns_view2 {w : World} {base : Nat} {e : TypeId} {v : Value} {n : Nat} {xs : List Value} (ho : w.ownsRow base e 2 v n xs) :
    ∃ ao cap g, v = .slice ao n cap ∧ (0 < n → ao = some ⟨g, 0, none⟩) ∧ (∀ i, i < n * 2 → w.cell? ⟨g, i, none⟩ = xs[i]?) := by
  rcases ho.2 with ⟨rfl, rfl⟩ | ⟨g, cap, cur, rfl, hbb, hgg, hnc, hcm, hcs, htake⟩
  · exact ⟨none, 0, 0, rfl, fun h => by omega, fun i hi => by omega⟩
  · exact ⟨some ⟨g, 0, none⟩, cap, g, rfl, fun _ => rfl, fun i hi => ho.cellAt i hi⟩

theorem made_cells {w : World} {S : Nat} {F : Nat → Value} {r fv ov : Value} {path : ByteArray} (hc : Cf w S F) (hm : Made F S r path fv ov) :
    w.cell? ⟨S, 1051, none⟩ = some ov ∧ w.cell? ⟨S, 1044, none⟩ = some (.string path) ∧ w.cell? ⟨S, 1041, none⟩ = some (.int .u64 4) ∧ w.cell? ⟨S, 1042, none⟩ = some (.int .u64 4294976000) ∧ w.cell? ⟨S, 1048, none⟩ = some r ∧ w.cell? ⟨S, 1052, none⟩ = some (.pointer none) ∧
    w.cell? ⟨S, 1049, none⟩ = some .nilIface ∧ w.cell? ⟨S, 1050, none⟩ = some (.slice none 0 0) ∧ w.cell? ⟨S, 1043, none⟩ = some fv ∧ w.cell? ⟨S, 1039, none⟩ = some (.func (.func 10) #[.pointer (some ⟨S, 0, none⟩)] #[]) := by
  rw [hc.cell 1051 (by decide), hc.cell 1044 (by decide), hc.cell 1041 (by decide), hc.cell 1042 (by decide), hc.cell 1048 (by decide), hc.cell 1052 (by decide), hc.cell 1049 (by decide), hc.cell 1050 (by decide), hc.cell 1043 (by decide), hc.cell 1039 (by decide),
    hm.ops, hm.path, hm.mode, hm.white, hm.rd, hm.err, hm.serr, hm.head, hm.word, hm.hook]
  exact ⟨rfl, rfl, rfl, rfl, rfl, rfl, rfl, rfl, rfl, rfl⟩

theorem pcs_at (A B : Nat → Int) {k j : Nat} (h : j < k) : (pcs A B k)[j * 2]? = some (.int .i32 (A j)) ∧ (pcs A B k)[j * 2 + 1]? = some (.int .i32 (B j)) := by
  induction k with
  | zero => omega
  | succ k ih =>
    have hl : (pcs A B k).length = k * 2 := by
      clear ih h
      induction k with
      | zero => rfl
      | succ k ih => rw [pcs_succ, List.length_append, ih]; simp; omega
    rw [pcs_succ]
    by_cases e : j < k
    · rw [List.getElem?_append_left (by omega), List.getElem?_append_left (by omega)]; exact ih e
    · obtain rfl : j = k := by omega
      rw [List.getElem?_append_right (by omega), List.getElem?_append_right (by omega), hl]
      have e1 : j * 2 - j * 2 = 0 := by omega
      have e2 : j * 2 + 1 - j * 2 = 1 := by omega
      rw [e1, e2]
      exact ⟨rfl, rfl⟩

theorem upd_same (f : Nat → Value) (i : Nat) (v : Value) : upd f i v i = v := by simp [upd]
theorem upd_ne (f : Nat → Value) {i j : Nat} (v : Value) (h : ¬ j = i) : upd f i v j = f j := by simp [upd, h]

theorem ops_step {w wr : World} {Bw len k : Nat} {fs fw : Nat → Value} {zA zB : Nat → Int} {xa xb : Int} {o1 o2 : Obj} (hkl : k < len) (hxa : zA k = xa) (hxb : zB k = xb)
    (rt : Rw wr w.heap.size 12 (fun i => .int .i32 (tab.getD i 0))) (rs : Rw wr (w.heap.size + 1) len fs) (rwd : Rw wr Bw (len * 2) fw)
    (hfs : ∀ i, i < k → fs i = .string (encS (pickT (zA i)) (pickT (zB i)))) (hfw : ∀ i, i < k → fw (i * 2) = .int .i32 (pickT (zA i)) ∧ fw (i * 2 + 1) = .int .i32 (pickT (zB i)))
    (hbel : Below w.heap.size w wr) (hlt1 : w.heap.size + 1 < Bw) :
    ∃ (k' : Nat) (fs' fw' : Nat → Value), k' ≤ len ∧ Value.int .i64 ((k : Int) + 1) = .int .i64 (k' : Int) ∧
      Rw (((((wr.alloc o1).alloc o2).setCell ⟨w.heap.size + 1, k, none⟩ (.string (encS (pickT xa) (pickT xb)))).setCell ⟨Bw, k * 2, none⟩ (.int .i32 (pickT xa))).setCell ⟨Bw, k * 2 + 1, none⟩ (.int .i32 (pickT xb))) w.heap.size 12 (fun i => .int .i32 (tab.getD i 0)) ∧
      Rw (((((wr.alloc o1).alloc o2).setCell ⟨w.heap.size + 1, k, none⟩ (.string (encS (pickT xa) (pickT xb)))).setCell ⟨Bw, k * 2, none⟩ (.int .i32 (pickT xa))).setCell ⟨Bw, k * 2 + 1, none⟩ (.int .i32 (pickT xb))) (w.heap.size + 1) len fs' ∧
      Rw (((((wr.alloc o1).alloc o2).setCell ⟨w.heap.size + 1, k, none⟩ (.string (encS (pickT xa) (pickT xb)))).setCell ⟨Bw, k * 2, none⟩ (.int .i32 (pickT xa))).setCell ⟨Bw, k * 2 + 1, none⟩ (.int .i32 (pickT xb))) Bw (len * 2) fw' ∧
      (∀ i, i < k' → fs' i = .string (encS (pickT (zA i)) (pickT (zB i)))) ∧ (∀ i, i < k' → fw' (i * 2) = .int .i32 (pickT (zA i)) ∧ fw' (i * 2 + 1) = .int .i32 (pickT (zB i))) ∧
      Below w.heap.size w (((((wr.alloc o1).alloc o2).setCell ⟨w.heap.size + 1, k, none⟩ (.string (encS (pickT xa) (pickT xb)))).setCell ⟨Bw, k * 2, none⟩ (.int .i32 (pickT xa))).setCell ⟨Bw, k * 2 + 1, none⟩ (.int .i32 (pickT xb))) := by
  have ff : Fr (fun _ => False) wr ((wr.alloc o1).alloc o2) := ((Fr.refl _ _).alloc _).alloc _
  have rt2 := rt.keep ff (fun h => h)
  have rs2 := rs.keep ff (fun h => h)
  have rw2 := rwd.keep ff (fun h => h)
  have hb2 := (hbel.alloc hbel.size o1).alloc (by have := hbel.size; rw [alloc_size]; omega) o2
  generalize (wr.alloc o1).alloc o2 = W at rt2 rs2 rw2 hb2 ⊢
  have f1 : Fr (fun b => b = w.heap.size + 1) W (W.setCell ⟨w.heap.size + 1, k, none⟩ (.string (encS (pickT xa) (pickT xb)))) := Fr.setCell (P := fun b => b = w.heap.size + 1) (Fr.refl _ _) rfl _
  have f2 : Fr (fun b => b = Bw) (W.setCell ⟨w.heap.size + 1, k, none⟩ (.string (encS (pickT xa) (pickT xb)))) (((W.setCell ⟨w.heap.size + 1, k, none⟩ (.string (encS (pickT xa) (pickT xb)))).setCell ⟨Bw, k * 2, none⟩ (.int .i32 (pickT xa))).setCell ⟨Bw, k * 2 + 1, none⟩ (.int .i32 (pickT xb))) := Fr.setCell (P := fun b => b = Bw) (Fr.setCell (P := fun b => b = Bw) (Fr.refl _ _) rfl _) rfl _
  refine ⟨k + 1, upd fs k (.string (encS (pickT xa) (pickT xb))), upd (upd fw (k * 2) (.int .i32 (pickT xa))) (k * 2 + 1) (.int .i32 (pickT xb)), by omega, by go_num, ?_, ?_, ?_, ?_, ?_, ?_⟩
  · exact (rt2.keep f1 (by omega)).keep f2 (by omega)
  · exact (rs2.set hkl _).keep f2 (by omega)
  · exact ((rw2.keep f1 (by omega)).set (by omega) _).set (by omega) _
  · intro i hi
    by_cases e : i = k
    · subst e; rw [upd_same, hxa, hxb]
    · rw [upd_ne _ _ e]; exact hfs i (by omega)
  · intro i hi
    by_cases e : i = k
    · subst e; rw [upd_same, upd_ne _ _ (by omega), upd_same, hxa, hxb]; exact ⟨rfl, rfl⟩
    · rw [upd_ne _ _ (by omega), upd_ne _ _ (by omega), upd_ne _ _ (by omega), upd_ne _ _ (by omega)]; exact hfw i (by omega)
  · exact ((hb2.setCell (p := ⟨w.heap.size + 1, k, none⟩) (Nat.le_succ _) _).setCell (p := ⟨Bw, k * 2, none⟩) (by show w.heap.size ≤ Bw; omega) _).setCell (p := ⟨Bw, k * 2 + 1, none⟩) (by show w.heap.size ≤ Bw; omega) _

attribute [local go_sem] eq29
attribute [local go_sem] neq36
attribute [local go_sem] neq46
attribute [local go_sem] eql43
attribute [local go_sem] neq52

set_option maxRecDepth 100000 in
set_option maxHeartbeats 2000000 in
theorem ops_walk (a0 : Option Addr) (len cap b off : Nat) (zA zB : Nat → Int) (path : ByteArray) (w : World) (h : IsOps w a0 len b off zA zB) (hlen : len ≤ 1024) :
    Calls Ybaf.prog 3 #[.slice a0 len cap, .string path] w fun e w' => e = .returned (.bool true) ∧ Below w.heap.size w w' := by
  obtain ⟨i29, hi29, hy0, hy1, hy2⟩ := info_parts Ybaf.info29
  obtain ⟨i9, hi9, hx0, hx1, hx2⟩ := info_parts Ybaf.info9
  go_enter Ybaf.func3, Ybaf.ntmps3
  go_wp2_with (first
    | go_in
    | (at_make; refine wpList_make_full _ rfl _ _ 25 rfl 0 9 i9 _ 1 Ybaf.underlying25 hi9 hx0 hx1 .i64 .i64 _ _ len rfl rfl (by omega) (by omega) (by rw [hx2]; omega) (by unfold maxLen; omega) (by simp) ?_; intro W1 hown1 hgrow1)
    | (at_make; refine wpList_make_full _ rfl _ _ 26 rfl 0 29 i29 _ 2 Ybaf.underlying26 hi29 hy0 hy1 .i64 .i64 _ _ len rfl rfl (by omega) (by omega) (by rw [hy2]; omega) (by unfold maxLen; omega) (by simp) ?_; intro W2 hown2 hgrow2))
  have r0 : Rw (w.alloc (.cells #[.int .i32 61, .int .i32 60, .int .i32 62, .int .i32 33, .int .i32 38, .int .i32 124, .int .i32 58, .int .i32 97, .int .i32 233, .int .i32 8364, .int .i32 128512, .int .i32 65533] 21)) w.heap.size 12 (fun i => .int .i32 (tab.getD i 0)) := tab_made w
  have s1 := hgrow1.size
  simp at s1
  have r1 := (r0.keep ((Fr.refl (fun _ => False) _).grown hgrow1 (by simp)) (fun h => h)).keep ((Fr.refl (fun _ => False) _).grown hgrow2 (by simp)) (fun h => h)
  obtain ⟨fs0, r2⟩ : ∃ fs, Rw W2 (w.heap.size + 1) len fs := ⟨_, by have := (rw_of_owns hown1).keep ((Fr.refl (fun _ => False) _).grown hgrow2 (by simp)) (fun h => h); rw [Nat.mul_one, alloc_size] at this; exact this⟩
  obtain ⟨fw0, r3⟩ : ∃ fw, Rw W2 W1.heap.size (len * 2) fw := ⟨_, rw_of_owns hown2⟩
  have hbel2 : Below w.heap.size w W2 := (((Below.refl _ _).alloc (Nat.le_refl _) _).grown hgrow1 (by simp) (by simp)).grown hgrow2 (by omega) (by simp)
  have hlt1 : w.heap.size + 1 < W1.heap.size := by have := (hown1.lt _ rfl).2; simpa using this
  clear hown1 hown2 hgrow1 hgrow2
  generalize W1.heap.size = Bw at *
  go_loopw [30] (fun t wr => ∃ (k : Nat) (fs fw : Nat → Value), k ≤ len ∧ t = .int .i64 k ∧ Rw wr w.heap.size 12 (fun i => .int .i32 (tab.getD i 0)) ∧ Rw wr (w.heap.size + 1) len fs ∧ Rw wr Bw (len * 2) fw ∧
      (∀ i, i < k → fs i = .string (encS (pickT (zA i)) (pickT (zB i)))) ∧ (∀ i, i < k → fw (i * 2) = .int .i32 (pickT (zA i)) ∧ fw (i * 2 + 1) = .int .i32 (pickT (zB i))) ∧ Below w.heap.size w wr) (fun i _ => len - (intOf i).toNat)
  case atStart => exact ⟨0, fs0, fw0, Nat.zero_le _, rfl, r1, r2, r3, fun i h => by omega, fun i h => by omega, hbel2⟩
  case round =>
    obtain ⟨k, fs, fw, hk, rfl, rt, rs, rwd, hfs, hfw, hbel⟩ := hrel
    clear r1 r2 r3 hbel2
    by_cases hkl : k < len
    · obtain rfl := h.addr (by omega)
      have ca := h.fst k hkl
      have cb := h.snd k hkl
      have hbl := World.block_lt_of_cell? w _ ca
      simp at hbl
      have ca' := (hbel.cell (p := ⟨b, off + k * 2, none⟩) hbl).trans ca
      have cb' := (hbel.cell (p := ⟨b, off + k * 2 + 1, none⟩) hbl).trans cb
      obtain ⟨xa1, xa2⟩ := h.bA k hkl
      obtain ⟨xb1, xb2⟩ := h.bB k hkl
      have HA : Hid (pickT (zA k) = pickT (zA k)) := rfl
      generalize hxa : zA k = xa at *
      generalize hxb : zB k = xb at *
      clear ca cb HA
      have HXA : Hid (zA k = xa) := hxa
      have HXB : Hid (zB k = xb) := hxb
      clear hxa hxb
      have ta : ∀ o, (wr.alloc o).cell? ⟨w.heap.size, (xa % 12).toNat, none⟩ = some (.int .i32 (pickT xa)) := fun o => (World.cell?_of_block (Below.heap_alloc _ _ _ rt.lt)).trans (rt.cell _ (by omega))
      have tb : ∀ o, (wr.alloc o).cell? ⟨w.heap.size, (xb % 12).toNat, none⟩ = some (.int .i32 (pickT xb)) := fun o => (World.cell?_of_block (Below.heap_alloc _ _ _ rt.lt)).trans (rt.cell _ (by omega))
      have ia : 0 ≤ xa % 12 ∧ xa % 12 < 12 := by omega
      have ib : 0 ≤ xb % 12 ∧ xb % 12 < 12 := by omega
      have hkI : (k : Int) < len := by omega
      have al2 : ∀ {B : Nat}, B < wr.heap.size → ∀ o1 o2, ((wr.alloc o1).alloc o2).heap[B]? = wr.heap[B]? := fun {B} hB o1 o2 => (Below.heap_alloc _ _ _ (by rw [alloc_size]; omega)).trans (Below.heap_alloc _ _ _ hB)
      have ss : ∀ o1 o2, ((wr.alloc o1).alloc o2).cell? ⟨w.heap.size + 1, k, none⟩ = some (fs k) := fun o1 o2 => (World.cell?_of_block (al2 rs.lt o1 o2)).trans (rs.cell k hkl)
      have sf : ∀ o1 o2, ((wr.alloc o1).alloc o2).frozen? ⟨w.heap.size + 1, k, none⟩ = false := fun o1 o2 => (World.frozen?_of_block (al2 rs.lt o1 o2)).trans (rs.free k)
      have w0 : ∀ o1 o2, ((wr.alloc o1).alloc o2).cell? ⟨Bw, k * 2, none⟩ = some (fw (k * 2)) := fun o1 o2 => (World.cell?_of_block (al2 rwd.lt o1 o2)).trans (rwd.cell (k * 2) (by omega))
      have w1 : ∀ o1 o2, ((wr.alloc o1).alloc o2).cell? ⟨Bw, k * 2 + 1, none⟩ = some (fw (k * 2 + 1)) := fun o1 o2 => (World.cell?_of_block (al2 rwd.lt o1 o2)).trans (rwd.cell (k * 2 + 1) (by omega))
      have wf : ∀ o1 o2 i, ((wr.alloc o1).alloc o2).frozen? ⟨Bw, i, none⟩ = false := fun o1 o2 i => (World.frozen?_of_block (al2 rwd.lt o1 o2)).trans (rwd.free i)
      have hne1 : ¬ w.heap.size + 1 = Bw := by omega
      have hne2 : ¬ Bw = w.heap.size + 1 := by omega
      have n0 : ((wr.alloc (.cells #[.int .u8 xa, .int .u8 xb] 28)).alloc (.cells #[.int .i32 (pickT xa), .int .i32 (pickT xb)] 21)).cell? ⟨wr.heap.size + 1, 0, none⟩ = some (.int .i32 (pickT xa)) := (news_at _ _ 0).trans rfl
      have n1 : ((wr.alloc (.cells #[.int .u8 xa, .int .u8 xb] 28)).alloc (.cells #[.int .i32 (pickT xa), .int .i32 (pickT xb)] 21)).cell? ⟨wr.heap.size + 1, 1, none⟩ = some (.int .i32 (pickT xb)) := (news_at _ _ 1).trans rfl
      go_wp2_with (refine wpList_string rfl _ rfl (wr.heap.size + 1) 2 rfl (pickT xa) (pickT xb) n0 n1 ?_)
      go_roundw
      case rel => exact ops_step hkl HXA.out HXB.out rt rs rwd hfs hfw hbel hlt1
      case measure => simp [intOf]; omega
    · obtain rfl : k = len := by omega
      have hnew : ∀ (o : Obj), Calls Ybaf.prog 6 #[.iface 30 (.pointer (some ⟨wr.heap.size, 0, none⟩)), .string path, .nilFunc, .slice (some ⟨w.heap.size + 1, 0, none⟩) k k] (wr.alloc o) fun e w' => e = .returned (.pointer (some ⟨wr.heap.size + 1, 0, none⟩)) ∧ ∃ (F : Nat → Value) (ov : Value), Cf w' (wr.heap.size + 1) F ∧ Made F (wr.heap.size + 1) (.iface 30 (.pointer (some ⟨wr.heap.size, 0, none⟩))) path .nilFunc ov ∧ w'.ownsRow (wr.heap.size + 1 + 1) 29 2 ov k (pcs (fun i => pickT (zA i)) (fun i => pickT (zB i)) k) ∧ Below (wr.heap.size + 1) (wr.alloc o) w' ∧ wr.heap.size + 1 < w'.heap.size := fun o => by
        have h1 := new_any (.pointer (some ⟨wr.heap.size, 0, none⟩)) 30 path .nilFunc (some ⟨w.heap.size + 1, 0, none⟩) k k (w.heap.size + 1) (fun i => encS (pickT (zA i)) (pickT (zB i))) (fun i => pickT (zA i)) (fun i => pickT (zB i)) (wr.alloc o) hlen rfl (fun _ => rfl)
          (fun i hi => (World.cell?_of_block (Below.heap_alloc _ _ _ rs.lt)).trans ((rs.cell i hi).trans (by rw [hfs i hi]))) (fun i hi => runes_enc (pick_mem (h.bA i hi).1) (pick_mem (h.bB i hi).1))
        rw [alloc_size] at h1
        exact h1
      have hwr := rwd.lt
      go_wp2_with (go_at_call 6; refine (hnew _).mono ?_; rintro e W4 ⟨rfl, F, ov, hcf, hmade, hown4, bel4, hsz4⟩; clear hnew; obtain ⟨vo, vc, vg, hvo, vpos, vcell⟩ := owns_view2 hown4; subst hvo; obtain ⟨c1, c2, c3, c4, c5, c6, c7, c8, c9, c10⟩ := made_cells hcf hmade; clear hmade; have c11 : W4.cell? ⟨wr.heap.size, 0, none⟩ = some (.int .i64 0) := (bel4.cell (p := ⟨wr.heap.size, 0, none⟩) (Nat.lt_succ_self _)).trans (cells_of_block (heap_alloc_new wr _) 0))
      have vw : ∀ j, j < k → W4.cell? ⟨Bw, j * 2, none⟩ = some (.int .i32 (pickT (zA j))) ∧ W4.cell? ⟨Bw, j * 2 + 1, none⟩ = some (.int .i32 (pickT (zB j))) := fun j hj => by
        have q : ∀ i, i < k * 2 → W4.cell? ⟨Bw, i, none⟩ = some (fw i) := fun i hi => (bel4.cell (p := ⟨Bw, i, none⟩) (by show Bw < _; omega)).trans ((World.cell?_of_block (Below.heap_alloc _ _ _ hwr)).trans (rwd.cell i hi))
        rw [q (j * 2) (by omega), q (j * 2 + 1) (by omega), (hfw j hj).1, (hfw j hj).2]
        exact ⟨rfl, rfl⟩
      go_loopw [15] (fun t wx => ∃ j m : Nat, j ≤ k ∧ t = .int .i64 j ∧ wx = W4.drewN m) (fun t _ => k - (intOf t).toNat)
      case atStart => exact ⟨0, 0, Nat.zero_le _, rfl, rfl⟩
      case round =>
        obtain ⟨j, m, hj, rfl, rfl⟩ := hrel
        by_cases hjk : j < k
        · obtain rfl := vpos (by omega)
          have v0 := vcell (j * 2) (by omega)
          have v1 := vcell (j * 2 + 1) (by omega)
          rw [(pcs_at _ _ hjk).1] at v0
          rw [(pcs_at _ _ hjk).2] at v1
          obtain ⟨b0, b1⟩ := vw j hjk
          generalize pickT (zA j) = xa at v0 b0
          generalize pickT (zB j) = xb at v1 b1
          clear vcell vw vpos rs rwd rt hfs hfw hcf hown4
          have hkI : (j : Int) < k := by omega
          go_wp2
          go_region
          all_goals go_wp2
          all_goals go_roundw
          case rel => exact ⟨j + 1, m + 1, by omega, by go_num, rfl⟩
          case measure => simp [intOf]; omega
        · obtain rfl : j = k := by omega
          clear vcell vw vpos rs rwd rt hfs hfw
          go_wp2
          go_ret
          have hb := (hbel.alloc hbel.size (.cells #[.int .i64 0] 32)).trans (bel4.mono (by have := hbel.size; omega))
          exact ⟨rfl, hb.os, hb.tape, hb.output, hb.size, hb.block⟩
end Go.Proofs.YbulkdbsgFmt
