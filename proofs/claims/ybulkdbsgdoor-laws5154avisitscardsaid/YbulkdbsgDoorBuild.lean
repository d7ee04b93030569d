/-
  THE LAW's OWN MEMORY: the search's struct, its rules, the classes. No walk.
-/
import Derived.Test.YbulkdbsgDoorChIn
namespace Go.Proofs.YbulkdbsgDoor
open Go.RowKit
set_option linter.unusedVariables false

/-- The rules that come in. -/
structure InR where
  rv : Bool
  adm : Nat
  role : Nat
  h : Nat
  l : Nat

structure RIn (w : World) (xb xo n : Nat) (x : Nat → InR) : Prop where
  c0 : ∀ j, j < n → w.cell? ⟨xb, xo + j * 5, none⟩ = some (.bool (x j).rv)
  c1 : ∀ j, j < n → w.cell? ⟨xb, xo + j * 5 + 1, none⟩ = some (.int .u8 (x j).adm)
  c2 : ∀ j, j < n → w.cell? ⟨xb, xo + j * 5 + 2, none⟩ = some (.int .u8 (x j).role)
  c3 : ∀ j, j < n → w.cell? ⟨xb, xo + j * 5 + 3, none⟩ = some (.int .u8 (x j).h)
  c4 : ∀ j, j < n → w.cell? ⟨xb, xo + j * 5 + 4, none⟩ = some (.int .u8 (x j).l)
  le : ∀ j, j < n → (x j).adm ≤ 255 ∧ (x j).role ≤ 255 ∧ (x j).h ≤ 255 ∧ (x j).l ≤ 255

theorem RIn.keep {w w' : World} {xb xo n : Nat} {x : Nat → InR} (h : RIn w xb xo n x) {P : Nat → Prop} (hf : Fr P w w') (hb : ∀ q, q < w.heap.size → ¬ P q) : RIn w' xb xo n x :=
  ⟨fun j hj => hf.cell (hb _ (World.block_lt_of_cell? w _ (h.c0 j hj))) (h.c0 j hj), fun j hj => hf.cell (hb _ (World.block_lt_of_cell? w _ (h.c1 j hj))) (h.c1 j hj), fun j hj => hf.cell (hb _ (World.block_lt_of_cell? w _ (h.c2 j hj))) (h.c2 j hj),
   fun j hj => hf.cell (hb _ (World.block_lt_of_cell? w _ (h.c3 j hj))) (h.c3 j hj), fun j hj => hf.cell (hb _ (World.block_lt_of_cell? w _ (h.c4 j hj))) (h.c4 j hj), h.le⟩

theorem info43 : (Ybad.prog.info? 43).map (fun i => (i.zero, i.size, i.bytes)) = some (some (.agg #[.bool false, .int .i64 0, .slice none 0 0, .slice none 0 0, .int .i64 0]), 5, 72) := by kernel_rfl
theorem info47 : (Ybad.prog.info? 47).map (fun i => (i.zero, i.size, i.bytes)) = some (some (.agg #[.slice none 0 0, .int .i64 0]), 2, 32) := by kernel_rfl

/-- The search's struct. -/
def scs (M : Nat) (rv fx : Value) : Array Value :=
  #[.slice none 0 0, .int .i64 1, rv, .slice none 0 0, .slice none 0 0, .slice none 0 0, .slice none 0 0, .string ⟨#[]⟩, .int .i64 0, .slice none 0 0, fx, .nilIface, .map (some M), .slice none 0 0, .pointer none]

/-- The cells of the rules. -/
def ruC (x : InR) (hb lb : Nat) : List Value := [.bool x.rv, .int .i64 ((x.adm % 8 : Nat)), setV hb 1, setV lb 1, .int .i64 ((x.role % 8 : Nat))]
def rcs (x : Nat → InR) (hb lb : Nat → Nat) : Nat → List Value
  | 0 => []
  | i + 1 => rcs x hb lb i ++ ruC (x i) (hb i) (lb i)
theorem rcs_len (x : Nat → InR) (hb lb : Nat → Nat) (i : Nat) : (rcs x hb lb i).length = i * 5 := by
  induction i with
  | zero => rfl
  | succ i ih => simp [rcs, ruC, ih]; omega
theorem rcs_congr (x : Nat → InR) {hb lb hb' lb' : Nat → Nat} (i : Nat) (h : ∀ j, j < i → hb j = hb' j ∧ lb j = lb' j) : rcs x hb lb i = rcs x hb' lb' i := by
  induction i with
  | zero => rfl
  | succ i ih => simp only [rcs]; rw [ih (fun j hj => h j (by omega)), (h i (by omega)).1, (h i (by omega)).2]
theorem rcs_at (x : Nat → InR) (hb lb : Nat → Nat) (i k o : Nat) (hk : k < i) (ho : o < 5) : (rcs x hb lb i)[k * 5 + o]? = (ruC (x k) (hb k) (lb k))[o]? := by
  induction i with
  | zero => omega
  | succ i ih =>
    simp only [rcs]
    have hl := rcs_len x hb lb i
    by_cases h : k < i
    · rw [List.getElem?_append_left (by omega), ih h]
    · obtain rfl : k = i := by omega
      rw [List.getElem?_append_right (by omega), hl]
      congr 1
      omega

/-- Loop 1 of the law. -/
structure LR (w3 wr : World) (S M : Nat) (x : Nat → InR) (i : Nat) (hb lb : Nat → Nat) (rv : Value) : Prop where
  s : wr.heap[S]? = some (.cells (scs M rv (.slice none 0 0)) 38 (0, 0))
  own : wr.ownsRow w3.heap.size 43 5 rv i (rcs x hb lb i)
  sets : ∀ j, j < i → SetAt wr (hb j) [((x j).h : Int)] ∧ SetAt wr (lb j) [((x j).l : Int)] ∧ w3.heap.size ≤ hb j ∧ w3.heap.size ≤ lb j
  fr : Fr (fun q => q = S) w3 wr
  nil : i = 0 → rv = .slice none 0 0

theorem five_news {w : World} {g : Nat} {a b c d e : Value} {t : TypeId} (hg : w.heap.size = g) : ∀ j y, [a, b, c, d, e][j]? = some y → (w.alloc (.cells #[a, b, c, d, e] t)).drew.cell? ((⟨g, 0, none⟩ : Addr).add j) = some y := by
  intro j y hj
  subst hg
  have hh := heap_alloc_new w (.cells #[a, b, c, d, e] t)
  have hlt : j < 5 := by have := (List.getElem?_eq_some_iff.1 hj).1; simpa using this
  rw [Addr.add_lit, Nat.zero_add]
  refine (cells_of_block (w := (w.alloc (.cells #[a, b, c, d, e] t)).drew) hh j).trans ?_
  simpa using hj

theorem own43 {w : World} {base n k : Nat} {gv : Value} {xs : List Value} (hown : w.ownsRow base 43 5 gv n xs) (h : gv.ownBlock = some k) : base ≤ k ∧ ∃ cur, w.heap[k]? = some (.cells cur 43 (0, 0)) := by
  rcases hown.2 with ⟨rfl, _⟩ | ⟨g, cap, cur, rfl, hb, hg, _⟩
  · simp [Value.ownBlock] at h
  · simp [Value.ownBlock] at h
    subst h
    exact ⟨hb, cur, hg⟩

/-- One rule more: W the world ahead of append, w5 behind it. -/
theorem LR.step {w3 wr W w5 : World} {S M : Nat} {x : Nat → InR} {i : Nat} {hb lb : Nat → Nat} {rv : Value} (h : LR w3 wr S M x i hb lb rv) (hf : Fr (fun _ => False) wr W) {hn ln : Nat} (h1 : SetAt W hn [((x i).h : Int)]) (h2 : SetAt W ln [((x i).l : Int)]) (hS : S < w3.heap.size) (h3 : w3.heap.size ≤ hn) (h4 : w3.heap.size ≤ ln)
    {g c : Nat} (hown : w5.ownsRow w3.heap.size 43 5 (.slice (some ⟨g, 0, none⟩) (i + 1) c) (i + 1) (rcs x hb lb i ++ ruC (x i) hn ln)) (hg : W.grownBy w5 rv.ownBlock) :
    ∃ hb' lb', LR w3 (w5.setCell ⟨S, 2, none⟩ (.slice (some ⟨g, 0, none⟩) (i + 1) c)) S M x (i + 1) hb' lb' (.slice (some ⟨g, 0, none⟩) (i + 1) c) := by
  have hF5 : Fr (fun q => rv.ownBlock = some q) wr w5 := (hf.mono (fun _ _ h => h.elim)).trans ((Fr.refl (fun q => rv.ownBlock = some q) W).grown hg (fun k hk _ => hk))
  have hW5 : Fr (fun q => rv.ownBlock = some q) W w5 := (Fr.refl (fun q => rv.ownBlock = some q) W).grown hg (fun k hk _ => hk)
  have hownW := hf.owns h.own (fun _ _ h => h)
  have nS : ¬ rv.ownBlock = some S := fun e => by have := (own43 h.own e).1; omega
  have nSet : ∀ {b ws}, SetAt W b ws → ¬ rv.ownBlock = some b := fun hs e => by
    obtain ⟨_, cur, hc⟩ := own43 hownW e
    rw [hs] at hc
    simp at hc
  have hS5 := hF5.heap nS h.s
  have hset : Fr (fun q => q = S) w5 (w5.setCell ⟨S, 2, none⟩ (.slice (some ⟨g, 0, none⟩) (i + 1) c)) := (Fr.refl (fun q => q = S) w5).setCell (p := ⟨S, 2, none⟩) rfl _
  refine ⟨fun j => if j = i then hn else hb j, fun j => if j = i then ln else lb j, ?_, ?_, ?_, ?_, fun h => by omega⟩
  · rw [heap_setCell_same w5 S 2 _ 38 _ hS5]
    rfl
  · have e : rcs x (fun j => if j = i then hn else hb j) (fun j => if j = i then ln else lb j) (i + 1) = rcs x hb lb i ++ ruC (x i) hn ln := by
      simp only [rcs, if_true]
      rw [rcs_congr x i (hb' := hb) (lb' := lb) (fun j hj => by simp [Nat.ne_of_lt hj])]
    rw [e]
    refine hset.owns hown (fun k hk e => ?_)
    have := (hown.lt k hk).1
    omega
  · intro j hj
    by_cases e : j = i
    · subst e
      simp only [if_true]
      exact ⟨(h1.keep hW5 (nSet h1)).keep hset (by omega), (h2.keep hW5 (nSet h2)).keep hset (by omega), h3, h4⟩
    · simp only [if_neg e]
      obtain ⟨a, b, c, d⟩ := h.sets j (by omega)
      exact ⟨(a.keep hF5 (nSet (a.keep hf (fun h => h)))).keep hset (by omega), (b.keep hF5 (nSet (b.keep hf (fun h => h)))).keep hset (by omega), c, d⟩
  · refine (Fr.transNew h.fr hF5 (fun k hk e => ?_)).trans hset
    have := (own43 h.own e).1
    omega

/-- The search is built: rules, fixed. -/
structure PR (w3 wF : World) (S M nr : Nat) (x : Nat → InR) (hb lb : Nat → Nat) (rv fxv : Value) (fx : Option (Nat × Int)) : Prop where
  s : wF.heap[S]? = some (.cells (scs M rv fxv) 38 (0, 0))
  own : wF.ownsRow w3.heap.size 43 5 rv nr (rcs x hb lb nr)
  sets : ∀ j, j < nr → SetAt wF (hb j) [((x j).h : Int)] ∧ SetAt wF (lb j) [((x j).l : Int)] ∧ w3.heap.size ≤ hb j ∧ w3.heap.size ≤ lb j
  fr : Fr (fun q => q = S) w3 wF
  nil : nr = 0 → rv = .slice none 0 0
  fix : (fxv = .slice none 0 0 ∧ fx = none) ∨ ∃ fb f, fxv = setV fb 1 ∧ fx = some (fb, f) ∧ SetAt wF fb [f] ∧ w3.heap.size ≤ fb

theorem PR.of0 {w3 wr : World} {S M nr : Nat} {x : Nat → InR} {hb lb : Nat → Nat} {rv : Value} (h : LR w3 wr S M x nr hb lb rv) : PR w3 wr S M nr x hb lb rv (.slice none 0 0) none :=
  ⟨h.s, h.own, h.sets, h.fr, h.nil, .inl ⟨rfl, rfl⟩⟩

theorem PR.of1 {w3 wr : World} {S M nr : Nat} {x : Nat → InR} {hb lb : Nat → Nat} {rv : Value} (h : LR w3 wr S M x nr hb lb rv) (hS : S < w3.heap.size) (f : Int) {o : Obj} (ho : o = .cells #[.int .u64 f] 41) :
    PR w3 ((wr.alloc o).setCell ⟨S, 10, none⟩ (.slice (some ⟨wr.heap.size, 0, none⟩) 1 1)) S M nr x hb lb rv (setV wr.heap.size 1) (some (wr.heap.size, f)) := by
  subst ho
  have hz := h.fr.size
  have hf : Fr (fun q => q = S) wr ((wr.alloc (.cells #[.int .u64 f] 41)).setCell ⟨S, 10, none⟩ (.slice (some ⟨wr.heap.size, 0, none⟩) 1 1)) := ((Fr.refl (fun q => q = S) wr).alloc _).setCell (p := ⟨S, 10, none⟩) rfl _
  have hs1 := ((Fr.refl (fun _ => False) wr).alloc (.cells #[.int .u64 f] 41)).heap (fun h => h) h.s
  have hn : SetAt (wr.alloc (.cells #[.int .u64 f] 41)) wr.heap.size [f] := heap_alloc_new wr _
  refine ⟨?_, hf.owns h.own (fun k hk e => ?_), fun j hj => ?_, h.fr.trans hf, h.nil, .inr ⟨_, f, rfl, rfl, ?_, hz⟩⟩
  · rw [heap_setCell_same _ S 10 _ 38 _ hs1]
    rfl
  · have := (h.own.lt k hk).1
    omega
  · obtain ⟨a, b, c, d⟩ := h.sets j hj
    exact ⟨a.keep hf (by omega), b.keep hf (by omega), c, d⟩
  · exact hn.keep ((Fr.refl (fun q => q = S) (wr.alloc (.cells #[.int .u64 f] 41))).setCell (p := ⟨S, 10, none⟩) rfl _) (by omega)

theorem make45 (n : Nat) (hn : n ≤ 100000) (w : World) : (Instr.makeSlice 45 (.int .i64 n) (.int .i64 n)).run Ybad.prog w = .ok (.slice (some ⟨w.heap.size, 0, none⟩) n n) (w.alloc (.cells (madeCells #[.slice none 0 0, .int .i64 0] (n * 2)) 47)) := by
  obtain ⟨i, hi, h0, h1, h2⟩ := info_parts info47
  have := run_make (P := Ybad.prog) w 45 47 i (.agg #[.slice none 0 0, .int .i64 0]) Ybad.underlying45 hi h0 .i64 .i64 n n (by omega) (by omega) (by rw [h2]; omega) (by omega)
  rw [h1] at this
  exact this

/-- Loop 2 of the law: the classes. -/
structure LC (w5 wr : World) (C n : Nat) (v : Nat → Nat) (i : Nat) (cb : Nat → Nat) : Prop where
  row : ∃ cs : Array Value, wr.heap[C]? = some (.cells cs 47 (0, 0)) ∧ cs.size = n * 2 ∧ ∀ j, j < i → cs[j * 2]? = some (setV (cb j) 1) ∧ cs[j * 2 + 1]? = some (.int .i64 1)
  sets : ∀ j, j < i → SetAt wr (cb j) [(v j : Int)] ∧ w5.heap.size ≤ cb j
  fr : Fr (fun q => q = C) w5 wr

theorem LC.start {wF w5 : World} {n : Nat} {v : Nat → Nat} (hw : w5 = wF.alloc (.cells (madeCells #[.slice none 0 0, .int .i64 0] (n * 2)) 47)) : LC w5 w5 wF.heap.size n v 0 (fun _ => 0) := by
  subst hw
  exact ⟨⟨_, heap_alloc_new wF _, size_madeCells _ _, fun j hj => by omega⟩, fun j hj => by omega, Fr.refl _ _⟩

theorem LC.step {w5 wr : World} {C n : Nat} {v : Nat → Nat} {i : Nat} {cb : Nat → Nat} (h : LC w5 wr C n v i cb) (hi : i < n) (hC : C < w5.heap.size) :
    ∃ cb', LC w5 (((wr.alloc (.cells #[.int .u64 (v i)] 41)).setCell ⟨C, i * 2, none⟩ (.slice (some ⟨wr.heap.size, 0, none⟩) 1 1)).setCell ⟨C, i * 2 + 1, none⟩ (.int .i64 1)) C n v (i + 1) cb' := by
  obtain ⟨cs, h1, h2, h3⟩ := h.row
  have hz := h.fr.size
  have ha := ((Fr.refl (fun _ => False) wr).alloc (.cells #[.int .u64 (v i)] 41)).heap (fun h => h) h1
  have hn : SetAt (wr.alloc (.cells #[.int .u64 (v i)] 41)) wr.heap.size [(v i : Int)] := heap_alloc_new wr _
  have hb := heap_setCell_same _ C (i * 2) _ 47 (.slice (some ⟨wr.heap.size, 0, none⟩) 1 1) ha
  have hc := heap_setCell_same _ C (i * 2 + 1) _ 47 (.int .i64 1) hb
  have hf1 : Fr (fun q => q = C) (wr.alloc (.cells #[.int .u64 (v i)] 41)) (((wr.alloc (.cells #[.int .u64 (v i)] 41)).setCell ⟨C, i * 2, none⟩ (.slice (some ⟨wr.heap.size, 0, none⟩) 1 1)).setCell ⟨C, i * 2 + 1, none⟩ (.int .i64 1)) := ((Fr.refl (fun q => q = C) _).setCell (p := ⟨C, i * 2, none⟩) rfl _).setCell (p := ⟨C, i * 2 + 1, none⟩) rfl _
  have hf : Fr (fun q => q = C) wr _ := ((Fr.refl (fun q => q = C) wr).alloc (.cells #[.int .u64 (v i)] 41)).trans hf1
  refine ⟨fun j => if j = i then wr.heap.size else cb j, ⟨_, hc, by simp [h2], fun j hj => ?_⟩, fun j hj => ?_, h.fr.trans hf⟩
  · by_cases e : j = i
    · subst e
      simp only [if_true]
      have s1 : j * 2 < cs.size := by omega
      have s2 : j * 2 + 1 < cs.size := by omega
      refine ⟨?_, ?_⟩
      · rw [Array.getElem?_setIfInBounds_ne (by omega)]
        simp [s1, setV]
      · simp [s2]
    · simp only [if_neg e]
      have := h3 j (by omega)
      rw [Array.getElem?_setIfInBounds_ne (by omega), Array.getElem?_setIfInBounds_ne (by omega), Array.getElem?_setIfInBounds_ne (by omega), Array.getElem?_setIfInBounds_ne (by omega)]
      exact this
  · by_cases e : j = i
    · subst e
      simp only [if_true]
      exact ⟨hn.keep hf1 (by omega), hz⟩
    · simp only [if_neg e]
      obtain ⟨a, b⟩ := h.sets j (by omega)
      exact ⟨a.keep hf (by omega), b⟩

/-- The rules as the search holds them. -/
def ruOf (x : Nat → InR) (hb lb : Nat → Nat) (k : Nat) : Ru := ⟨(x k).rv, (x k).adm % 8, hb k, lb k, (x k).role % 8, ((x k).h : Int), ((x k).l : Int)⟩

theorem CacheAt.made {w' : World} {M : Nat} (m : Nat) (h : w'.heap[M]? = some (.map #[] 0)) : CacheAt w' M 0 m (fun _ => none) := by
  obtain ⟨es, clock, h1, h2, h3, h4⟩ := World.ownsMap_made w' Ybad.prog 9 (Rm m)
  have e := heap_alloc_new w' (.map #[] 0)
  rw [e] at h1
  cases h1
  refine ⟨⟨_, ⟨#[], 0, h, h2, h3, h4⟩, fun v hv => ?_⟩⟩
  exact ⟨rfl, rfl⟩

theorem chin {w w3 wF w5 wr w6 : World} {S M Bs b9 nr n C stop : Nat} {x : Nat → InR} {hb lb cb : Nat → Nat} {v : Nat → Nat} {rv fxv : Value} {fx : Option (Nat × Int)} (F3 : Fr (fun _ => False) w w3) (Z : w.heap.size = b9 ∧ M = b9 + 1 ∧ S = b9 + 2 ∧ Bs = b9 + 3 ∧ w3.heap.size = b9 + 4)
    (k9 : w3.cell? ⟨b9, 0, none⟩ = some (.int .u8 stop)) (kM : w3.heap[M]? = some (.map #[] 0)) (kB : w3.cell? ⟨Bs, 0, none⟩ = some (.pointer (some ⟨S, 0, none⟩))) (hT : ∀ j, j < 64 → w.cell? ⟨1, j, none⟩ = some (.int .u8 (tab.getD j 0 : Nat)))
    (hP : PR w3 wF S M nr x hb lb rv fxv fx) (hF5 : Fr (fun _ => False) wF w5) (hC : C = wF.heap.size) (hC5 : w5.heap.size = C + 1) (hLC : LC w5 wr C n v n cb) (hw6 : w6 = ((wr.alloc (.cells #[.slice none 0 0] 48)).alloc (.cells #[.int .i64 0] 3)).alloc (.cells #[.bool false] 4)) (hv : ∀ j, j < n → v j ≤ 255) :
    ∃ R cr, ChIn w6 S R nr cr (ruOf x hb lb) M ((nr + 63) / 64) C n cb (fun i => (v i : Int)) fx Bs (wr.heap.size + 1 + 1) wr.heap.size (wr.heap.size + 1) b9 stop := by
  obtain ⟨z1, z2, z3, z4, z5⟩ := Z
  have y3 := hP.fr.size
  have y5 := hLC.fr.size
  have ha : ∀ {W : World} {o o' : Obj} {k : Nat}, W.heap[k]? = some o → (W.alloc o').heap[k]? = some o := fun h => (Below.heap_alloc _ _ _ (lt_of_block h)).trans h
  have F6 : Fr (fun _ => False) wr w6 := by rw [hw6]; exact (((Fr.refl _ wr).alloc _).alloc _).alloc _
  have g0 : w6.heap[wr.heap.size]? = some (.cells #[.slice none 0 0] 48 (0, 0)) := by rw [hw6]; exact ha (ha (heap_alloc_new wr _))
  have g1 : w6.heap[wr.heap.size + 1]? = some (.cells #[.int .i64 0] 3 (0, 0)) := by
    have := heap_alloc_new (wr.alloc (.cells #[.slice none 0 0] 48)) (.cells #[.int .i64 0] 3)
    rw [World.size_alloc] at this
    rw [hw6]; exact ha this
  have FF : Fr (fun _ => False) wF w6 := (Fr.transNew hF5 hLC.fr (fun q hq e => by omega)).trans F6
  have FS : Fr (fun q => q = S) w3 w6 := hP.fr.trans (FF.mono (fun _ _ h => h.elim))
  have Fw : Fr (fun _ => False) w w6 := Fr.transNew F3 FS (fun q hq e => by omega)
  have hS6 := FF.heap (fun h => h) hP.s
  have hl1 : 1 < w.heap.size := World.block_lt_of_cell? w _ (hT 0 (by omega))
  have hsets : ∀ k, k < nr → SetAt w6 (hb k) [((x k).h : Int)] ∧ SetAt w6 (lb k) [((x k).l : Int)] ∧ b9 + 4 ≤ hb k ∧ b9 + 4 ≤ lb k ∧ hb k < C ∧ lb k < C := fun k hk => by
    obtain ⟨a, b, c, d⟩ := hP.sets k hk
    have := a.lt
    have := b.lt
    exact ⟨a.keep FF (fun h => h), b.keep FF (fun h => h), by omega, by omega, by omega, by omega⟩
  have hcb : ∀ i, i < n → SetAt w6 (cb i) [(v i : Int)] ∧ C < cb i ∧ cb i < wr.heap.size := fun i hi => by
    obtain ⟨a, b⟩ := hLC.sets i hi
    have := a.lt
    exact ⟨a.keep F6 (fun h => h), by omega, by omega⟩
  obtain ⟨cs, r1, r2, r3⟩ := hLC.row
  have hC6 := F6.heap (fun h => h) r1
  obtain ⟨R, cr, hrv, hle, hR⟩ : ∃ R cr, rv = rulesV R nr cr ∧ nr ≤ cr ∧ (0 < nr → w6.ownsRow w3.heap.size 43 5 (.slice (some ⟨R, 0, none⟩) nr cr) nr (rcs x hb lb nr) ∧ b9 + 4 ≤ R ∧ R < C) := by
    by_cases h : nr = 0
    · exact ⟨0, 0, by rw [hP.nil h]; simp [rulesV, h], by omega, fun h => by omega⟩
    · obtain ⟨g, cap, hg, hb', hle, hlt⟩ := owns_pos hP.own (by omega)
      have ho := FF.owns hP.own (fun _ _ h => h)
      rw [hg] at ho
      exact ⟨g, cap, by rw [hg]; simp [rulesV, h], hle, fun _ => ⟨ho, by omega, by omega⟩⟩
  have hrule : ∀ k, k < nr → RuleAt w6 R (k * 5) (ruOf x hb lb k).rv (ruOf x hb lb k).adm (ruOf x hb lb k).hb (ruOf x hb lb k).lb (ruOf x hb lb k).role (ruOf x hb lb k).h (ruOf x hb lb k).l := fun k hk => by
    obtain ⟨ho, _⟩ := hR (by omega)
    have hc : ∀ o, o < 5 → w6.cell? ⟨R, k * 5 + o, none⟩ = (ruC (x k) (hb k) (lb k))[o]? := fun o h => (ho.cellAt (k * 5 + o) (by omega)).trans (rcs_at x hb lb nr k o hk h)
    obtain ⟨a, b, _⟩ := hsets k hk
    exact ⟨hc 0 (by omega), hc 1 (by omega), hc 2 (by omega), hc 3 (by omega), hc 4 (by omega), a, b⟩
  refine ⟨R, cr, ?_⟩
  exact { rules := ⟨(cells_of_block hS6 2).trans (by rw [← hrv]; rfl), cells_of_block hS6 1, hle, hrule, fun k hk => Nat.mod_lt _ (by omega)⟩
          cache := CacheAt.made _ (FS.heap (by omega) kM)
          map := cells_of_block hS6 12
          free := free_of_block hS6 13
          key := cells_of_block hS6 13
          cls := ⟨fun i hi => (cells_of_block hC6 (i * 2)).trans (r3 i hi).1, fun i hi => (cells_of_block hC6 (i * 2 + 1)).trans (r3 i hi).2, fun i hi => (hcb i hi).1⟩
          fix := by
            rcases hP.fix with ⟨e1, e2⟩ | ⟨fb, f, e1, e2, hs, _⟩
            · rw [e2]
              rw [e1] at hS6
              exact cells_of_block hS6 10
            · rw [e2]
              rw [e1] at hS6
              exact ⟨cells_of_block hS6 10, hs.keep FF (fun h => h)⟩
          tab := fun j hj => Fw.cell (fun h => h) (hT j hj)
          g0 := cells_of_block g0 0
          gf := free_of_block g0 0
          c0 := cells_of_block g1 0
          cf := free_of_block g1 0
          bs := FS.cell (by show ¬ Bs = S; omega) kB
          bt := FS.cell (by show ¬ b9 = S; omega) k9
          rows := by
            by_cases h : nr = 0
            · exact .inl h
            · obtain ⟨ho, _⟩ := hR (by omega)
              rcases ho.2 with ⟨e, _⟩ | ⟨g, cap, cur, e, _, hg, _⟩
              · cases e
              · cases e; exact .inr ⟨cur, 43, hg⟩
          ms := by omega
          vs := fun i hi => by have := hv i hi; show 0 ≤ (v i : Int) ∧ (v i : Int) ≤ 255; omega
          adm := fun k hk => Nat.mod_lt _ (by omega)
          rs := fun k hk => by have := hsets k hk; have := hR (by omega); show ¬ R = S ∧ ¬ hb k = S ∧ ¬ lb k = S; omega
          rm := fun k hk => by have := hsets k hk; have := hR (by omega); show ¬ R = M ∧ ¬ hb k = M ∧ ¬ lb k = M; omega
          rg := fun k hk => by have := hsets k hk; have := hR (by omega); show ¬ R = _ ∧ ¬ hb k = _ ∧ ¬ lb k = _; omega
          rc := fun k hk => by have := hsets k hk; have := hR (by omega); show ¬ R = _ ∧ ¬ hb k = _ ∧ ¬ lb k = _; omega
          cl := by have := F6.size; omega
          cs := by omega
          cbs := fun i hi => by have := hcb i hi; omega
          bsx := by omega
          btx := by omega
          sx := by omega
          mx := by omega
          gc := by omega
          tx := by omega }
end Go.Proofs.YbulkdbsgDoor
