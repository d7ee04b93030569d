/-
  WHAT changes IS GIVEN, its first loop's invariant, its second loop's. No walk.
-/
import Derived.Test.YbulkdbsgDoorRound
namespace Go.Proofs.YbulkdbsgDoor
open Go.RowKit Go.Shelf
set_option linter.unusedVariables false

theorem info29 : (Ybad.prog.info? 29).map (fun i => (i.zero, i.size, i.bytes)) = some (some (.slice none 0 0), 1, 24) := by kernel_rfl
theorem make32 (n : Nat) (hn : n ≤ 100000) (w : World) : (Instr.makeSlice 32 (.int .i64 n) (.int .i64 n)).run Ybad.prog w = .ok (.slice (some ⟨w.heap.size, 0, none⟩) n n) (w.alloc (.cells (Array.replicate n (.slice none 0 0)) 29)) := by
  have := run_make_row' 32 29 _ 24 Ybad.underlying32 info29 rfl .i64 .i64 n (by omega) (by omega) w
  have e : madeCells #[Value.slice none 0 0] n = Array.replicate n (.slice none 0 0) := by
    apply Array.toList_inj.1
    rw [toList_madeCells_one]
    simp
  rw [e] at this
  exact this

/-- What changes is given. -/
structure ChIn (w : World) (S R nr cr : Nat) (ru : Nat → Ru) (M m C n : Nat) (cb : Nat → Nat) (vs : Nat → Int) (fx : Option (Nat × Int)) (Bs Bb Bg Bc Bt stop : Nat) : Prop where
  rules : RulesAt w S R nr cr ru
  cache : CacheAt w M 0 m (fun _ => none)
  map : w.cell? ⟨S, 12, none⟩ = some (.map (some M))
  free : w.frozen? ⟨S, 13, none⟩ = false
  key : w.cell? ⟨S, 13, none⟩ = some (.slice none 0 0)
  cls : ClassAt w C n cb vs
  fix : FixAt w S fx
  tab : ∀ j, j < 64 → w.cell? ⟨1, j, none⟩ = some (.int .u8 (tab.getD j 0 : Nat))
  g0 : w.cell? ⟨Bg, 0, none⟩ = some (.slice none 0 0)
  gf : w.frozen? ⟨Bg, 0, none⟩ = false
  c0 : w.cell? ⟨Bc, 0, none⟩ = some (.int .i64 0)
  cf : w.frozen? ⟨Bc, 0, none⟩ = false
  bs : w.cell? ⟨Bs, 0, none⟩ = some (.pointer (some ⟨S, 0, none⟩))
  bt : w.cell? ⟨Bt, 0, none⟩ = some (.int .u8 stop)
  rows : nr = 0 ∨ ∃ cs t, w.heap[R]? = some (.cells cs t (0, 0))
  ms : ¬ M = S
  vs : ∀ i, i < n → 0 ≤ vs i ∧ vs i ≤ 255
  adm : ∀ k, k < nr → (ru k).adm < 8
  rs : ∀ k, k < nr → ¬ R = S ∧ ¬ (ru k).hb = S ∧ ¬ (ru k).lb = S
  rm : ∀ k, k < nr → ¬ R = M ∧ ¬ (ru k).hb = M ∧ ¬ (ru k).lb = M
  rg : ∀ k, k < nr → ¬ R = Bg ∧ ¬ (ru k).hb = Bg ∧ ¬ (ru k).lb = Bg
  rc : ∀ k, k < nr → ¬ R = Bc ∧ ¬ (ru k).hb = Bc ∧ ¬ (ru k).lb = Bc
  cl : C < w.heap.size
  cs : ¬ C = S ∧ ¬ C = M ∧ ¬ C = Bg ∧ ¬ C = Bc
  cbs : ∀ i, i < n → ¬ cb i = S ∧ ¬ cb i = M ∧ ¬ cb i = Bg ∧ ¬ cb i = Bc
  bsx : ¬ Bs = S ∧ ¬ Bs = M ∧ ¬ Bs = Bg ∧ ¬ Bs = Bc
  btx : ¬ Bt = S ∧ ¬ Bt = M ∧ ¬ Bt = Bg ∧ ¬ Bt = Bc
  sx : ¬ S = Bg ∧ ¬ S = Bc
  mx : ¬ M = Bg ∧ ¬ M = Bc
  gc : ¬ Bg = Bc
  tx : ¬ 1 = S ∧ ¬ 1 = M ∧ ¬ 1 = Bg ∧ ¬ 1 = Bc

theorem ha {W : World} {o o' : Obj} {k : Nat} (h : W.heap[k]? = some o) : (W.alloc o').heap[k]? = some o := (Below.heap_alloc _ _ _ (lt_of_block h)).trans h
theorem hn1 (W : World) (o1 o2 : Obj) : ((W.alloc o1).alloc o2).heap[W.heap.size + 1]? = some o2 := by
  have := heap_alloc_new (W.alloc o1) o2
  rwa [World.size_alloc] at this

theorem f5_start {w w6 : World} {a b c d e : Value} (hf : Fr (fun _ => False) (((((w.alloc (.cells #[a] 24)).alloc (.cells #[b] 45)).alloc (.cells #[c] 52)).alloc (.cells #[d] 41)).alloc (.cells #[e] 29)) w6) :
    w6.cell? ⟨w.heap.size, 0, none⟩ = some a ∧ w6.cell? ⟨w.heap.size + 1, 0, none⟩ = some b ∧ w6.cell? ⟨w.heap.size + 1 + 1, 0, none⟩ = some c ∧ w6.heap[w.heap.size + 1 + 1 + 1]? = some (.cells #[d] 41 (0, 0)) ∧ w6.cell? ⟨w.heap.size + 1 + 1 + 1 + 1, 0, none⟩ = some e ∧ Fr (fun _ => False) w w6 ∧ w.heap.size + 5 ≤ w6.heap.size := by
  have hz := hf.size
  simp only [World.size_alloc] at hz
  have q0 := hf.heap (fun h => h) (ha (o' := .cells #[e] 29) (ha (o' := .cells #[d] 41) (ha (o' := .cells #[c] 52) (ha (o' := .cells #[b] 45) (heap_alloc_new w (.cells #[a] 24))))))
  have q1 := hf.heap (fun h => h) (ha (o' := .cells #[e] 29) (ha (o' := .cells #[d] 41) (ha (o' := .cells #[c] 52) (hn1 w (.cells #[a] 24) (.cells #[b] 45)))))
  have r2 := hn1 (w.alloc (.cells #[a] 24)) (.cells #[b] 45) (.cells #[c] 52)
  have r3 := hn1 ((w.alloc (.cells #[a] 24)).alloc (.cells #[b] 45)) (.cells #[c] 52) (.cells #[d] 41)
  have r4 := hn1 (((w.alloc (.cells #[a] 24)).alloc (.cells #[b] 45)).alloc (.cells #[c] 52)) (.cells #[d] 41) (.cells #[e] 29)
  simp only [World.size_alloc] at r2 r3 r4
  have q2 := hf.heap (fun h => h) (ha (o' := .cells #[e] 29) (ha (o' := .cells #[d] 41) r2))
  have q3 := hf.heap (fun h => h) (ha (o' := .cells #[e] 29) r3)
  have q4 := hf.heap (fun h => h) r4
  exact ⟨cells_of_block q0 0, cells_of_block q1 0, cells_of_block q2 0, q3, cells_of_block q4 0, (((((Fr.refl _ w).alloc _).alloc _).alloc _).alloc _).alloc _ |>.trans hf, by omega⟩

theorem f5_mid {w6 w10 : World} {a c : Value} {r : Array Value} (hf : Fr (fun _ => False) (((w6.alloc (.cells #[a] 29)).alloc (.cells r 29)).alloc (.cells #[c] 32)) w10) :
    w10.cell? ⟨w6.heap.size, 0, none⟩ = some a ∧ w10.heap[w6.heap.size + 1]? = some (.cells r 29 (0, 0)) ∧ w10.cell? ⟨w6.heap.size + 1 + 1, 0, none⟩ = some c ∧ Fr (fun _ => False) w6 w10 := by
  have q0 := hf.heap (fun h => h) (ha (o' := .cells #[c] 32) (ha (o' := .cells r 29) (heap_alloc_new w6 (.cells #[a] 29))))
  have q1 := hf.heap (fun h => h) (ha (o' := .cells #[c] 32) (hn1 w6 (.cells #[a] 29) (.cells r 29)))
  have r2 := hn1 (w6.alloc (.cells #[a] 29)) (.cells r 29) (.cells #[c] 32)
  simp only [World.size_alloc] at r2
  have q2 := hf.heap (fun h => h) r2
  exact ⟨cells_of_block q0 0, q1, cells_of_block q2 0, (((Fr.refl _ w6).alloc _).alloc _).alloc _ |>.trans hf⟩

/-- Loop 1 of changes: i classes have got their row's cell, oi of them are in 'some'. -/
structure L1 (w2 wr : World) (S R nr cr : Nat) (ru : Nat → Ru) (M m n : Nat) (vs : Nat → Int) (A ob i oi cn : Nat) (f : Int → Option Nat) (ab : Nat → Nat) : Prop where
  srch : Srch wr S R nr cr ru M cn m w2.heap.size f
  row : ∃ cs : Array Value, wr.heap[A]? = some (.cells cs 29 (0, 0)) ∧ cs.size = n ∧ ∀ j, j < i → cs[j]? = some (setV (ab j) m)
  sets : ∀ j, j < i → SetAt wr (ab j) (appW m ru (vs j) nr) ∧ w2.heap.size ≤ ab j
  some' : SetAt wr ob (orAcc m ru vs nr oi)
  fr : Fr (fun k => k = S ∨ k = M ∨ k = A ∨ k = ob) w2 wr
  hs : ∀ o, ¬ o = 13 → wr.cell? ⟨S, o, none⟩ = w2.cell? ⟨S, o, none⟩

theorem KeyV.keep {w w' : World} {base : Nat} {kv : Value} (h : KeyV w base kv) (hf : Fr (fun _ => False) w w') : KeyV w' base kv := by
  rcases h with rfl | ⟨g, c, xs, rfl, ho⟩
  · exact .inl rfl
  · exact .inr ⟨g, c, xs, rfl, hf.owns ho (fun _ _ h => h)⟩

theorem Srch.keep {w w' : World} {S R nr cr : Nat} {ru : Nat → Ru} {M n m base : Nat} {f : Int → Option Nat} (h : Srch w S R nr cr ru M n m base f) (hf : Fr (fun _ => False) w w') : Srch w' S R nr cr ru M n m base f := by
  obtain ⟨kv, hk, hkv⟩ := h.key
  exact ⟨h.rules.keep hf (fun h => h) (fun _ _ => ⟨fun h => h, fun h => h, fun h => h⟩), h.cache.keep hf (fun h => h), hf.cell (fun h => h) h.map, (hf.frozen (p := ⟨S, 13, none⟩) (fun h => h) (World.block_lt_of_cell? w _ hk)).trans h.free, ⟨kv, hf.cell (fun h => h) hk, hkv.keep hf⟩, fun v b hv hb => ⟨(h.sets v b hv hb).1.keep hf (fun h => h), (h.sets v b hv hb).2⟩, Nat.le_trans h.le hf.size⟩

section
variable {w2 wr w' : World} {S R nr cr : Nat} {ru : Nat → Ru} {M m n : Nat} {vs : Nat → Int} {A ob i oi cn cn' : Nat} {f f' : Int → Option Nat} {ab : Nat → Nat}

theorem L1.new (h : L1 w2 wr S R nr cr ru M m n vs A ob i oi cn f ab) (hf : Fr (fun _ => False) wr w') (hS : S < wr.heap.size) : L1 w2 w' S R nr cr ru M m n vs A ob i oi cn f ab := by
  obtain ⟨cs, h1, h2, h3⟩ := h.row
  exact ⟨h.srch.keep hf, ⟨cs, hf.heap (fun h => h) h1, h2, h3⟩, fun j hj => ⟨(h.sets j hj).1.keep hf (fun h => h), (h.sets j hj).2⟩, h.some'.keep hf (fun h => h), h.fr.trans (hf.mono (fun _ _ h => h.elim)), fun o ho => (World.cell?_of_block (hf.block S hS (fun h => h))).trans (h.hs o ho)⟩

theorem L1.call (h : L1 w2 wr S R nr cr ru M m n vs A ob i oi cn f ab) (hsr : Srch w' S R nr cr ru M cn' m w2.heap.size f') (hf : Fr (May wr S M w2.heap.size) wr w') (hcs : ∀ o, ¬ o = 13 → w'.cell? ⟨S, o, none⟩ = wr.cell? ⟨S, o, none⟩)
    (hS : S < w2.heap.size) (hM : M < w2.heap.size) (hA : A < w2.heap.size ∧ ¬ A = S ∧ ¬ A = M) (hob : ob < w2.heap.size ∧ ¬ ob = S ∧ ¬ ob = M) : L1 w2 w' S R nr cr ru M m n vs A ob i oi cn' f' ab := by
  obtain ⟨cs, h1, h2, h3⟩ := h.row
  refine ⟨hsr, ⟨cs, hf.heap ?_ h1, h2, h3⟩, fun j hj => ⟨(h.sets j hj).1.keep hf ((h.sets j hj).1.notMay ?_ ?_), (h.sets j hj).2⟩, h.some'.keep hf (h.some'.notMay hob.2.1 hob.2.2), Fr.transNew h.fr hf ?_, fun o ho => (hcs o ho).trans (h.hs o ho)⟩
  · rintro (e | e | ⟨e, _⟩) <;> omega
  · have := (h.sets j hj).2; omega
  · have := (h.sets j hj).2; omega
  · rintro k hk (e | e | ⟨e, _⟩)
    · exact .inl e
    · exact .inr (.inl e)
    · omega

theorem L1.put (h : L1 w2 wr S R nr cr ru M m n vs A ob i oi cn f ab) {b : Nat} (hb : SetAt wr b (appW m ru (vs i) nr)) (hbb : w2.heap.size ≤ b) (hi : i < n) (hS : S < w2.heap.size) (hM : M < w2.heap.size) (hA : A < w2.heap.size ∧ ¬ A = S ∧ ¬ A = M) (hob : ob < w2.heap.size ∧ ¬ ob = A)
    (hr : ∀ k, k < nr → ¬ R = A ∧ ¬ (ru k).hb = A ∧ ¬ (ru k).lb = A) : L1 w2 (wr.setCell ⟨A, i, none⟩ (setV b m)) S R nr cr ru M m n vs A ob (i + 1) oi cn f (fun j => if j = i then b else ab j) := by
  obtain ⟨cs, h1, h2, h3⟩ := h.row
  have hf : Fr (fun k => k = A) wr (wr.setCell ⟨A, i, none⟩ (setV b m)) := (Fr.refl (fun k => k = A) wr).setCell (p := ⟨A, i, none⟩) rfl _
  obtain ⟨kv, hk, hkv⟩ := h.srch.key
  have hkA : ∀ k, kv.ownBlock = some k → ¬ k = A := fun k hk e => by
    rcases hkv with rfl | ⟨g, c, xs, rfl, ho⟩
    · simp [Value.ownBlock] at hk
    · have := (ho.lt k hk).1; omega
  refine ⟨⟨h.srch.rules.keep hf (by omega) hr, h.srch.cache.keep hf (by omega), hf.cell (p := ⟨S, 12, none⟩) (by show ¬ S = A; omega) h.srch.map, (hf.frozen (p := ⟨S, 13, none⟩) (by show ¬ S = A; omega) (World.block_lt_of_cell? wr _ hk)).trans h.srch.free, ⟨kv, hf.cell (p := ⟨S, 13, none⟩) (by show ¬ S = A; omega) hk, ?_⟩, fun v c hv hc => ?_, ?_⟩, ?_, fun j hj => ?_, h.some'.keep hf hob.2, h.fr.trans (hf.mono (fun k _ e => .inr (.inr (.inl e)))), fun o ho => ?_⟩
  · rcases hkv with rfl | ⟨g, c, xs, rfl, ho⟩
    · exact .inl rfl
    · exact .inr ⟨g, c, xs, rfl, hf.owns ho hkA⟩
  · obtain ⟨a1, a2⟩ := h.srch.sets v c hv hc
    exact ⟨a1.keep hf (by omega), a2⟩
  · exact Nat.le_trans h.srch.le hf.size
  · refine ⟨cs.setIfInBounds i (setV b m), heap_setCell_same wr A i _ 29 _ h1, by simpa using h2, fun j hj => ?_⟩
    by_cases e : j = i
    · subst e
      have : j < cs.size := by omega
      simp [this]
    · rw [Array.getElem?_setIfInBounds_ne (by omega), h3 j (by omega)]
      simp [e]
  · by_cases e : j = i
    · subst e
      simp only [if_true]
      exact ⟨hb.keep hf (by omega), hbb⟩
    · simp only [if_neg e]
      have := h.sets j (by omega)
      exact ⟨this.1.keep hf (by omega), this.2⟩
  · exact (World.cell?_of_block (hf.block S (by have := h.srch.le; omega) (by omega))).trans (h.hs o ho)

theorem L1.incl (h : L1 w2 wr S R nr cr ru M m n vs A ob (i + 1) i cn f ab) (hso : SetAt w' ob (orAcc m ru vs nr (i + 1))) (hf : Fr (fun k => k = ob) wr w') (hS : S < w2.heap.size) (hM : M < w2.heap.size) (hob : ob < w2.heap.size ∧ ¬ ob = A ∧ ¬ ob = S ∧ ¬ ob = M)
    (hr : ∀ k, k < nr → ¬ R = ob ∧ ¬ (ru k).hb = ob ∧ ¬ (ru k).lb = ob) : L1 w2 w' S R nr cr ru M m n vs A ob (i + 1) (i + 1) cn f ab := by
  obtain ⟨cs, h1, h2, h3⟩ := h.row
  obtain ⟨kv, hk, hkv⟩ := h.srch.key
  have hkA : ∀ k, kv.ownBlock = some k → ¬ k = ob := fun k hk e => by
    rcases hkv with rfl | ⟨g, c, xs, rfl, ho⟩
    · simp [Value.ownBlock] at hk
    · have := (ho.lt k hk).1; omega
  refine ⟨⟨h.srch.rules.keep hf (by omega) hr, h.srch.cache.keep hf (by omega), hf.cell (p := ⟨S, 12, none⟩) (by show ¬ S = ob; omega) h.srch.map, (hf.frozen (p := ⟨S, 13, none⟩) (by show ¬ S = ob; omega) (World.block_lt_of_cell? wr _ hk)).trans h.srch.free, ⟨kv, hf.cell (p := ⟨S, 13, none⟩) (by show ¬ S = ob; omega) hk, ?_⟩, fun v c hv hc => ?_, ?_⟩, ⟨cs, hf.heap (by omega) h1, h2, h3⟩, fun j hj => ?_, hso, h.fr.trans (hf.mono (fun k _ e => .inr (.inr (.inr e)))), fun o ho => ?_⟩
  · rcases hkv with rfl | ⟨g, c, xs, rfl, ho⟩
    · exact .inl rfl
    · exact .inr ⟨g, c, xs, rfl, hf.owns ho hkA⟩
  · obtain ⟨a1, a2⟩ := h.srch.sets v c hv hc
    exact ⟨a1.keep hf (by omega), a2⟩
  · exact Nat.le_trans h.srch.le hf.size
  · have := h.sets j hj
    exact ⟨this.1.keep hf (by omega), this.2⟩
  · exact (World.cell?_of_block (hf.block S (by have := h.srch.le; omega) (by omega))).trans (h.hs o ho)
end

theorem ChIn.lts {w : World} {S R nr cr : Nat} {ru : Nat → Ru} {M m C n : Nat} {cb : Nat → Nat} {vs : Nat → Int} {fx : Option (Nat × Int)} {Bs Bb Bg Bc Bt stop : Nat} (H : ChIn w S R nr cr ru M m C n cb vs fx Bs Bb Bg Bc Bt stop) :
    S < w.heap.size ∧ M < w.heap.size ∧ (∀ k, k < nr → R < w.heap.size ∧ (ru k).hb < w.heap.size ∧ (ru k).lb < w.heap.size) ∧ (∀ i, i < n → C < w.heap.size ∧ cb i < w.heap.size) ∧ Bs < w.heap.size ∧ Bt < w.heap.size ∧ Bg < w.heap.size ∧ Bc < w.heap.size ∧ 1 < w.heap.size := by
  refine ⟨World.block_lt_of_cell? w _ H.map, ?_, fun k hk => ⟨World.block_lt_of_cell? w _ (H.rules.at' k hk).c0, (H.rules.at' k hk).hh.lt, (H.rules.at' k hk).hl.lt⟩, fun i hi => ⟨World.block_lt_of_cell? w _ (H.cls.c0 i hi), (H.cls.s i hi).lt⟩, World.block_lt_of_cell? w _ H.bs, World.block_lt_of_cell? w _ H.bt, World.block_lt_of_cell? w _ H.g0, World.block_lt_of_cell? w _ H.c0, World.block_lt_of_cell? w _ (H.tab 0 (by omega))⟩
  · obtain ⟨D, hD, _⟩ := H.cache.map
    exact hD.lt

theorem L1.start {w w10 : World} {S R nr cr : Nat} {ru : Nat → Ru} {M m C n : Nat} {cb : Nat → Nat} {vs : Nat → Int} {fx : Option (Nat × Int)} {Bs Bb Bg Bc Bt stop A ob : Nat} (H : ChIn w S R nr cr ru M m C n cb vs fx Bs Bb Bg Bc Bt stop) (F : Fr (fun _ => False) w w10)
    (eA : w10.heap[A]? = some (.cells (Array.replicate n (.slice none 0 0)) 29 (0, 0))) (hs : SetAt w10 ob (List.replicate m 0)) : L1 w10 w10 S R nr cr ru M m n vs A ob 0 0 0 (fun _ => none) (fun _ => 0) :=
  ⟨⟨H.rules.keep F (fun h => h) (fun _ _ => ⟨fun h => h, fun h => h, fun h => h⟩), H.cache.keep F (fun h => h), F.cell (fun h => h) H.map, (F.frozen (p := ⟨S, 13, none⟩) (fun h => h) (World.block_lt_of_cell? w _ H.key)).trans H.free, ⟨_, F.cell (fun h => h) H.key, .inl rfl⟩, fun v b hv hb => by simp at hb, Nat.le_refl _⟩,
   ⟨_, eA, by simp, fun j hj => by omega⟩, fun j hj => by omega, hs, Fr.refl _ _, fun _ _ => rfl⟩

theorem ChIn.fast {w : World} {S R nr cr : Nat} {ru : Nat → Ru} {M m C n : Nat} {cb : Nat → Nat} {vs : Nat → Int} {fx : Option (Nat × Int)} {Bs Bb Bg Bc Bt stop : Nat} (H : ChIn w S R nr cr ru M m C n cb vs fx Bs Bb Bg Bc Bt stop) {base : Nat} (hb : w.heap.size ≤ base) : Fast S R nr M base ru := by
  obtain ⟨l1, l2, l3, _⟩ := H.lts
  exact ⟨by omega, H.ms, by omega, fun k hk => by have := l3 k hk; omega, H.rs, H.rm⟩

/-- Between two rounds of the second loop. -/
def IP (wB : World) (N : Nums) (ru : Nat → Ru) (vs : Nat → Int) (ks : List Nat) (W : World) : Prop :=
  GotAt W wB.heap.size N.Bg N.Bc (flat ru vs N.n N.hv ks) ∧ (∃ x, SetAt W N.sb [x]) ∧ Fr (Out N.Bg N.Bc N.sb) wB W ∧ Unhit N.stop (flat ru vs N.n N.hv ks)
/-- Stopped. -/
def IX (wB : World) (N : Nums) (ru : Nat → Ru) (vs : Nat → Int) (ks : List Nat) (W : World) : Prop :=
  ∃ L, GotAt W wB.heap.size N.Bg N.Bc L ∧ Fr (Out N.Bg N.Bc N.sb) wB W ∧ L <+: flat ru vs N.n N.hv ks ∧ L.length = N.stop ∧ 0 < N.stop

theorem own_fr {W W' : World} {row : Option Nat} (hg : W.grownBy W' row) : Fr (fun q => row = some q) W W' := (Fr.refl _ W).grown hg (fun _ h _ => h)

theorem IP.own {wB : World} {N : Nums} {ru : Nat → Ru} {vs : Nat → Int} {nr : Nat} (hg : N.Bg < wB.heap.size) (hc : N.Bc < wB.heap.size) (hs : N.sb < wB.heap.size) : OwnFrom wB.heap.size (fun (pre : List { k : Nat // k < nr }) W => IP wB N ru vs (pre.map (·.1)) W) := by
  rintro s W W' row ⟨h1, ⟨x, h2⟩, h3, h4⟩ hgr hr
  have hf := own_fr hgr
  exact ⟨h1.own hf hg hc (fun q e => hr q e), ⟨x, h2.keep hf (fun e => by have := (hr _ e).1; omega)⟩, h3.transNew hf (fun i hi e => by have := (hr _ e).1; omega), h4⟩
theorem IX.own {wB : World} {N : Nums} {ru : Nat → Ru} {vs : Nat → Int} {nr : Nat} (hg : N.Bg < wB.heap.size) (hc : N.Bc < wB.heap.size) (c : Code) : OwnFrom wB.heap.size (fun (pre : List { k : Nat // k < nr }) W => c = Code.ret ∧ IX wB N ru vs (pre.map (·.1)) W) := by
  rintro s W W' row ⟨hcc, L, h1, h3, h4, h5⟩ hgr hr
  have hf := own_fr hgr
  exact ⟨hcc, L, h1.own hf hg hc (fun q e => hr q e), h3.transNew hf (fun i hi e => by have := (hr _ e).1; omega), h4, h5⟩

def nums (S R nr cr m C n A hbk : Nat) (hv : Int) (b3 b4 b5 b6 b7 b8 sb Bs Bb Bg Bc Bt stop : Nat) : Nums := ⟨S, R, nr, cr, m, C, n, A, hbk, hv, b3, b4, b5, b6, b7, b8, sb, Bs, Bb, Bg, Bc, Bt, stop⟩

theorem env_start {w w10 wr wB : World} {S R nr cr : Nat} {ru : Nat → Ru} {M m C n : Nat} {cb : Nat → Nat} {vs : Nat → Int} {fx : Option (Nat × Int)} {Bs Bb Bg Bc Bt stop A ob cn b3 b4 b5 b6 b7 b8 sb hbk : Nat} {f : Int → Option Nat} {ab : Nat → Nat} {hv : Int}
    (H : ChIn w S R nr cr ru M m C n cb vs fx Bs Bb Bg Bc Bt stop) (F : Fr (fun _ => False) w w10) (hL : L1 w10 wr S R nr cr ru M m n vs A ob n n cn f ab) (hB : Fr (fun _ => False) wr wB)
    (e3 : w10.cell? ⟨b3, 0, none⟩ = some (.pointer (some ⟨S, 0, none⟩))) (e4 : w10.cell? ⟨b4, 0, none⟩ = some (.slice (some ⟨C, 0, none⟩) n n))
    (e5 : w10.cell? ⟨b5, 0, none⟩ = some (.func (.func 4) #[] #[.pointer (some ⟨Bs, 0, none⟩), .pointer (some ⟨Bb, 0, none⟩), .pointer (some ⟨Bg, 0, none⟩), .pointer (some ⟨Bc, 0, none⟩), .pointer (some ⟨Bt, 0, none⟩)]))
    (e6 : w10.cell? ⟨b6, 0, none⟩ = some (.slice (some ⟨sb, 0, none⟩) 1 1)) (e7 : w10.cell? ⟨b7, 0, none⟩ = some (.slice (some ⟨hbk, 0, none⟩) 1 1)) (e8 : w10.cell? ⟨b8, 0, none⟩ = some (.slice (some ⟨A, 0, none⟩) n n))
    (hS : SetAt w10 sb [0]) (hH : SetAt w10 hbk [hv]) (hnr : nr ≤ 256) (hn : n ≤ 256) (hm : m = (nr + 63) / 64) (hst : stop ≤ 255)
    (Z : w.heap.size = b3 ∧ b4 = b3 + 1 ∧ b5 = b3 + 2 ∧ sb = b3 + 3 ∧ b6 = b3 + 4 ∧ hbk = b3 + 5 ∧ hbk ≤ b7 ∧ A = b7 + 1 ∧ b8 = b7 + 2 ∧ ob = b7 + 3 ∧ w10.heap.size = ob + 1) :
    Env wB (nums S R nr cr m C n A hbk hv b3 b4 b5 b6 b7 b8 sb Bs Bb Bg Bc Bt stop) ru cb vs ab ∧ EnvOk (nums S R nr cr m C n A hbk hv b3 b4 b5 b6 b7 b8 sb Bs Bb Bg Bc Bt stop) ru cb ab ∧
      IP wB (nums S R nr cr m C n A hbk hv b3 b4 b5 b6 b7 b8 sb Bs Bb Bg Bc Bt stop) ru vs [] wB ∧ SetAt wB ob (orAcc m ru vs nr n) ∧ (∀ j, j < 64 → wB.cell? ⟨1, j, none⟩ = some (.int .u8 (tab.getD j 0 : Nat))) ∧ Fr (fun k => k = S ∨ k = M) w wB := by
  obtain ⟨z1, z2, z3, z4, z5, z6, z7, z8, z9, z10, z11⟩ := Z
  obtain ⟨l1, l2, l3, l4, l5, l6, l7, l8, l9⟩ := H.lts
  have F2 : Fr (fun k => k = S ∨ k = M ∨ k = A ∨ k = ob) w10 wB := hL.fr.trans (hB.mono (fun _ _ h => h.elim))
  have Fw : Fr (fun k => k = S ∨ k = M ∨ k = A ∨ k = ob) w wB := (F.mono (fun _ _ h => h.elim)).trans F2
  have hSB : ∀ o, ¬ o = 13 → wB.cell? ⟨S, o, none⟩ = w.cell? ⟨S, o, none⟩ := fun o ho => ((World.cell?_of_block (hB.block S (by have := hL.fr.size; omega) (fun h => h))).trans (hL.hs o ho)).trans (World.cell?_of_block (F.block S l1 (fun h => h)))
  obtain ⟨cs, g1, g2, g3⟩ := hL.row
  have g1B := hB.heap (fun h => h) g1
  have h5 := H.cl
  have nA : ∀ x, x < w.heap.size → ¬ x = S → ¬ x = M → ¬ (x = S ∨ x = M ∨ x = A ∨ x = ob) := fun x h a b => by
    rintro (e | e | e | e)
    · exact a e
    · exact b e
    · omega
    · omega
  have nN : ∀ x, w.heap.size ≤ x → ¬ x = A → ¬ x = ob → ¬ (x = S ∨ x = M ∨ x = A ∨ x = ob) := fun x h a b => by
    rintro (e | e | e | e)
    · omega
    · omega
    · exact a e
    · exact b e
  have nO : ∀ x, x < w.heap.size → ¬ x = Bg → ¬ x = Bc → ¬ Out Bg Bc sb x := fun x h a b => by
    rintro (e | e | e)
    · exact a e
    · exact b e
    · omega
  have nP : ∀ x, w.heap.size ≤ x → ¬ x = sb → ¬ Out Bg Bc sb x := fun x h a => by
    rintro (e | e | e)
    · omega
    · omega
    · exact a e
  refine ⟨?_, ?_, ?_, hL.some'.keep hB (fun h => h), ?_, ?_⟩
  · exact { r2 := (hSB 2 (by omega)).trans H.rules.s
            rule := fun k hk => (H.rules.at' k hk).keep Fw (nA _ (l3 k hk).1 (H.rs k hk).1 (H.rm k hk).1) (nA _ (l3 k hk).2.1 (H.rs k hk).2.1 (H.rm k hk).2.1) (nA _ (l3 k hk).2.2 (H.rs k hk).2.2 (H.rm k hk).2.2)
            rows := fun k hk => by
              rcases H.rows with e | ⟨cs, t, e⟩
              · exact absurd hk (by show ¬ k < nr; omega)
              · exact ⟨cs, t, Fw.heap (nA _ (l3 k hk).1 (H.rs k hk).1 (H.rm k hk).1) e⟩
            c3 := F2.cell (nN b3 (by omega) (by omega) (by omega)) e3
            c4 := F2.cell (nN b4 (by omega) (by omega) (by omega)) e4
            c5 := F2.cell (nN b5 (by omega) (by omega) (by omega)) e5
            c6 := F2.cell (nN b6 (by omega) (by omega) (by omega)) e6
            c7 := F2.cell (nN b7 (by omega) (by omega) (by omega)) e7
            c8 := F2.cell (nN b8 (by omega) (by omega) (by omega)) e8
            row := fun j hj => (cells_of_block g1B j).trans (g3 j hj)
            sets := fun j hj => (hL.sets j hj).1.keep hB (fun h => h)
            cls := H.cls.keep Fw (nA _ h5 H.cs.1 H.cs.2.1) (fun i hi => nA _ (l4 i hi).2 (H.cbs i hi).1 (H.cbs i hi).2.1)
            held := hH.keep F2 (nN hbk (by omega) (by omega) (by omega))
            bs := Fw.cell (nA _ l5 H.bsx.1 H.bsx.2.1) H.bs
            bt := Fw.cell (nA _ l6 H.btx.1 H.btx.2.1) H.bt }
  · exact { s := nO _ l1 H.sx.1 H.sx.2
            r := fun k hk => ⟨nO _ (l3 k hk).1 (H.rg k hk).1 (H.rc k hk).1, nO _ (l3 k hk).2.1 (H.rg k hk).2.1 (H.rc k hk).2.1, nO _ (l3 k hk).2.2 (H.rg k hk).2.2 (H.rc k hk).2.2⟩
            b3 := nP b3 (by omega) (by omega)
            b4 := nP b4 (by omega) (by omega)
            b5 := nP b5 (by omega) (by omega)
            b6 := nP b6 (by omega) (by omega)
            b7 := nP b7 (by omega) (by omega)
            b8 := nP b8 (by omega) (by omega)
            a := nP A (by omega) (by omega)
            ab := fun j hj => nP _ (by have := (hL.sets j hj).2; omega) (by have := (hL.sets j hj).2; omega)
            c := nO _ h5 H.cs.2.2.1 H.cs.2.2.2
            cb := fun j hj => nO _ (l4 j hj).2 (H.cbs j hj).2.2.1 (H.cbs j hj).2.2.2
            h := nP hbk (by omega) (by omega)
            bs := nO _ l5 H.bsx.2.2.1 H.bsx.2.2.2
            bt := nO _ l6 H.btx.2.2.1 H.btx.2.2.2
            gc := H.gc
            gs := fun e => by have e : Bg = sb := e; omega
            cs := fun e => by have e : Bc = sb := e; omega
            adm := fun k hk => ⟨H.adm k hk, H.rules.role k hk⟩
            nr := hnr
            n := hn
            m := hm
            st := hst }
  · refine ⟨⟨⟨.slice none 0 0, Fw.cell (nA _ l7 (fun e => H.sx.1 e.symm) (fun e => H.mx.1 e.symm)) H.g0, World.ownsRow_nil _ _ _ _⟩, (Fw.frozen (p := ⟨Bg, 0, none⟩) (nA _ l7 (fun e => H.sx.1 e.symm) (fun e => H.mx.1 e.symm)) l7).trans H.gf, Fw.cell (nA _ l8 (fun e => H.sx.2 e.symm) (fun e => H.mx.2 e.symm)) H.c0, (Fw.frozen (p := ⟨Bc, 0, none⟩) (nA _ l8 (fun e => H.sx.2 e.symm) (fun e => H.mx.2 e.symm)) l8).trans H.cf⟩, ⟨0, hS.keep F2 (nN sb (by omega) (by omega) (by omega))⟩, Fr.refl _ _, ?_⟩
    show stop = 0 ∨ (flat ru vs n hv []).length < stop
    simp [flat]
    omega
  · intro j hj
    exact Fw.cell (p := ⟨1, j, none⟩) (nA _ l9 H.tx.1 H.tx.2.1) (H.tab j hj)
  · exact Fw.mono (fun k hk h => by
      rcases h with e | e | e | e
      · exact .inl e
      · exact .inr e
      · omega
      · omega)

end Go.Proofs.YbulkdbsgDoor
