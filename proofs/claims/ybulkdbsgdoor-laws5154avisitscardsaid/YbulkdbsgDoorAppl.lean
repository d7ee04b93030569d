/-
  CONTRACT of applying.
-/
import Derived.Test.YbulkdbsgDoorCache
namespace Go.Proofs.YbulkdbsgDoor
open Go.RowKit
set_option linter.unusedVariables false

/-- The rules in memory: ru k = (revoke, admin, holds' block, lacks' block, role, holds, lacks). -/
structure Ru where
  rv : Bool
  adm : Nat
  hb : Nat
  lb : Nat
  role : Nat
  h : Int
  l : Int

def rulesV (R nr cr : Nat) : Value := if nr = 0 then .slice none 0 0 else .slice (some ⟨R, 0, none⟩) nr cr

structure RulesAt (w : World) (S R nr cr : Nat) (ru : Nat → Ru) : Prop where
  s : w.cell? ⟨S, 2, none⟩ = some (rulesV R nr cr)
  words : w.cell? ⟨S, 1, none⟩ = some (.int .i64 1)
  le : nr ≤ cr
  at' : ∀ k, k < nr → RuleAt w R (k * 5) (ru k).rv (ru k).adm (ru k).hb (ru k).lb (ru k).role (ru k).h (ru k).l
  role : ∀ k, k < nr → (ru k).role < 8

def okR (r : Ru) (v : Int) : Bool := okB r.rv r.role r.h r.l v

/-- The words of the rules that apply to v, the first k looked at. -/
def appW (m : Nat) (ru : Nat → Ru) (v : Int) : Nat → List Int
  | 0 => List.replicate m 0
  | k + 1 => if okR (ru k) v then (appW m ru v k).set (k / 64) (addI ((appW m ru v k).getD (k / 64) 0) k) else appW m ru v k
theorem appW_len (m : Nat) (ru : Nat → Ru) (v : Int) (k : Nat) : (appW m ru v k).length = m := by
  induction k with
  | zero => simp [appW]
  | succ k ih => simp only [appW]; split <;> simp [ih]

/-- The key's room. -/
def KeyV (w : World) (base : Nat) (kv : Value) : Prop := kv = .slice none 0 0 ∨ ∃ g c xs, kv = .slice (some ⟨g, 0, none⟩) 8 c ∧ w.ownsRow base 5 1 kv 8 xs

theorem KeyV.cut {w : World} {base g c : Nat} {xs : List Value} (h : w.ownsRow base 5 1 (.slice (some ⟨g, 0, none⟩) 8 c) 8 xs) : w.ownsRow base 5 1 (.slice (some ⟨g, 0, none⟩) 0 c) 0 [] ∧ 8 ≤ c := by
  rcases h.2 with ⟨e, _⟩ | ⟨g', cap, cur, e, h1, h2, h3, h4, h5, h6⟩
  · cases e
  · cases e
    exact ⟨⟨rfl, .inr ⟨g, c, cur, rfl, h1, h2, by omega, h4, h5, by simp⟩⟩, h3⟩

theorem row_not_map {w : World} {base M n m : Nat} {kv : Value} {c : Nat} {xs : List Value} {f : Int → Option Nat} (h : w.ownsRow base 5 1 kv c xs) (hc : CacheAt w M n m f) : ¬ kv.ownBlock = some M := by
  intro e
  obtain ⟨D, ⟨es, clock, hb, _⟩, _⟩ := hc.map
  rcases h.2 with ⟨rfl, _⟩ | ⟨g, cap, cur, rfl, _, hg, _⟩
  · simp [Value.ownBlock] at e
  · simp [Value.ownBlock] at e
    subst e
    rw [hb] at hg
    cases hg

attribute [local go_sem] make1
set_option maxHeartbeats 4000000 in
theorem appl_old (S R nr cr : Nat) (ru : Nat → Ru) (M n m base sb : Nat) (f : Int → Option Nat) (v : Int) (b : Nat) (w : World) (hr : RulesAt w S R nr cr ru) (hc : CacheAt w M n m f) (hM : w.cell? ⟨S, 12, none⟩ = some (.map (some M))) (kv : Value)
    (hk : w.cell? ⟨S, 13, none⟩ = some kv) (hkf : w.frozen? ⟨S, 13, none⟩ = false) (hkv : KeyV w base kv) (hbase : base ≤ w.heap.size) (hS : S < base) (hv : 0 ≤ v ∧ v ≤ 255) (hs : SetAt w sb [v]) (hMk : ¬ kv.ownBlock = some M) (hMS : ¬ M = S) (hf : f v = some b) :
    Calls Ybad.prog 8 #[.pointer (some ⟨S, 0, none⟩), setV sb 1] w fun e w' => e = .returned (setV b m) ∧ ∃ kv', w'.cell? ⟨S, 13, none⟩ = some kv' ∧ w'.ownsRow base 5 1 kv' 8 (keyc v) ∧ (w'.frozen? ⟨S, 13, none⟩ = false ∧ ∀ o, ¬ o = 13 → w'.cell? ⟨S, o, none⟩ = w.cell? ⟨S, o, none⟩) ∧ Fr (fun k => k = S ∨ kv.ownBlock = some k) w w' := by
  rcases hkv with rfl | ⟨g, c, xs, rfl, hown⟩
  · have hkey := key_any sb (.slice none 0 0) v hv base w hs (World.ownsRow_nil _ _ _ _) hbase
    unfold setV at hkey ⊢
    go_enter Ybad.func8, Ybad.ntmps8
    go_wp2_with (go_at_call 14; go_must (refine hkey.mono ?_; rintro e w1 ⟨v', he, ho, hf1⟩; rw [he]; clear he e; obtain ⟨g1, c1, rfl, hg1, hle1, hlt1⟩ := owns_pos ho (by omega); have hk1 := hf1.cell (by simp [Value.ownBlock]) hk; have hkf1 : w1.frozen? ⟨S, 13, none⟩ = false := (hf1.frozen (p := ⟨S, 13, none⟩) (by simp [Value.ownBlock]) (World.block_lt_of_cell? w _ hk)).trans hkf; have hM1 := hf1.cell (by simp [Value.ownBlock]) hM; have hc1 := hc.keep hf1 (by simp [Value.ownBlock]); clear hkey))
    have FS : Fr (fun k => k = S) w1 (w1.setCell ⟨S, 13, none⟩ (.slice (some ⟨g1, 0, none⟩) 8 c1)) := (Fr.refl (fun k => k = S) w1).setCell (p := ⟨S, 13, none⟩) rfl _
    have ho2 := FS.owns ho (fun k h e => by simp [Value.ownBlock] at h; omega)
    have hc2 := hc1.keep FS hMS
    have HO2 : Hid _ := ho2
    generalize hw2 : w1.setCell ⟨S, 13, none⟩ (.slice (some ⟨g1, 0, none⟩) 8 c1) = w2 at FS ho2 hc2 HO2 ⊢
    have k13 : w2.cell? ⟨S, 13, none⟩ = some (.slice (some ⟨g1, 0, none⟩) 8 c1) := by rw [← hw2]; exact World.cell?_setCell_same _ _ _ hk1
    have kS : Hid (w2.frozen? ⟨S, 13, none⟩ = false ∧ ∀ o, ¬ o = 13 → w2.cell? ⟨S, o, none⟩ = w.cell? ⟨S, o, none⟩) := ⟨by rw [← hw2, World.frozen?_setCell]; exact hkf1, fun o ho => by rw [← hw2, World.cell?_setCell_other _ _ _ _ (by intro e; cases e; exact ho rfl)]; exact World.cell?_of_block (hf1.block S (World.block_lt_of_cell? w _ hk) (by simp [Value.ownBlock]))⟩
    have k12 : w2.cell? ⟨S, 12, none⟩ = some (.map (some M)) := by rw [← hw2, World.cell?_setCell_other _ _ _ _ (by intro e; cases e)]; exact hM1
    have hcv : (convert 23 9 (.slice (some ⟨g1, 0, none⟩) 8 c1)).run Ybad.prog w2.drew = .ok (.string (ks v)) w2.drew := conv_key hv (w := w2.drew) ho2
    have hlk := CacheAt.look (w := w2.drew) ⟨hc2.map⟩ hv
    rw [hf] at hlk
    unfold setV at hlk
    simp only [Option.isSome_some] at hlk
    clear ho2 hc2
    go_region
    go_wp2
    go_ret
    exact ⟨rfl, _, k13, HO2.out, kS.out, ((hf1.mono (fun k _ h => .inr h)).trans (FS.mono (fun k _ h => .inl h))).drew⟩
  · obtain ⟨hown0, hc8⟩ := KeyV.cut hown
    have hkey := key_any sb (.slice (some ⟨g, 0, none⟩) 0 c) v hv base w hs hown0 hbase
    have hgb : base ≤ g := (hown.lt g rfl).1
    have hMg : ¬ g = M := fun e => hMk (by simp [Value.ownBlock, e])
    have hgS : ¬ g = S := by omega
    have hcI : (0 : Int) ≤ c := by omega
    unfold setV at hkey ⊢
    go_enter Ybad.func8, Ybad.ntmps8
    go_wp2_with (go_at_call 14; go_must (refine hkey.mono ?_; rintro e w1 ⟨v', he, ho, hf1⟩; rw [he]; clear he e; obtain ⟨g1, c1, rfl, hg1, hle1, hlt1⟩ := owns_pos ho (by omega); have hk1 := hf1.cell (by simp [Value.ownBlock]; exact hgS) hk; have hkf1 : w1.frozen? ⟨S, 13, none⟩ = false := (hf1.frozen (p := ⟨S, 13, none⟩) (by simp [Value.ownBlock]; exact hgS) (World.block_lt_of_cell? w _ hk)).trans hkf; have hM1 := hf1.cell (by simp [Value.ownBlock]; exact hgS) hM; have hc1 := hc.keep hf1 (by simp [Value.ownBlock]; exact hMg); clear hkey))
    have FS : Fr (fun k => k = S) w1 (w1.setCell ⟨S, 13, none⟩ (.slice (some ⟨g1, 0, none⟩) 8 c1)) := (Fr.refl (fun k => k = S) w1).setCell (p := ⟨S, 13, none⟩) rfl _
    have ho2 := FS.owns ho (fun k h e => by simp [Value.ownBlock] at h; omega)
    have hc2 := hc1.keep FS hMS
    have HO2 : Hid _ := ho2
    generalize hw2 : w1.setCell ⟨S, 13, none⟩ (.slice (some ⟨g1, 0, none⟩) 8 c1) = w2 at FS ho2 hc2 HO2 ⊢
    have k13 : w2.cell? ⟨S, 13, none⟩ = some (.slice (some ⟨g1, 0, none⟩) 8 c1) := by rw [← hw2]; exact World.cell?_setCell_same _ _ _ hk1
    have kS : Hid (w2.frozen? ⟨S, 13, none⟩ = false ∧ ∀ o, ¬ o = 13 → w2.cell? ⟨S, o, none⟩ = w.cell? ⟨S, o, none⟩) := ⟨by rw [← hw2, World.frozen?_setCell]; exact hkf1, fun o ho => by rw [← hw2, World.cell?_setCell_other _ _ _ _ (by intro e; cases e; exact ho rfl)]; exact World.cell?_of_block (hf1.block S (World.block_lt_of_cell? w _ hk) (by simp [Value.ownBlock]; exact hgS))⟩
    have k12 : w2.cell? ⟨S, 12, none⟩ = some (.map (some M)) := by rw [← hw2, World.cell?_setCell_other _ _ _ _ (by intro e; cases e)]; exact hM1
    have hcv : (convert 23 9 (.slice (some ⟨g1, 0, none⟩) 8 c1)).run Ybad.prog w2.drew = .ok (.string (ks v)) w2.drew := conv_key hv (w := w2.drew) ho2
    have hlk := CacheAt.look (w := w2.drew) ⟨hc2.map⟩ hv
    rw [hf] at hlk
    unfold setV at hlk
    simp only [Option.isSome_some] at hlk
    clear ho2 hc2
    go_region
    go_wp2
    go_ret
    exact ⟨rfl, _, k13, HO2.out, kS.out, ((hf1.mono (fun k _ h => .inr h)).trans (FS.mono (fun k _ h => .inl h))).drew⟩
theorem RulesAt.keep {w w' : World} {S R nr cr : Nat} {ru : Nat → Ru} (h : RulesAt w S R nr cr ru) {P : Nat → Prop} (hf : Fr P w w') (h0 : ¬ P S) (h1 : ∀ k, k < nr → ¬ P R ∧ ¬ P (ru k).hb ∧ ¬ P (ru k).lb) : RulesAt w' S R nr cr ru :=
  ⟨hf.cell h0 h.s, hf.cell h0 h.words, h.le, fun k hk => (h.at' k hk).keep hf (h1 k hk).1 (h1 k hk).2.1 (h1 k hk).2.2, h.role⟩

set_option maxHeartbeats 8000000 in
theorem appl_new1 (S R nr cr : Nat) (ru : Nat → Ru) (M n m base sb : Nat) (f : Int → Option Nat) (v : Int) (w : World) (hr : RulesAt w S R nr cr ru) (hc : CacheAt w M n m f) (hM : w.cell? ⟨S, 12, none⟩ = some (.map (some M))) (kv : Value)
    (hk : w.cell? ⟨S, 13, none⟩ = some kv) (hkf : w.frozen? ⟨S, 13, none⟩ = false) (hkv : kv = .slice none 0 0) (hbase : base ≤ w.heap.size) (hS : S < base) (hv : 0 ≤ v ∧ v ≤ 255) (hs : SetAt w sb [v]) (hMS : ¬ M = S) (hf : f v = none)
    (hnr : nr ≤ 256) (hm : m = (nr + 63) / 64) (hn : n ≤ 1000) (hsS : ¬ sb = S) (hrS : ∀ k, k < nr → ¬ R = S ∧ ¬ (ru k).hb = S ∧ ¬ (ru k).lb = S) :
    Calls Ybad.prog 8 #[.pointer (some ⟨S, 0, none⟩), setV sb 1] w fun e w' => ∃ b kv', e = .returned (setV b m) ∧ w.heap.size ≤ b ∧ SetAt w' b (appW m ru v nr) ∧ CacheAt w' M (n + 1) m (fun u => if u = v then some b else f u) ∧
      w'.cell? ⟨S, 13, none⟩ = some kv' ∧ w'.ownsRow base 5 1 kv' 8 (keyc v) ∧ (w'.frozen? ⟨S, 13, none⟩ = false ∧ ∀ o, ¬ o = 13 → w'.cell? ⟨S, o, none⟩ = w.cell? ⟨S, o, none⟩) ∧ Fr (fun k => k = S ∨ k = M ∨ kv.ownBlock = some k) w w' := by
  subst hkv
  have HM : Hid _ := hm
  have hkey := key_any sb (.slice none 0 0) v hv base w hs (World.ownsRow_nil _ _ _ _) hbase
  unfold setV at hkey ⊢
  go_enter Ybad.func8, Ybad.ntmps8
  go_wp2_with (go_at_call 14; go_must (refine hkey.mono ?_; rintro e w1 ⟨v', he, ho, hf1⟩; rw [he]; clear he e; obtain ⟨g1, c1, rfl, hg1, hle1, hlt1⟩ := owns_pos ho (by omega); have hk1 := hf1.cell (by simp [Value.ownBlock]) hk; have hkf1 : w1.frozen? ⟨S, 13, none⟩ = false := (hf1.frozen (p := ⟨S, 13, none⟩) (by simp [Value.ownBlock]) (World.block_lt_of_cell? w _ hk)).trans hkf; have hM1 := hf1.cell (by simp [Value.ownBlock]) hM; have hc1 := hc.keep hf1 (by simp [Value.ownBlock]); clear hkey))
  have FS : Fr (fun k => k = S) w1 (w1.setCell ⟨S, 13, none⟩ (.slice (some ⟨g1, 0, none⟩) 8 c1)) := (Fr.refl (fun k => k = S) w1).setCell (p := ⟨S, 13, none⟩) rfl _
  have ho2 := FS.owns ho (fun k h e => by simp [Value.ownBlock] at h; omega)
  have hc2 := hc1.keep FS hMS
  have FW : Fr (fun k => k = S) w (w1.setCell ⟨S, 13, none⟩ (.slice (some ⟨g1, 0, none⟩) 8 c1)) := (hf1.mono (fun k _ h => by simp [Value.ownBlock] at h)).trans FS
  have s2 := (hs.keep FW hsS)
  have HO2 : Hid _ := ho2
  generalize hw2 : w1.setCell ⟨S, 13, none⟩ (.slice (some ⟨g1, 0, none⟩) 8 c1) = w2 at FS FW ho2 hc2 HO2 s2 ⊢
  have k13 : w2.cell? ⟨S, 13, none⟩ = some (.slice (some ⟨g1, 0, none⟩) 8 c1) := by rw [← hw2]; exact World.cell?_setCell_same _ _ _ hk1
  have kS : Hid (w2.frozen? ⟨S, 13, none⟩ = false ∧ ∀ o, ¬ o = 13 → w2.cell? ⟨S, o, none⟩ = w.cell? ⟨S, o, none⟩) := ⟨by rw [← hw2, World.frozen?_setCell]; exact hkf1, fun o ho => by rw [← hw2, World.cell?_setCell_other _ _ _ _ (by intro e; cases e; exact ho rfl)]; exact World.cell?_of_block (hf1.block S (World.block_lt_of_cell? w _ hk) (by simp [Value.ownBlock]))⟩
  have k12 : w2.cell? ⟨S, 12, none⟩ = some (.map (some M)) := by rw [← hw2, World.cell?_setCell_other _ _ _ _ (by intro e; cases e)]; exact hM1
  have k2 : w2.cell? ⟨S, 2, none⟩ = some (rulesV R nr cr) := by rw [← hw2, World.cell?_setCell_other _ _ _ _ (by intro e; cases e)]; exact hf1.cell (by simp [Value.ownBlock]) hr.s
  have k1 : w2.cell? ⟨S, 1, none⟩ = some (.int .i64 1) := by rw [← hw2, World.cell?_setCell_other _ _ _ _ (by intro e; cases e)]; exact hf1.cell (by simp [Value.ownBlock]) hr.words
  have r2 : Hid (∀ k, k < nr → RuleAt w2 R (k * 5) (ru k).rv (ru k).adm (ru k).hb (ru k).lb (ru k).role (ru k).h (ru k).l) := fun k hk => (hr.at' k hk).keep FW (hrS k hk).1 (hrS k hk).2.1 (hrS k hk).2.2
  have hcv : (convert 23 9 (.slice (some ⟨g1, 0, none⟩) 8 c1)).run Ybad.prog w2.drew = .ok (.string (ks v)) w2.drew := conv_key hv (w := w2.drew) ho2
  have hlk := CacheAt.look (w := w2.drew) ⟨hc2.map⟩ hv
  rw [hf] at hlk
  simp only [Option.isSome_none] at hlk
  have HC2 : Hid _ := hc2
  clear ho2 hc2 hw2
  go_region
  obtain ⟨ra, rc, hrv, hra⟩ : ∃ ra rc, rulesV R nr cr = .slice ra nr rc ∧ (0 < nr → ra = some ⟨R, 0, none⟩) := by
    unfold rulesV
    by_cases h : nr = 0
    · exact ⟨none, 0, by simp [h], fun h => by omega⟩
    · exact ⟨some ⟨R, 0, none⟩, cr, by simp [h], fun _ => rfl⟩
  rw [hrv] at k2
  have F3 : Fr (fun k => k = S) w w2.drew := FW.drew
  have k13' : w2.drew.cell? ⟨S, 13, none⟩ = some (.slice (some ⟨g1, 0, none⟩) 8 c1) := k13
  have k12' : w2.drew.cell? ⟨S, 12, none⟩ = some (.map (some M)) := k12
  have k2' : w2.drew.cell? ⟨S, 2, none⟩ = some (.slice ra nr rc) := k2
  have k1' : w2.drew.cell? ⟨S, 1, none⟩ = some (.int .i64 1) := k1
  have r3 : Hid (∀ k, k < nr → RuleAt w2.drew R (k * 5) (ru k).rv (ru k).adm (ru k).hb (ru k).lb (ru k).role (ru k).h (ru k).l) := fun k hk => (r2.out k hk).keep ((Fr.refl (fun _ => False) w2).drew) (fun h => h) (fun h => h) (fun h => h)
  have s3 : SetAt w2.drew sb [v] := s2
  have kS3 : Hid (w2.drew.frozen? ⟨S, 13, none⟩ = false ∧ ∀ o, ¬ o = 13 → w2.drew.cell? ⟨S, o, none⟩ = w.cell? ⟨S, o, none⟩) := kS.out
  have HC3 : Hid (CacheAt w2.drew M n m f) := ⟨HC2.out.map⟩
  have HO3 : Hid (w2.drew.ownsRow base 5 1 (.slice (some ⟨g1, 0, none⟩) 8 c1) 8 (keyc v)) := HO2.out
  generalize w2.drew = w3 at F3 k13' k12' k2' k1' r3 s3 kS3 HC3 HO3 ⊢
  clear hlk hcv kS HC2 HO2 r2 s2 k1 k2 k12 k13 FW FS hk1 hkf1 hM1 hc1 ho hf1 w2
  have hnw := new_any nr w3 (by omega)
  rw [← hm] at hnw
  clear hm
  unfold setV at hnw
  go_wp2_with (go_at_call 7; go_must (refine hnw.mono ?_; rintro e w4 ⟨he, hset4, hsz4, hf4⟩; rw [he]; clear he e; have q13 := hf4.cell (fun h => h) k13'; have q12 := hf4.cell (fun h => h) k12'; have q2 := hf4.cell (fun h => h) k2'; have q1 := hf4.cell (fun h => h) k1'; have q2a : ∀ o, (w4.alloc o).cell? ⟨S, 2, none⟩ = some (.slice ra nr rc) := (fun o => ((Fr.refl (fun _ => False) w4).alloc o).cell (fun h => h) q2)))
  have s4 := s3.keep hf4 (fun h => h)
  have r4 : Hid (∀ k, k < nr → RuleAt w4 R (k * 5) (ru k).rv (ru k).adm (ru k).hb (ru k).lb (ru k).role (ru k).h (ru k).l) := fun k hk => (r3.out k hk).keep hf4 (fun h => h) (fun h => h) (fun h => h)
  have l4 : Hid (S < w3.heap.size ∧ sb < w3.heap.size ∧ M < w3.heap.size ∧ ∀ k, k < nr → R < w3.heap.size ∧ (ru k).hb < w3.heap.size ∧ (ru k).lb < w3.heap.size) := by
    refine ⟨World.block_lt_of_cell? w3 _ k13', s3.lt, ?_, fun k hk => ⟨World.block_lt_of_cell? w3 _ (r3.out k hk).c0, (r3.out k hk).hh.lt, (r3.out k hk).hl.lt⟩⟩
    obtain ⟨D, hD, _⟩ := HC3.out.map
    exact hD.lt
  go_loopw [51] (fun t wr => ∃ (k : Nat) (x : Int), k ≤ nr ∧ t = .int .i64 k ∧ SetAt wr w3.heap.size (appW m ru v k) ∧ SetAt wr (w3.heap.size + 1) [x] ∧ Fr (fun q => q = w3.heap.size ∨ q = w3.heap.size + 1) w4 wr) (fun t _ => nr - (intOf t).toNat)
  case atStart => exact ⟨0, 0, Nat.zero_le _, rfl, hset4.keep ((Fr.refl (fun _ => False) w4).alloc _) (fun h => h), by rw [← hsz4]; exact heap_alloc_new w4 _, (Fr.refl _ _).alloc _⟩
  case round =>
    obtain ⟨k, x, hk', rfl, hsA, hsN, hfr⟩ := hrel
    obtain ⟨lS, lsb, lM, lru⟩ := l4.out
    have q2r := hfr.cell (p := ⟨S, 2, none⟩) (by show ¬ (S = _ ∨ S = _); omega) q2
    by_cases hlt : k < nr
    · obtain rfl := hra (by omega)
      obtain ⟨lR, lhb, llb⟩ := lru k hlt
      have hltI : (k : Int) < nr := by omega
      have hru := (r4.out k hlt).keep hfr (by omega) (by omega) (by omega)
      have hap := apply_any R (k * 5) (w3.heap.size + 1) sb _ _ _ _ _ _ _ v x wr hru hsN (s4.keep hfr (by omega)) (by have := hr.role k hlt; omega) (by omega)
      have HW : Hid (appW m ru v (k + 1) = if okR (ru k) v then (appW m ru v k).set (k / 64) (addI ((appW m ru v k).getD (k / 64) 0) k) else appW m ru v k) := rfl
      have hok : okB (ru k).rv (ru k).role (ru k).h (ru k).l v = okR (ru k) v := rfl
      rw [hok] at hap
      have hlen := appW_len m ru v k
      have hkm : k / 64 < m := by rw [HM.out]; omega
      generalize nxI (ru k).rv (ru k).role v = nx at hap
      generalize okR (ru k) v = ok at hap HW
      unfold setV at hap
      clear hok hru lru
      cases ok with
      | true =>
        have had : ∀ w', SetAt w' w3.heap.size (appW m ru v k) → Calls Ybad.prog 15 #[.slice (some ⟨w3.heap.size, 0, none⟩) m m, .int .i64 k] w' fun e w'' => e = .returned (.tuple #[]) ∧ SetAt w'' w3.heap.size ((appW m ru v k).set (k / 64) (addI ((appW m ru v k).getD (k / 64) 0) k)) ∧ Fr (fun q => q = w3.heap.size) w' w'' := fun w' hw' => by
          have := add_any w3.heap.size (appW m ru v k) k w' hw' (by omega) (by rw [hlen, HM.out]; omega)
          rw [hlen] at this
          exact this
        go_wp2_with (first
          | (go_at_call 12; go_must (refine hap.mono ?_; rintro e w5 ⟨he, hs5, hf5⟩; rw [he]; clear he e; have hA5 := hsA.keep hf5 (by omega)))
          | (go_at_call 15; go_must (refine (had _ hA5).mono ?_; rintro e w6 ⟨he, hs6, hf6⟩; rw [he]; clear he e)))
        go_roundw
        case rel => exact ⟨k + 1, _, by omega, by go_num, by rw [HW.out]; exact hs6, hs5.keep hf6 (by omega), (hfr.trans (hf5.mono (fun q _ h => .inr h))).trans (hf6.mono (fun q _ h => .inl h))⟩
        case measure => simp [intOf]; omega
      | false =>
        go_wp2_with (first
          | (go_at_call 12; go_must (refine hap.mono ?_; rintro e w5 ⟨he, hs5, hf5⟩; rw [he]; clear he e; have hA5 := hsA.keep hf5 (by omega))))
        go_roundw
        case rel => exact ⟨k + 1, _, by omega, by go_num, by rw [HW.out]; exact hA5, hs5, hfr.trans (hf5.mono (fun q _ h => .inr h))⟩
        case measure => simp [intOf]; omega
    · obtain rfl : nr = k := by omega
      have hltI : ¬ (nr : Int) < nr := by omega
      have F34 : Fr (fun q => q = w3.heap.size ∨ q = w3.heap.size + 1) w4 wr.drew := hfr.drew
      have hlg : g1 < w3.heap.size := (HO3.out.lt g1 rfl).2
      have hcR := (HC3.out.keep hf4 (fun h => h)).keep F34 (by omega)
      have hoR := F34.owns (hf4.owns HO3.out (fun _ _ h => h)) (fun q h e => by simp [Value.ownBlock] at h; omega)
      have q13r := F34.cell (p := ⟨S, 13, none⟩) (by show ¬ (S = _ ∨ S = _); omega) q13
      have q12r := F34.cell (p := ⟨S, 12, none⟩) (by show ¬ (S = _ ∨ S = _); omega) q12
      have p13 : wr.cell? ⟨S, 13, none⟩ = some (.slice (some ⟨g1, 0, none⟩) 8 c1) := q13r
      have p12 : wr.cell? ⟨S, 12, none⟩ = some (.map (some M)) := q12r
      have hcv := conv_key hv hoR
      obtain ⟨w9, hrun, hc9, hg9⟩ := hcR.put (by unfold maxLen; omega) hv w3.heap.size
      unfold setV at hrun
      have HA : Hid _ := hsA
      have HO : Hid _ := hoR
      clear hoR
      go_wp2
      go_region
      go_wp2
      go_ret
      have F9 : Fr (fun q => q = M) wr.drew w9 := (Fr.refl _ _).grown hg9 (fun q h _ => by cases h; rfl)
      have hgM := row_not_map HO3.out HC3.out
      have z3 := F3.size
      refine ⟨w3.heap.size, _, rfl, z3, SetAt.keep (w := wr.drew) HA.out F9 (by omega), hc9, F9.cell (p := ⟨S, 13, none⟩) (fun e => hMS e.symm) q13r, F9.owns HO.out (fun q h e => hgM (by rw [h, e])), ⟨?_, fun o ho => ?_⟩, ?_⟩
      · exact ((F9.frozen (p := ⟨S, 13, none⟩) (fun e => hMS e.symm) (by have := F34.size; have := hf4.size; show S < _; omega)).trans ((F34.frozen (p := ⟨S, 13, none⟩) (by show ¬ (S = _ ∨ S = _); omega) (by have := hf4.size; show S < _; omega)).trans (hf4.frozen (p := ⟨S, 13, none⟩) (fun h => h) lS))).trans kS3.out.1
      · rw [← kS3.out.2 o ho]
        exact ((World.cell?_of_block (F9.block S (by have := F34.size; have := hf4.size; omega) (fun e => hMS e.symm))).trans (World.cell?_of_block (F34.block S (by have := hf4.size; omega) (by omega)))).trans (World.cell?_of_block (hf4.block S lS (fun h => h)))
      refine Fr.transNew (Fr.transNew ((F3.mono (Q := fun k => k = S ∨ k = M ∨ (Value.slice none 0 0).ownBlock = some k) (fun q _ h => .inl h)).trans (hf4.mono (fun q _ h => h.elim))) F34 (fun q hq h => by omega)) F9 (fun q _ h => .inr (.inl h))
set_option maxHeartbeats 8000000 in
theorem appl_new2 (S R nr cr : Nat) (ru : Nat → Ru) (M n m base sb : Nat) (f : Int → Option Nat) (v : Int) (w : World) (hr : RulesAt w S R nr cr ru) (hc : CacheAt w M n m f) (hM : w.cell? ⟨S, 12, none⟩ = some (.map (some M))) (kv : Value)
    (hk : w.cell? ⟨S, 13, none⟩ = some kv) (hkf : w.frozen? ⟨S, 13, none⟩ = false) (g c : Nat) (xs : List Value) (hkv : kv = .slice (some ⟨g, 0, none⟩) 8 c) (hown : w.ownsRow base 5 1 kv 8 xs) (hsb : sb < base) (hrb : ∀ k, k < nr → R < base ∧ (ru k).hb < base ∧ (ru k).lb < base) (hbase : base ≤ w.heap.size) (hS : S < base) (hv : 0 ≤ v ∧ v ≤ 255) (hs : SetAt w sb [v]) (hMS : ¬ M = S) (hf : f v = none)
    (hnr : nr ≤ 256) (hm : m = (nr + 63) / 64) (hn : n ≤ 1000) (hsS : ¬ sb = S) (hrS : ∀ k, k < nr → ¬ R = S ∧ ¬ (ru k).hb = S ∧ ¬ (ru k).lb = S) :
    Calls Ybad.prog 8 #[.pointer (some ⟨S, 0, none⟩), setV sb 1] w fun e w' => ∃ b kv', e = .returned (setV b m) ∧ w.heap.size ≤ b ∧ SetAt w' b (appW m ru v nr) ∧ CacheAt w' M (n + 1) m (fun u => if u = v then some b else f u) ∧
      w'.cell? ⟨S, 13, none⟩ = some kv' ∧ w'.ownsRow base 5 1 kv' 8 (keyc v) ∧ (w'.frozen? ⟨S, 13, none⟩ = false ∧ ∀ o, ¬ o = 13 → w'.cell? ⟨S, o, none⟩ = w.cell? ⟨S, o, none⟩) ∧ Fr (fun k => k = S ∨ k = M ∨ kv.ownBlock = some k) w w' := by
  subst hkv
  have HM : Hid _ := hm
  obtain ⟨hown0, hc8⟩ := KeyV.cut hown
  have hkey := key_any sb (.slice (some ⟨g, 0, none⟩) 0 c) v hv base w hs hown0 hbase
  have hgb : base ≤ g := (hown.lt g rfl).1
  have hMg : ¬ g = M := fun e => row_not_map hown hc (by simp [Value.ownBlock, e])
  have hgS : ¬ g = S := by omega
  have hcI : (0 : Int) ≤ c := by omega
  unfold setV at hkey ⊢
  go_enter Ybad.func8, Ybad.ntmps8
  go_wp2_with (go_at_call 14; go_must (refine hkey.mono ?_; rintro e w1 ⟨v', he, ho, hf1⟩; rw [he]; clear he e; obtain ⟨g1, c1, rfl, hg1, hle1, hlt1⟩ := owns_pos ho (by omega); have hk1 := hf1.cell (by simp [Value.ownBlock]; exact hgS) hk; have hkf1 : w1.frozen? ⟨S, 13, none⟩ = false := (hf1.frozen (p := ⟨S, 13, none⟩) (by simp [Value.ownBlock]; exact hgS) (World.block_lt_of_cell? w _ hk)).trans hkf; have hM1 := hf1.cell (by simp [Value.ownBlock]; exact hgS) hM; have hc1 := hc.keep hf1 (by simp [Value.ownBlock]; exact hMg); clear hkey))
  have FS : Fr (fun k => k = S) w1 (w1.setCell ⟨S, 13, none⟩ (.slice (some ⟨g1, 0, none⟩) 8 c1)) := (Fr.refl (fun k => k = S) w1).setCell (p := ⟨S, 13, none⟩) rfl _
  have ho2 := FS.owns ho (fun k h e => by simp [Value.ownBlock] at h; omega)
  have hc2 := hc1.keep FS hMS
  have FW : Fr (fun k => k = S ∨ k = g) w (w1.setCell ⟨S, 13, none⟩ (.slice (some ⟨g1, 0, none⟩) 8 c1)) := (hf1.mono (fun k _ h => by simp [Value.ownBlock] at h; omega)).trans (FS.mono (fun k _ h => .inl h))
  have s2 := (hs.keep FW (by omega))
  have HO2 : Hid _ := ho2
  generalize hw2 : w1.setCell ⟨S, 13, none⟩ (.slice (some ⟨g1, 0, none⟩) 8 c1) = w2 at FS FW ho2 hc2 HO2 s2 ⊢
  have k13 : w2.cell? ⟨S, 13, none⟩ = some (.slice (some ⟨g1, 0, none⟩) 8 c1) := by rw [← hw2]; exact World.cell?_setCell_same _ _ _ hk1
  have kS : Hid (w2.frozen? ⟨S, 13, none⟩ = false ∧ ∀ o, ¬ o = 13 → w2.cell? ⟨S, o, none⟩ = w.cell? ⟨S, o, none⟩) := ⟨by rw [← hw2, World.frozen?_setCell]; exact hkf1, fun o ho => by rw [← hw2, World.cell?_setCell_other _ _ _ _ (by intro e; cases e; exact ho rfl)]; exact World.cell?_of_block (hf1.block S (World.block_lt_of_cell? w _ hk) (by simp [Value.ownBlock]; exact hgS))⟩
  have k12 : w2.cell? ⟨S, 12, none⟩ = some (.map (some M)) := by rw [← hw2, World.cell?_setCell_other _ _ _ _ (by intro e; cases e)]; exact hM1
  have k2 : w2.cell? ⟨S, 2, none⟩ = some (rulesV R nr cr) := by rw [← hw2, World.cell?_setCell_other _ _ _ _ (by intro e; cases e)]; exact hf1.cell (by simp [Value.ownBlock]; exact hgS) hr.s
  have k1 : w2.cell? ⟨S, 1, none⟩ = some (.int .i64 1) := by rw [← hw2, World.cell?_setCell_other _ _ _ _ (by intro e; cases e)]; exact hf1.cell (by simp [Value.ownBlock]; exact hgS) hr.words
  have r2 : Hid (∀ k, k < nr → RuleAt w2 R (k * 5) (ru k).rv (ru k).adm (ru k).hb (ru k).lb (ru k).role (ru k).h (ru k).l) := fun k hk => (hr.at' k hk).keep FW (by have := hrb k hk; have := hrS k hk; omega) (by have := hrb k hk; have := hrS k hk; omega) (by have := hrb k hk; have := hrS k hk; omega)
  have hcv : (convert 23 9 (.slice (some ⟨g1, 0, none⟩) 8 c1)).run Ybad.prog w2.drew = .ok (.string (ks v)) w2.drew := conv_key hv (w := w2.drew) ho2
  have hlk := CacheAt.look (w := w2.drew) ⟨hc2.map⟩ hv
  rw [hf] at hlk
  simp only [Option.isSome_none] at hlk
  have HC2 : Hid _ := hc2
  clear ho2 hc2 hw2
  go_region
  obtain ⟨ra, rc, hrv, hra⟩ : ∃ ra rc, rulesV R nr cr = .slice ra nr rc ∧ (0 < nr → ra = some ⟨R, 0, none⟩) := by
    unfold rulesV
    by_cases h : nr = 0
    · exact ⟨none, 0, by simp [h], fun h => by omega⟩
    · exact ⟨some ⟨R, 0, none⟩, cr, by simp [h], fun _ => rfl⟩
  rw [hrv] at k2
  have F3 : Fr (fun k => k = S ∨ k = g) w w2.drew := FW.drew
  have k13' : w2.drew.cell? ⟨S, 13, none⟩ = some (.slice (some ⟨g1, 0, none⟩) 8 c1) := k13
  have k12' : w2.drew.cell? ⟨S, 12, none⟩ = some (.map (some M)) := k12
  have k2' : w2.drew.cell? ⟨S, 2, none⟩ = some (.slice ra nr rc) := k2
  have k1' : w2.drew.cell? ⟨S, 1, none⟩ = some (.int .i64 1) := k1
  have r3 : Hid (∀ k, k < nr → RuleAt w2.drew R (k * 5) (ru k).rv (ru k).adm (ru k).hb (ru k).lb (ru k).role (ru k).h (ru k).l) := fun k hk => (r2.out k hk).keep ((Fr.refl (fun _ => False) w2).drew) (fun h => h) (fun h => h) (fun h => h)
  have s3 : SetAt w2.drew sb [v] := s2
  have kS3 : Hid (w2.drew.frozen? ⟨S, 13, none⟩ = false ∧ ∀ o, ¬ o = 13 → w2.drew.cell? ⟨S, o, none⟩ = w.cell? ⟨S, o, none⟩) := kS.out
  have HC3 : Hid (CacheAt w2.drew M n m f) := ⟨HC2.out.map⟩
  have HO3 : Hid (w2.drew.ownsRow base 5 1 (.slice (some ⟨g1, 0, none⟩) 8 c1) 8 (keyc v)) := HO2.out
  generalize w2.drew = w3 at F3 k13' k12' k2' k1' r3 s3 kS3 HC3 HO3 ⊢
  clear hlk hcv kS HC2 HO2 r2 s2 k1 k2 k12 k13 FW FS hk1 hkf1 hM1 hc1 ho hf1 w2
  have hnw := new_any nr w3 (by omega)
  rw [← hm] at hnw
  clear hm
  unfold setV at hnw
  go_wp2_with (go_at_call 7; go_must (refine hnw.mono ?_; rintro e w4 ⟨he, hset4, hsz4, hf4⟩; rw [he]; clear he e; have q13 := hf4.cell (fun h => h) k13'; have q12 := hf4.cell (fun h => h) k12'; have q2 := hf4.cell (fun h => h) k2'; have q1 := hf4.cell (fun h => h) k1'; have q2a : ∀ o, (w4.alloc o).cell? ⟨S, 2, none⟩ = some (.slice ra nr rc) := (fun o => ((Fr.refl (fun _ => False) w4).alloc o).cell (fun h => h) q2)))
  have s4 := s3.keep hf4 (fun h => h)
  have r4 : Hid (∀ k, k < nr → RuleAt w4 R (k * 5) (ru k).rv (ru k).adm (ru k).hb (ru k).lb (ru k).role (ru k).h (ru k).l) := fun k hk => (r3.out k hk).keep hf4 (fun h => h) (fun h => h) (fun h => h)
  have l4 : Hid (S < w3.heap.size ∧ sb < w3.heap.size ∧ M < w3.heap.size ∧ ∀ k, k < nr → R < w3.heap.size ∧ (ru k).hb < w3.heap.size ∧ (ru k).lb < w3.heap.size) := by
    refine ⟨World.block_lt_of_cell? w3 _ k13', s3.lt, ?_, fun k hk => ⟨World.block_lt_of_cell? w3 _ (r3.out k hk).c0, (r3.out k hk).hh.lt, (r3.out k hk).hl.lt⟩⟩
    obtain ⟨D, hD, _⟩ := HC3.out.map
    exact hD.lt
  go_loopw [51] (fun t wr => ∃ (k : Nat) (x : Int), k ≤ nr ∧ t = .int .i64 k ∧ SetAt wr w3.heap.size (appW m ru v k) ∧ SetAt wr (w3.heap.size + 1) [x] ∧ Fr (fun q => q = w3.heap.size ∨ q = w3.heap.size + 1) w4 wr) (fun t _ => nr - (intOf t).toNat)
  case atStart => exact ⟨0, 0, Nat.zero_le _, rfl, hset4.keep ((Fr.refl (fun _ => False) w4).alloc _) (fun h => h), by rw [← hsz4]; exact heap_alloc_new w4 _, (Fr.refl _ _).alloc _⟩
  case round =>
    obtain ⟨k, x, hk', rfl, hsA, hsN, hfr⟩ := hrel
    obtain ⟨lS, lsb, lM, lru⟩ := l4.out
    have q2r := hfr.cell (p := ⟨S, 2, none⟩) (by show ¬ (S = _ ∨ S = _); omega) q2
    by_cases hlt : k < nr
    · obtain rfl := hra (by omega)
      obtain ⟨lR, lhb, llb⟩ := lru k hlt
      have hltI : (k : Int) < nr := by omega
      have hru := (r4.out k hlt).keep hfr (by omega) (by omega) (by omega)
      have hap := apply_any R (k * 5) (w3.heap.size + 1) sb _ _ _ _ _ _ _ v x wr hru hsN (s4.keep hfr (by omega)) (by have := hr.role k hlt; omega) (by omega)
      have HW : Hid (appW m ru v (k + 1) = if okR (ru k) v then (appW m ru v k).set (k / 64) (addI ((appW m ru v k).getD (k / 64) 0) k) else appW m ru v k) := rfl
      have hok : okB (ru k).rv (ru k).role (ru k).h (ru k).l v = okR (ru k) v := rfl
      rw [hok] at hap
      have hlen := appW_len m ru v k
      have hkm : k / 64 < m := by rw [HM.out]; omega
      generalize nxI (ru k).rv (ru k).role v = nx at hap
      generalize okR (ru k) v = ok at hap HW
      unfold setV at hap
      clear hok hru lru
      cases ok with
      | true =>
        have had : ∀ w', SetAt w' w3.heap.size (appW m ru v k) → Calls Ybad.prog 15 #[.slice (some ⟨w3.heap.size, 0, none⟩) m m, .int .i64 k] w' fun e w'' => e = .returned (.tuple #[]) ∧ SetAt w'' w3.heap.size ((appW m ru v k).set (k / 64) (addI ((appW m ru v k).getD (k / 64) 0) k)) ∧ Fr (fun q => q = w3.heap.size) w' w'' := fun w' hw' => by
          have := add_any w3.heap.size (appW m ru v k) k w' hw' (by omega) (by rw [hlen, HM.out]; omega)
          rw [hlen] at this
          exact this
        go_wp2_with (first
          | (go_at_call 12; go_must (refine hap.mono ?_; rintro e w5 ⟨he, hs5, hf5⟩; rw [he]; clear he e; have hA5 := hsA.keep hf5 (by omega)))
          | (go_at_call 15; go_must (refine (had _ hA5).mono ?_; rintro e w6 ⟨he, hs6, hf6⟩; rw [he]; clear he e)))
        go_roundw
        case rel => exact ⟨k + 1, _, by omega, by go_num, by rw [HW.out]; exact hs6, hs5.keep hf6 (by omega), (hfr.trans (hf5.mono (fun q _ h => .inr h))).trans (hf6.mono (fun q _ h => .inl h))⟩
        case measure => simp [intOf]; omega
      | false =>
        go_wp2_with (first
          | (go_at_call 12; go_must (refine hap.mono ?_; rintro e w5 ⟨he, hs5, hf5⟩; rw [he]; clear he e; have hA5 := hsA.keep hf5 (by omega))))
        go_roundw
        case rel => exact ⟨k + 1, _, by omega, by go_num, by rw [HW.out]; exact hA5, hs5, hfr.trans (hf5.mono (fun q _ h => .inr h))⟩
        case measure => simp [intOf]; omega
    · obtain rfl : nr = k := by omega
      have hltI : ¬ (nr : Int) < nr := by omega
      have F34 : Fr (fun q => q = w3.heap.size ∨ q = w3.heap.size + 1) w4 wr.drew := hfr.drew
      have hlg : g1 < w3.heap.size := (HO3.out.lt g1 rfl).2
      have hcR := (HC3.out.keep hf4 (fun h => h)).keep F34 (by omega)
      have hoR := F34.owns (hf4.owns HO3.out (fun _ _ h => h)) (fun q h e => by simp [Value.ownBlock] at h; omega)
      have q13r := F34.cell (p := ⟨S, 13, none⟩) (by show ¬ (S = _ ∨ S = _); omega) q13
      have q12r := F34.cell (p := ⟨S, 12, none⟩) (by show ¬ (S = _ ∨ S = _); omega) q12
      have p13 : wr.cell? ⟨S, 13, none⟩ = some (.slice (some ⟨g1, 0, none⟩) 8 c1) := q13r
      have p12 : wr.cell? ⟨S, 12, none⟩ = some (.map (some M)) := q12r
      have hcv := conv_key hv hoR
      obtain ⟨w9, hrun, hc9, hg9⟩ := hcR.put (by unfold maxLen; omega) hv w3.heap.size
      unfold setV at hrun
      have HA : Hid _ := hsA
      have HO : Hid _ := hoR
      clear hoR
      go_wp2
      go_region
      go_wp2
      go_ret
      have F9 : Fr (fun q => q = M) wr.drew w9 := (Fr.refl _ _).grown hg9 (fun q h _ => by cases h; rfl)
      have hgM := row_not_map HO3.out HC3.out
      have z3 := F3.size
      refine ⟨w3.heap.size, _, rfl, z3, SetAt.keep (w := wr.drew) HA.out F9 (by omega), hc9, F9.cell (p := ⟨S, 13, none⟩) (fun e => hMS e.symm) q13r, F9.owns HO.out (fun q h e => hgM (by rw [h, e])), ⟨?_, fun o ho => ?_⟩, ?_⟩
      · exact ((F9.frozen (p := ⟨S, 13, none⟩) (fun e => hMS e.symm) (by have := F34.size; have := hf4.size; show S < _; omega)).trans ((F34.frozen (p := ⟨S, 13, none⟩) (by show ¬ (S = _ ∨ S = _); omega) (by have := hf4.size; show S < _; omega)).trans (hf4.frozen (p := ⟨S, 13, none⟩) (fun h => h) lS))).trans kS3.out.1
      · rw [← kS3.out.2 o ho]
        exact ((World.cell?_of_block (F9.block S (by have := F34.size; have := hf4.size; omega) (fun e => hMS e.symm))).trans (World.cell?_of_block (F34.block S (by have := hf4.size; omega) (by omega)))).trans (World.cell?_of_block (hf4.block S lS (fun h => h)))
      refine Fr.transNew (Fr.transNew ((F3.mono (Q := fun k => k = S ∨ k = M ∨ (Value.slice (some ⟨g, 0, none⟩) 8 c).ownBlock = some k) (fun q _ h => by rcases h with h | h; exact .inl h; exact .inr (.inr (by simp [Value.ownBlock, h])))).trans (hf4.mono (fun q _ h => h.elim))) F34 (fun q hq h => by omega)) F9 (fun q _ h => .inr (.inl h))
end Go.Proofs.YbulkdbsgDoor
