/-
  ONE CONTRACT of applying, for the loop of changes.
-/
import Derived.Test.YbulkdbsgDoorAppl
namespace Go.Proofs.YbulkdbsgDoor
open Go.RowKit
set_option linter.unusedVariables false

/-- The search's memory between two calls of applying. -/
structure Srch (w : World) (S R nr cr : Nat) (ru : Nat → Ru) (M n m base : Nat) (f : Int → Option Nat) : Prop where
  rules : RulesAt w S R nr cr ru
  cache : CacheAt w M n m f
  map : w.cell? ⟨S, 12, none⟩ = some (.map (some M))
  free : w.frozen? ⟨S, 13, none⟩ = false
  key : ∃ kv, w.cell? ⟨S, 13, none⟩ = some kv ∧ KeyV w base kv
  sets : ∀ v b, 0 ≤ v ∧ v ≤ 255 → f v = some b → SetAt w b (appW m ru v nr) ∧ base ≤ b
  le : base ≤ w.heap.size

/-- What stands fast. -/
structure Fast (S R nr M base : Nat) (ru : Nat → Ru) : Prop where
  s : S < base
  ms : ¬ M = S
  mb : M < base
  r : ∀ k, k < nr → R < base ∧ (ru k).hb < base ∧ (ru k).lb < base
  rs : ∀ k, k < nr → ¬ R = S ∧ ¬ (ru k).hb = S ∧ ¬ (ru k).lb = S
  rm : ∀ k, k < nr → ¬ R = M ∧ ¬ (ru k).hb = M ∧ ¬ (ru k).lb = M

/-- What a call of applying may turn: the search, the map, rows of bytes. -/
def May (w : World) (S M base : Nat) (k : Nat) : Prop := k = S ∨ k = M ∨ (base ≤ k ∧ ∃ cur, w.heap[k]? = some (.cells cur 5 (0, 0)))

theorem SetAt.notMay {w : World} {b S M base : Nat} {ws : List Int} (h : SetAt w b ws) (h1 : ¬ b = S) (h2 : ¬ b = M) : ¬ May w S M base b := by
  rintro (e | e | ⟨_, cur, e⟩)
  · exact h1 e
  · exact h2 e
  · rw [h] at e; simp at e

theorem own_may {w : World} {base S M : Nat} {kv : Value} (h : KeyV w base kv) : ∀ k, kv.ownBlock = some k → May w S M base k := by
  intro k hk
  rcases h with rfl | ⟨g, c, xs, rfl, hown⟩
  · simp [Value.ownBlock] at hk
  · simp [Value.ownBlock] at hk
    subst hk
    rcases hown.2 with ⟨e, _⟩ | ⟨g', cap, cur, e, hb, hg, _⟩
    · cases e
    · cases e; exact .inr (.inr ⟨hb, cur, hg⟩)

theorem RulesAt.at_search {w w' : World} {S R nr cr : Nat} {ru : Nat → Ru} (h : RulesAt w S R nr cr ru) {P : Nat → Prop} (hf : Fr P w w') (hc : ∀ o, ¬ o = 13 → w'.cell? ⟨S, o, none⟩ = w.cell? ⟨S, o, none⟩) (h1 : ∀ k, k < nr → ¬ P R ∧ ¬ P (ru k).hb ∧ ¬ P (ru k).lb) : RulesAt w' S R nr cr ru :=
  ⟨(hc 2 (by omega)).trans h.s, (hc 1 (by omega)).trans h.words, h.le, fun k hk => (h.at' k hk).keep hf (h1 k hk).1 (h1 k hk).2.1 (h1 k hk).2.2, h.role⟩

theorem appl_any (S R nr cr : Nat) (ru : Nat → Ru) (M n m base sb : Nat) (f : Int → Option Nat) (v : Int) (w : World) (h : Srch w S R nr cr ru M n m base f) (F : Fast S R nr M base ru) (hv : 0 ≤ v ∧ v ≤ 255) (hs : SetAt w sb [v]) (hsb : sb < base) (hsS : ¬ sb = S)
    (hnr : nr ≤ 256) (hm : m = (nr + 63) / 64) (hn : n ≤ 1000) :
    Calls Ybad.prog 8 #[.pointer (some ⟨S, 0, none⟩), setV sb 1] w fun e w' => ∃ b n' f', e = .returned (setV b m) ∧ n' ≤ n + 1 ∧ Srch w' S R nr cr ru M n' m base f' ∧ SetAt w' b (appW m ru v nr) ∧ base ≤ b ∧ (∀ o, ¬ o = 13 → w'.cell? ⟨S, o, none⟩ = w.cell? ⟨S, o, none⟩) ∧ Fr (May w S M base) w w' := by
  obtain ⟨kv, hk, hkv⟩ := h.key
  have hM := own_may (S := S) (M := M) hkv
  have hkb : ∀ k, kv.ownBlock = some k → base ≤ k := by
    intro k hk
    rcases hkv with rfl | ⟨g, c, xs, rfl, hown⟩
    · simp [Value.ownBlock] at hk
    · exact (hown.lt k hk).1
  have hkM : ¬ kv.ownBlock = some M := by
    rcases hkv with rfl | ⟨g, c, xs, rfl, hown⟩
    · simp [Value.ownBlock]
    · exact row_not_map hown h.cache
  have keyOf : ∀ {w' : World} {kv' : Value}, w'.ownsRow base 5 1 kv' 8 (keyc v) → KeyV w' base kv' := by
    intro w' kv' ho
    obtain ⟨g1, c1, rfl, _⟩ := owns_pos ho (by omega)
    exact .inr ⟨g1, c1, _, rfl, ho⟩
  cases hf : f v with
  | some b =>
    obtain ⟨hb, hbb⟩ := h.sets v b hv hf
    refine (appl_old S R nr cr ru M n m base sb f v b w h.rules h.cache h.map kv hk h.free hkv h.le F.s hv hs hkM F.ms hf).mono fun e w' ⟨he, kv', hk', hown', ⟨hfz, hcs⟩, hfr⟩ => ?_
    have hset : ∀ u c, 0 ≤ u ∧ u ≤ 255 → f u = some c → SetAt w' c (appW m ru u nr) ∧ base ≤ c := fun u c hu hc => by
      obtain ⟨h1, h2⟩ := h.sets u c hu hc
      refine ⟨h1.keep hfr ?_, h2⟩
      rintro (e | e)
      · have := F.s; omega
      · rcases hM c e with e1 | e1 | ⟨_, cur, e1⟩
        · have := F.s; omega
        · have := F.mb; omega
        · rw [h1] at e1; simp at e1
    refine ⟨b, n, f, he, by omega, ⟨h.rules.at_search hfr hcs (fun k hk => ?_), h.cache.keep hfr ?_, (hcs 12 (by omega)).trans h.map, hfz, ⟨kv', hk', keyOf hown'⟩, hset, Nat.le_trans h.le hfr.size⟩, (hset v b hv hf).1, hbb, hcs, hfr.mono (fun k _ h => h.elim .inl (hM k))⟩
    · have h1 := F.r k hk
      have h2 := F.rs k hk
      have h3 := hkb R
      have h4 := hkb (ru k).hb
      have h5 := hkb (ru k).lb
      exact ⟨fun h => h.elim h2.1 (fun e => by have := h3 e; omega), fun h => h.elim h2.2.1 (fun e => by have := h4 e; omega), fun h => h.elim h2.2.2 (fun e => by have := h5 e; omega)⟩
    · rintro (e | e)
      · exact F.ms e
      · exact hkM e
  | none =>
    have key : Calls Ybad.prog 8 #[.pointer (some ⟨S, 0, none⟩), setV sb 1] w fun e w' => ∃ b kv', e = .returned (setV b m) ∧ w.heap.size ≤ b ∧ SetAt w' b (appW m ru v nr) ∧ CacheAt w' M (n + 1) m (fun u => if u = v then some b else f u) ∧
      w'.cell? ⟨S, 13, none⟩ = some kv' ∧ w'.ownsRow base 5 1 kv' 8 (keyc v) ∧ (w'.frozen? ⟨S, 13, none⟩ = false ∧ ∀ o, ¬ o = 13 → w'.cell? ⟨S, o, none⟩ = w.cell? ⟨S, o, none⟩) ∧ Fr (fun k => k = S ∨ k = M ∨ kv.ownBlock = some k) w w' := by
      rcases hkv with e | ⟨g, c, xs, e, hown⟩
      · exact appl_new1 S R nr cr ru M n m base sb f v w h.rules h.cache h.map kv hk h.free e h.le F.s hv hs F.ms hf hnr hm hn hsS F.rs
      · exact appl_new2 S R nr cr ru M n m base sb f v w h.rules h.cache h.map kv hk h.free g c xs e hown hsb F.r h.le F.s hv hs F.ms hf hnr hm hn hsS F.rs
    refine key.mono fun e w' ⟨b, kv', he, hlb, hsb', hc', hk', hown', ⟨hfz, hcs⟩, hfr⟩ => ?_
    have hbb : base ≤ b := Nat.le_trans h.le hlb
    refine ⟨b, n + 1, _, he, Nat.le_refl _, ⟨h.rules.at_search hfr hcs (fun k hk => ?_), hc', (hcs 12 (by omega)).trans h.map, hfz, ⟨kv', hk', keyOf hown'⟩, ?_, Nat.le_trans h.le hfr.size⟩, hsb', hbb, hcs, hfr.mono (fun k _ h => h.elim .inl (fun h => h.elim (fun h => .inr (.inl h)) (hM k)))⟩
    · have h1 := F.r k hk
      have h2 := F.rs k hk
      have h6 := F.rm k hk
      have h3 := hkb R
      have h4 := hkb (ru k).hb
      have h5 := hkb (ru k).lb
      exact ⟨fun h => h.elim h2.1 (fun h => h.elim h6.1 (fun e => by have := h3 e; omega)), fun h => h.elim h2.2.1 (fun h => h.elim h6.2.1 (fun e => by have := h4 e; omega)), fun h => h.elim h2.2.2 (fun h => h.elim h6.2.2 (fun e => by have := h5 e; omega))⟩
    · intro u c hu hc
      by_cases e : u = v
      · subst e
        simp at hc
        subst hc
        exact ⟨hsb', hbb⟩
      · rw [if_neg e] at hc
        obtain ⟨h1, h2⟩ := h.sets u c hu hc
        refine ⟨h1.keep hfr ?_, h2⟩
        rintro (e | e | e)
        · have := F.s; omega
        · have := F.mb; omega
        · rcases hM c e with e1 | e1 | ⟨_, cur, e1⟩
          · have := F.s; omega
          · have := F.mb; omega
          · rw [h1] at e1; simp at e1
end Go.Proofs.YbulkdbsgDoor
