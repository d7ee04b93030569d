/-
  THE CACHE of applying: a map from keys to sets.
-/
import Derived.Test.YbulkdbsgDoorTz
import Derived.Maps.OwnSet
import Derived.StringKeys
import Derived.Laws.IdiomStrings
namespace Go.Proofs.YbulkdbsgDoor
open Go.RowKit Go.Maps
set_option linter.unusedVariables false

/-- How a set of m words reads: as its block. -/
def Rm (m : Nat) (v : Value) : Option (DataW Unit × List MemPlace) :=
  match v with
  | .slice (some a) l c => if a.off = 0 ∧ a.spot = none ∧ l = m ∧ c = m then some (.lit (.int .i64 a.block), []) else none
  | .slice none 0 0 => some (.nil, [])
  | _ => none

theorem Rm_set (m b : Nat) : Rm m (setV b m) = some (.lit (.int .i64 b), []) := by simp [Rm, setV]
theorem Rm_nil (m : Nat) : Rm m (.slice none 0 0) = some (.nil, []) := by simp [Rm]
theorem Rm_inv {m b : Nat} {v : Value} {ps : List MemPlace} (h : Rm m v = some (.lit (.int .i64 b), ps)) : v = setV b m := by
  unfold Rm at h
  split at h
  · rename_i a l c
    split at h
    · rename_i hc
      simp at h
      obtain ⟨ab, ao, asp⟩ := a
      simp at hc h
      obtain ⟨rfl, rfl, rfl, rfl⟩ := hc
      have : ab = b := by have := h.1; omega
      subst this
      rfl
    · simp at h
  · simp at h
  · simp at h
theorem Rm_nil_inv {m : Nat} {v : Value} {ps : List MemPlace} (h : Rm m v = some (.nil, ps)) : v = .slice none 0 0 := by
  unfold Rm at h
  split at h
  · split at h
    · simp at h
    · simp at h
  · rfl
  · simp at h

/-- The key's string. -/
def ks (v : Int) : ByteArray := ⟨#[UInt8.ofNat v.toNat, 0, 0, 0, 0, 0, 0, 0]⟩
def kl (v : Int) : Lit := .string (ks v).data.toList

theorem kl_inj {v u : Int} (hv : 0 ≤ v ∧ v ≤ 255) (hu : 0 ≤ u ∧ u ≤ 255) (h : kl v = kl u) : v = u := by
  simp [kl, ks] at h
  have := congrArg UInt8.toNat h
  simp at this
  omega

structure CacheAt (w : World) (M n m : Nat) (f : Int → Option Nat) : Prop where
  map : ∃ D : DataW Unit, w.ownsMap Ybad.prog 9 (Rm m) M n D ∧ ∀ v, 0 ≤ v ∧ v ≤ 255 → has D (kl v) = (f v).isSome ∧ D.atKey (kl v) .nil = (match f v with | none => .nil | some b => .lit (.int .i64 b))

theorem zero29 (w : World) : (zeroValue 29).run Ybad.prog w = .ok (.slice none 0 0) w := by kernel_rfl
theorem key_ok (v : Int) : keyOf Ybad.prog 9 (.string (ks v)) = some (kl v) := Go.WideMaps.keyOf_string_mk Ybad.underlying9 (by simp [ks, ByteArray.size, maxLen])

theorem CacheAt.look {w : World} {M n m : Nat} {f : Int → Option Nat} (h : CacheAt w M n m f) {v : Int} (hv : 0 ≤ v ∧ v ≤ 255) :
    (Instr.lookup 25 (.map (some M)) (.string (ks v)) true).run Ybad.prog w = .ok (.tuple #[(match f v with | none => .slice none 0 0 | some b => setV b m), .bool (f v).isSome]) w := by
  obtain ⟨D, hD, hf⟩ := h.map
  obtain ⟨x, ps, hrun, hx⟩ := hD.look_ok (string_keyed Ybad.underlying9) Ybad.underlying25 (zero29 w) (Rm_nil m) (key_ok v)
  obtain ⟨h1, h2⟩ := hf v hv
  rw [hrun, h1]
  rw [h2] at hx
  cases hfv : f v with
  | none => rw [hfv] at hx; rw [Rm_nil_inv hx]
  | some b => rw [hfv] at hx; rw [Rm_inv hx]

theorem CacheAt.put {w : World} {M n m : Nat} {f : Int → Option Nat} (h : CacheAt w M n m f) (hn : n < maxLen) {v : Int} (hv : 0 ≤ v ∧ v ≤ 255) (b : Nat) :
    ∃ w', (Instr.mapUpdate 25 (.map (some M)) (.string (ks v)) (setV b m)).run Ybad.prog w = .ok () w' ∧ CacheAt w' M (n + 1) m (fun u => if u = v then some b else f u) ∧ w.grownBy w' (some M) := by
  obtain ⟨D, hD, hf⟩ := h.map
  obtain ⟨w', hrun, hD', hg⟩ := hD.update (string_keyed Ybad.underlying9) Ybad.underlying25 hn (key_ok v) (Rm_set m b)
  refine ⟨w', hrun, ⟨⟨_, hD', fun u hu => ?_⟩⟩, hg⟩
  by_cases e : u = v
  · subst e
    simp only [if_true]
    exact ⟨has_put_same (k := kl u) hD.isMap trivial _, atKey_put_same (k := kl u) hD.isMap trivial _ _⟩
  · have hk : kl u ≠ kl v := fun h => e (kl_inj hu hv h)
    simp only [if_neg e]
    rw [has_put_other hk, atKey_put_other hk]
    exact hf u hu

/-- string(s.key). -/
theorem conv_key {w : World} {base g c : Nat} {v : Int} (hv : 0 ≤ v ∧ v ≤ 255) (h : w.ownsRow base 5 1 (.slice (some ⟨g, 0, none⟩) 8 c) 8 (keyc v)) :
    (convert 23 9 (.slice (some ⟨g, 0, none⟩) 8 c)).run Ybad.prog w = .ok (.string (ks v)) w := by
  refine run_convert_bytes_back (P := Ybad.prog) w 23 9 5 ⟨g, 0, none⟩ c [UInt8.ofNat v.toNat, 0, 0, 0, 0, 0, 0, 0] Ybad.underlying23 Ybad.underlying5 Ybad.underlying9 (fun j hj => ?_)
  rw [Addr.add_lit, Nat.zero_add, h.cellAt j (by simpa using hj)]
  have e : ((UInt8.ofNat v.toNat).toNat : Int) = v := by simp; omega
  match j, hj with
  | 0, _ => simp only [keyc, List.getElem?_cons_zero, List.getElem_cons_zero, e]
  | 1, _ => rfl
  | 2, _ => rfl
  | 3, _ => rfl
  | 4, _ => rfl
  | 5, _ => rfl
  | 6, _ => rfl
  | 7, _ => rfl

theorem CacheAt.keep {w w' : World} {M n m : Nat} {f : Int → Option Nat} (h : CacheAt w M n m f) {P : Nat → Prop} (hf : Fr P w w') (hM : ¬ P M) : CacheAt w' M n m f := by
  obtain ⟨D, ⟨es, clock, hb, F, hs, hD⟩, hh⟩ := h.map
  exact ⟨⟨D, ⟨es, clock, hf.heap hM hb, F, hs, hD⟩, hh⟩⟩
end Go.Proofs.YbulkdbsgDoor
