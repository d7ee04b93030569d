/-
  THE PLAIN LAWS of add and drop: no Go in sight.
-/
import Derived.Test.YbulkdbsgDrop
namespace Go.Proofs.Ybulkdbsg
open Go.RowKit
set_option linter.unusedVariables false
set_option linter.unusedSimpArgs false

theorem wrap64_id {x : Int} (h1 : -9223372036854775808 ≤ x) (h2 : x ≤ 9223372036854775807) : wrap64 x = x := by
  unfold wrap64; omega
theorem wrap64_sub (x y : Int) : wrap64 (wrap64 x - y) = wrap64 (x - y) := by
  unfold wrap64; omega
theorem wrap64_add (x y : Int) : wrap64 (wrap64 x + y) = wrap64 (x + y) := by
  unfold wrap64; omega
theorem wrap64_twice (x : Int) : wrap64 (wrap64 x) = wrap64 x := by
  unfold wrap64; omega

theorem getD_set_same {l : List Int} {p : Nat} {x : Int} (h : p < l.length) : (l.set p x).getD p 0 = x := by
  simp [List.getD, h]
theorem getD_set_ne {l : List Int} {p q : Nat} {x : Int} (h : ¬ p = q) : (l.set p x).getD q 0 = l.getD q 0 := by
  simp [List.getD, List.getElem?_set_ne h]

theorem filter_congr_mem {l : List Nat} {f g : Nat → Bool} (h : ∀ x ∈ l, f x = g x) : l.filter f = l.filter g := List.filter_congr h

/-- One profile added: its permissions' counts rise by one; 'missing' falls by as many as were at zero. -/
theorem fold_add (pl : List Nat) : ∀ (hd : List Int) (m : Int), pl.Nodup → (∀ p ∈ pl, p < hd.length) → wrap64 m = m →
    (pl.foldl addStep (hd, m)).1.length = hd.length ∧
    (∀ p, (pl.foldl addStep (hd, m)).1.getD p 0 = if p ∈ pl then wrap64 (hd.getD p 0 + 1) else hd.getD p 0) ∧
    (pl.foldl addStep (hd, m)).2 = wrap64 (m - ((pl.filter fun p => hd.getD p 0 == 0).length : Int)) := by
  induction pl with
  | nil => intro hd m _ _ hm; simp [hm]
  | cons a pl ih =>
    intro hd m hnd hlt hm
    have hna : a ∉ pl := (List.nodup_cons.1 hnd).1
    have hpl := (List.nodup_cons.1 hnd).2
    have hal : a < hd.length := hlt a (by simp)
    have hne : ∀ p ∈ pl, ¬ a = p := fun p hp e => hna (e ▸ hp)
    have hm2 : wrap64 (addStep (hd, m) a).2 = (addStep (hd, m) a).2 := by
      simp only [addStep]; split
      · exact wrap64_twice _
      · exact hm
    obtain ⟨h1, h2, h3⟩ := ih (addStep (hd, m) a).1 (addStep (hd, m) a).2 hpl (fun p hp => by simp only [addStep, List.length_set]; exact hlt p (by simp [hp])) hm2
    rw [List.foldl_cons]
    have ep : ((addStep (hd, m) a).1, (addStep (hd, m) a).2) = addStep (hd, m) a := rfl
    rw [ep] at h1 h2 h3
    refine ⟨by rw [h1]; simp [addStep], fun p => ?_, ?_⟩
    · rw [h2 p]
      by_cases hpa : a = p
      · subst hpa
        rw [if_neg hna, if_pos (by simp)]
        simp only [addStep]
        exact getD_set_same hal
      · have e : (addStep (hd, m) a).1.getD p 0 = hd.getD p 0 := by simp only [addStep]; exact getD_set_ne hpa
        rw [e]
        simp [List.mem_cons, Ne.symm (a := a) hpa]
    · rw [h3]
      have ef : (pl.filter fun p => (addStep (hd, m) a).1.getD p 0 == 0) = pl.filter fun p => hd.getD p 0 == 0 :=
        filter_congr_mem fun p hp => by simp only [addStep]; rw [getD_set_ne (hne p hp)]
      rw [ef, List.filter_cons]
      cases h0 : (hd.getD a 0 == 0) with
      | true =>
        simp only [addStep, h0, if_true, List.length_cons]
        rw [wrap64_sub]
        congr 1
        omega
      | false =>
        simp only [addStep, h0]
        simp

/-- One profile dropped: its permissions' counts fall by one; 'missing' rises by as many as come to zero. -/
theorem fold_drop (pl : List Nat) : ∀ (hd : List Int) (m : Int), pl.Nodup → (∀ p ∈ pl, p < hd.length) → wrap64 m = m →
    (pl.foldl dropStep (hd, m)).1.length = hd.length ∧
    (∀ p, (pl.foldl dropStep (hd, m)).1.getD p 0 = if p ∈ pl then wrap64 (hd.getD p 0 - 1) else hd.getD p 0) ∧
    (pl.foldl dropStep (hd, m)).2 = wrap64 (m + ((pl.filter fun p => wrap64 (hd.getD p 0 - 1) == 0).length : Int)) := by
  induction pl with
  | nil => intro hd m _ _ hm; simp [hm]
  | cons a pl ih =>
    intro hd m hnd hlt hm
    have hna : a ∉ pl := (List.nodup_cons.1 hnd).1
    have hpl := (List.nodup_cons.1 hnd).2
    have hal : a < hd.length := hlt a (by simp)
    have hne : ∀ p ∈ pl, ¬ a = p := fun p hp e => hna (e ▸ hp)
    have hm2 : wrap64 (dropStep (hd, m) a).2 = (dropStep (hd, m) a).2 := by
      simp only [dropStep]; split
      · exact wrap64_twice _
      · exact hm
    obtain ⟨h1, h2, h3⟩ := ih (dropStep (hd, m) a).1 (dropStep (hd, m) a).2 hpl (fun p hp => by simp only [dropStep, List.length_set]; exact hlt p (by simp [hp])) hm2
    rw [List.foldl_cons]
    have ep : ((dropStep (hd, m) a).1, (dropStep (hd, m) a).2) = dropStep (hd, m) a := rfl
    rw [ep] at h1 h2 h3
    refine ⟨by rw [h1]; simp [dropStep], fun p => ?_, ?_⟩
    · rw [h2 p]
      by_cases hpa : a = p
      · subst hpa
        rw [if_neg hna, if_pos (by simp)]
        simp only [dropStep]
        exact getD_set_same hal
      · have e : (dropStep (hd, m) a).1.getD p 0 = hd.getD p 0 := by simp only [dropStep]; exact getD_set_ne hpa
        rw [e]
        simp [List.mem_cons, Ne.symm (a := a) hpa]
    · rw [h3]
      have ef : (pl.filter fun p => wrap64 ((dropStep (hd, m) a).1.getD p 0 - 1) == 0) = pl.filter fun p => wrap64 (hd.getD p 0 - 1) == 0 :=
        filter_congr_mem fun p hp => by simp only [dropStep]; rw [getD_set_ne (hne p hp)]
      rw [ef, List.filter_cons]
      cases h0 : (wrap64 (hd.getD a 0 - 1) == 0) with
      | true =>
        simp only [dropStep, h0, if_true, List.length_cons]
        rw [wrap64_add]
        congr 1
        omega
      | false =>
        simp only [dropStep, h0]
        simp

theorem plOf_nodup (nP : Nat) (m : Int) : (plOf nP m).Nodup := List.nodup_range.sublist List.filter_sublist
theorem plOf_mem {nP : Nat} {m : Int} {p : Nat} : p ∈ plOf nP m ↔ p < nP ∧ bitB m p = true := by
  simp [plOf]
theorem plOf_lt {nP : Nat} {m : Int} : ∀ p ∈ plOf nP m, p < nP := fun p h => (plOf_mem.1 h).1

/-- How many of the members listed hold permission p. -/
def cntOf (ms : List Int) (l : List Int) (p : Nat) : Nat := (l.filter fun i => bitB (ms.getD i.toNat 0) p).length

theorem cnt_snoc (ms l : List Int) (i : Int) (p : Nat) : cntOf ms (l ++ [i]) p = cntOf ms l p + if bitB (ms.getD i.toNat 0) p then 1 else 0 := by
  simp only [cntOf, List.filter_append, List.length_append]
  have e : ([i].filter fun i => bitB (ms.getD i.toNat 0) p).length = if bitB (ms.getD i.toNat 0) p then 1 else 0 := by
    simp only [List.filter_cons, List.filter_nil]
    split <;> rfl
  rw [e]
theorem cnt_le (ms l : List Int) (p : Nat) : cntOf ms l p ≤ l.length := List.length_filter_le _ _

/-- How many of the permissions below nP no member listed holds. -/
def zerosOf (ms l : List Int) (nP : Nat) : Nat := ((List.range nP).filter fun p => cntOf ms l p == 0).length

theorem zeros_le (ms l : List Int) (nP : Nat) : zerosOf ms l nP ≤ nP := by
  have := List.length_filter_le (fun p => cntOf ms l p == 0) (List.range nP)
  simpa [zerosOf] using this

theorem zeros_succ (ms l : List Int) (p : Nat) : zerosOf ms l (p + 1) = zerosOf ms l p + if cntOf ms l p == 0 then 1 else 0 := by
  simp only [zerosOf, List.range_succ, List.filter_append, List.length_append]
  cases h : (cntOf ms l p == 0) <;> simp [List.filter_cons, h]

/-- A list parted by a test. -/
theorem filter_part (l : List Nat) (f g : Nat → Bool) : (l.filter f).length = (l.filter fun x => f x && !g x).length + ((l.filter g).filter f).length := by
  induction l with
  | nil => rfl
  | cons a l ih =>
    simp only [List.filter_cons]
    cases hf : f a <;> cases hg : g a <;> simp [List.filter_cons, hf, ih] <;> omega

/-- Behind one member more: what was at zero and is not held by it. -/
theorem zeros_snoc (ms l : List Int) (i : Int) (nP : Nat) :
    zerosOf ms l nP = zerosOf ms (l ++ [i]) nP + ((plOf nP (ms.getD i.toNat 0)).filter fun p => cntOf ms l p == 0).length := by
  unfold zerosOf plOf
  rw [filter_part (List.range nP) (fun p => cntOf ms l p == 0) (bitB (ms.getD i.toNat 0))]
  congr 2
  apply List.filter_congr
  intro p _
  rw [cnt_snoc]
  cases h : bitB (ms.getD i.toNat 0) p <;> simp

/-- The counts are those of the members listed. -/
def Good (ms l : List Int) (nP : Nat) (s : List Int × Int) : Prop :=
  s.1.length = nP ∧ (∀ p, p < nP → s.1.getD p 0 = (cntOf ms l p : Int)) ∧ s.2 = (zerosOf ms l nP : Int)

theorem good_start (ms : List Int) (nP : Nat) : Good ms [] nP (List.replicate nP 0, (nP : Int)) := by
  refine ⟨by simp, fun p hp => ?_, ?_⟩
  · simp [List.getD, hp, cntOf]
  · have e : ((List.range nP).filter fun p => cntOf ms [] p == 0) = List.range nP := List.filter_eq_self.2 (fun p _ => rfl)
    simp only [zerosOf, e, List.length_range]

theorem good_add {ms l : List Int} {nP : Nat} {s : List Int × Int} (h : Good ms l nP s) (i : Int) (hl : l.length ≤ 100000) (hP : nP ≤ 64) :
    Good ms (l ++ [i]) nP ((plOf nP (ms.getD i.toNat 0)).foldl addStep s) := by
  obtain ⟨h1, h2, h3⟩ := h
  have hz := zeros_le ms l nP
  have hz' := zeros_le ms (l ++ [i]) nP
  have hs := zeros_snoc ms l i nP
  obtain ⟨g1, g2, g3⟩ := fold_add (plOf nP (ms.getD i.toNat 0)) s.1 s.2 (plOf_nodup _ _) (fun p hp => by rw [h1]; exact plOf_lt p hp) (by rw [h3]; exact wrap64_id (by omega) (by omega))
  have ep : (s.1, s.2) = s := rfl
  rw [ep] at g1 g2 g3
  refine ⟨by rw [g1, h1], fun p hp => ?_, ?_⟩
  · rw [g2 p, cnt_snoc, h2 p hp]
    have := cnt_le ms l p
    by_cases hb : bitB (ms.getD i.toNat 0) p = true
    · rw [if_pos (plOf_mem.2 ⟨hp, hb⟩), if_pos hb, wrap64_id (by omega) (by omega)]
      rfl
    · rw [if_neg (fun e => hb (plOf_mem.1 e).2), if_neg hb]
      rfl
  · rw [g3]
    have ef : ((plOf nP (ms.getD i.toNat 0)).filter fun p => s.1.getD p 0 == 0) = (plOf nP (ms.getD i.toNat 0)).filter fun p => cntOf ms l p == 0 :=
      filter_congr_mem fun p hp => by rw [h2 p (plOf_lt p hp), Bool.eq_iff_iff]; simp
    rw [ef, h3, wrap64_id (by omega) (by omega)]
    omega

theorem good_drop {ms l : List Int} {nP : Nat} {s : List Int × Int} {i : Int} (h : Good ms (l ++ [i]) nP s) (hl : l.length ≤ 100000) (hP : nP ≤ 64) :
    Good ms l nP ((plOf nP (ms.getD i.toNat 0)).foldl dropStep s) := by
  obtain ⟨h1, h2, h3⟩ := h
  have hz := zeros_le ms l nP
  have hz' := zeros_le ms (l ++ [i]) nP
  have hs := zeros_snoc ms l i nP
  obtain ⟨g1, g2, g3⟩ := fold_drop (plOf nP (ms.getD i.toNat 0)) s.1 s.2 (plOf_nodup _ _) (fun p hp => by rw [h1]; exact plOf_lt p hp) (by rw [h3]; exact wrap64_id (by omega) (by omega))
  have ep : (s.1, s.2) = s := rfl
  rw [ep] at g1 g2 g3
  have hval : ∀ p, p < nP → bitB (ms.getD i.toNat 0) p = true → wrap64 (s.1.getD p 0 - 1) = (cntOf ms l p : Int) := fun p hp hb => by
    have := cnt_le ms l p
    rw [h2 p hp, cnt_snoc, if_pos hb, wrap64_id (by omega) (by omega)]
    omega
  refine ⟨by rw [g1, h1], fun p hp => ?_, ?_⟩
  · rw [g2 p]
    by_cases hb : bitB (ms.getD i.toNat 0) p = true
    · rw [if_pos (plOf_mem.2 ⟨hp, hb⟩), hval p hp hb]
    · rw [if_neg (fun e => hb (plOf_mem.1 e).2), h2 p hp, cnt_snoc, if_neg hb]
      rfl
  · rw [g3]
    have ef : ((plOf nP (ms.getD i.toNat 0)).filter fun p => wrap64 (s.1.getD p 0 - 1) == 0) = (plOf nP (ms.getD i.toNat 0)).filter fun p => cntOf ms l p == 0 :=
      filter_congr_mem fun p hp => by rw [hval p (plOf_lt p hp) (plOf_mem.1 hp).2, Bool.eq_iff_iff]; simp
    rw [ef, h3, wrap64_id (by omega) (by omega)]
    omega

end Go.Proofs.Ybulkdbsg
