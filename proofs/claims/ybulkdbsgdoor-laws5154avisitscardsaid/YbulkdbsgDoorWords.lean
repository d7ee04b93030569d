/-
  THE BITS of the words that applying and Include build. No walk.
-/
import Derived.Test.YbulkdbsgDoorAll
import Derived.Test.YbulkdbsgDoorJoin
namespace Go.Proofs.YbulkdbsgDoor
set_option linter.unusedVariables false

theorem getD_map (us : List Nat) (i : Nat) : (us.map (fun (u : Nat) => (u : Int))).getD i 0 = ((us.getD i 0 : Nat) : Int) := by
  simp only [List.getD, List.getElem?_map]
  cases us[i]? <;> simp

theorem bitI_nat (n : Nat) : bitI n = ((2 ^ (n % 64) : Nat) : Int) := by
  unfold bitI
  have h : 2 ^ (n % 64) < 2 ^ 64 := Nat.pow_lt_pow_right (by omega) (Nat.mod_lt _ (by omega))
  rw [IntKind.wrap_u64]
  have h2 : ((2 : Int) ^ (n % 64)) = ((2 ^ (n % 64) : Nat) : Int) := by simp
  rw [h2]
  generalize 2 ^ (n % 64) = y at h
  omega
theorem bit_lt (n : Nat) : 2 ^ (n % 64) < 18446744073709551616 := by
  have h : 2 ^ (n % 64) < 2 ^ 64 := Nat.pow_lt_pow_right (by omega) (Nat.mod_lt _ (by omega))
  simpa using h

theorem and_bit (u p : Nat) : u &&& 2 ^ p = if u.testBit p then 2 ^ p else 0 := by
  apply Nat.eq_of_testBit_eq
  intro j
  rw [Nat.testBit_and, Nat.testBit_two_pow]
  by_cases e : p = j
  · subst e
    cases h : u.testBit p <;> simp
  · have : decide (p = j) = false := by simp [e]
    rw [this]
    split <;> simp [e]
theorem has_nat (u n : Nat) (hu : u < 18446744073709551616) : hasI (u : Int) n = u.testBit (n % 64) := by
  unfold hasI
  rw [bitI_nat, u64_and_nat u _ hu (bit_lt n), and_bit]
  have := Nat.two_pow_pos (n % 64)
  cases u.testBit (n % 64)
  · simp
  · simp only [if_true]
    generalize 2 ^ (n % 64) = y at this
    simp
    omega
theorem add_nat (u n : Nat) (hu : u < 18446744073709551616) : addI (u : Int) n = ((u ||| 2 ^ (n % 64) : Nat) : Int) := by
  unfold addI
  rw [bitI_nat, u64_or_nat u _ hu (bit_lt n)]

/-- The words ws: m of them, with just the bits P. -/
def WB (ws : List Int) (m : Nat) (P : Nat → Bool) : Prop := ∃ us : List Nat, ws = us.map (fun (u : Nat) => (u : Int)) ∧ us.length = m ∧ (∀ i, us.getD i 0 < 18446744073709551616) ∧ ∀ k, k < 64 * m → bitAt us k = P k

theorem WB.congr {ws : List Int} {m : Nat} {P Q : Nat → Bool} (h : WB ws m P) (e : ∀ k, k < 64 * m → P k = Q k) : WB ws m Q := by
  obtain ⟨us, h1, h2, h3, h4⟩ := h
  exact ⟨us, h1, h2, h3, fun k hk => (h4 k hk).trans (e k hk)⟩

theorem WB.zero (m : Nat) : WB (List.replicate m 0) m (fun _ => false) := by
  have hz : ∀ i, (List.replicate m 0).getD i 0 = 0 := fun i => by
    simp only [List.getD, List.getElem?_replicate]
    split <;> rfl
  refine ⟨List.replicate m 0, by simp, by simp, fun i => by rw [hz]; omega, fun k _ => ?_⟩
  unfold bitAt
  rw [hz]; simp

theorem WB.has {ws : List Int} {m : Nat} {P : Nat → Bool} (h : WB ws m P) {k : Nat} (hk : k < 64 * m) : hasI (ws.getD (k / 64) 0) k = P k := by
  obtain ⟨us, rfl, h2, h3, h4⟩ := h
  rw [getD_map, has_nat _ _ (h3 _)]
  exact h4 k hk

theorem getD_set (us : List Nat) (i j x : Nat) (hi : i < us.length) : (us.set i x).getD j 0 = if j = i then x else us.getD j 0 := by
  simp only [List.getD, List.getElem?_set]
  by_cases e : i = j
  · subst e; simp [hi]
  · have e' : ¬ j = i := fun h => e h.symm
    simp [e, e']

theorem WB.add {ws : List Int} {m : Nat} {P : Nat → Bool} (h : WB ws m P) {k : Nat} (hk : k < 64 * m) : WB (ws.set (k / 64) (addI (ws.getD (k / 64) 0) k)) m (fun j => P j || decide (j = k)) := by
  obtain ⟨us, rfl, h2, h3, h4⟩ := h
  have hi : k / 64 < us.length := by omega
  refine ⟨us.set (k / 64) (us.getD (k / 64) 0 ||| 2 ^ (k % 64)), ?_, by simpa using h2, fun i => ?_, fun j hj => ?_⟩
  · rw [getD_map, add_nat _ _ (h3 _), List.map_set]
  · rw [getD_set _ _ _ _ hi]
    split
    · have := Nat.or_lt_two_pow (n := 64) (by simpa using h3 (k / 64)) (by simpa using bit_lt k)
      simpa using this
    · exact h3 i
  · have := h4 j hj
    unfold bitAt at this ⊢
    rw [getD_set _ _ _ _ hi]
    by_cases e : j / 64 = k / 64
    · rw [if_pos e, Nat.testBit_or, Nat.testBit_two_pow]
      rw [e] at this
      rw [this]
      congr 1
      simp
      omega
    · rw [if_neg e, this]
      have : ¬ j = k := fun h => e (by rw [h])
      simp [this]

theorem orW_nat (us vs : List Nat) (m : Nat) (hu : us.length = m) (hv : vs.length = m) (bu : ∀ i, us.getD i 0 < 18446744073709551616) (bv : ∀ i, vs.getD i 0 < 18446744073709551616) (k : Nat) (hk : k ≤ m) :
    ∃ ws : List Nat, orW (us.map (fun (u : Nat) => (u : Int))) (vs.map (fun (u : Nat) => (u : Int))) k = ws.map (fun (u : Nat) => (u : Int)) ∧ ws.length = m ∧ ∀ i, ws.getD i 0 = if i < k then us.getD i 0 ||| vs.getD i 0 else us.getD i 0 := by
  induction k with
  | zero => exact ⟨us, rfl, hu, fun i => by simp⟩
  | succ k ih =>
    obtain ⟨ws, h1, h2, h3⟩ := ih (by omega)
    refine ⟨ws.set k (us.getD k 0 ||| vs.getD k 0), ?_, by simpa using h2, fun i => ?_⟩
    · simp only [orW]
      rw [h1, getD_map, getD_map, h3 k, if_neg (by omega), u64_or_nat _ _ (bu k) (bv k), List.map_set]
    · rw [getD_set _ _ _ _ (by omega)]
      by_cases e : i = k
      · subst e; simp
      · rw [if_neg e, h3 i]
        by_cases h : i < k
        · rw [if_pos h, if_pos (by omega)]
        · rw [if_neg h, if_neg (by omega)]

theorem WB.or {xs ys : List Int} {m : Nat} {P Q : Nat → Bool} (h : WB xs m P) (g : WB ys m Q) : WB (orW xs ys m) m (fun j => P j || Q j) := by
  obtain ⟨us, rfl, h2, h3, h4⟩ := h
  obtain ⟨vs, rfl, g2, g3, g4⟩ := g
  obtain ⟨ws, e1, e2, e3⟩ := orW_nat us vs m h2 g2 h3 g3 m (Nat.le_refl _)
  refine ⟨ws, e1, e2, fun i => ?_, fun j hj => ?_⟩
  · rw [e3]
    split
    · have := Nat.or_lt_two_pow (n := 64) (by simpa using h3 i) (by simpa using g3 i)
      simpa using this
    · exact h3 i
  · have a := h4 j hj
    have b := g4 j hj
    unfold bitAt at a b ⊢
    rw [e3, if_pos (by omega), Nat.testBit_or, a, b]

theorem appW_bits (m nr : Nat) (ru : Nat → Ru) (v : Int) (k : Nat) (hk : k ≤ 64 * m) : WB (appW m ru v k) m (fun j => decide (j < k) && okR (ru j) v) := by
  induction k with
  | zero => exact (WB.zero m).congr (fun k _ => by simp)
  | succ k ih =>
    have ih := ih (by omega)
    simp only [appW]
    by_cases e : okR (ru k) v = true
    · rw [if_pos e]
      refine (ih.add (k := k) (by omega)).congr (fun j hj => ?_)
      by_cases h : j = k
      · subst h; simp [e]
      · by_cases h1 : j < k
        · have : j < k + 1 := by omega
          simp [h, h1, this]
        · have : ¬ j < k + 1 := by omega
          simp [h, h1, this]
    · rw [if_neg e]
      refine ih.congr (fun j hj => ?_)
      by_cases h : j = k
      · subst h; simp at e; simp [e]
      · by_cases h1 : j < k
        · have : j < k + 1 := by omega
          simp [h1, this]
        · have : ¬ j < k + 1 := by omega
          simp [h1, this]

/-- The words of 'some', the first i classes looked at. -/
def orAcc (m : Nat) (ru : Nat → Ru) (vs : Nat → Int) (nr : Nat) : Nat → List Int
  | 0 => List.replicate m 0
  | i + 1 => orW (orAcc m ru vs nr i) (appW m ru (vs i) nr) m
theorem orAcc_len (m : Nat) (ru : Nat → Ru) (vs : Nat → Int) (nr i : Nat) : (orAcc m ru vs nr i).length = m := by
  induction i with
  | zero => simp [orAcc]
  | succ i ih => simp only [orAcc]; rw [orW_len, ih]
theorem orAcc_bits (m nr : Nat) (ru : Nat → Ru) (vs : Nat → Int) (h : nr ≤ 64 * m) (i : Nat) : WB (orAcc m ru vs nr i) m (fun k => decide (k < nr) && (List.range i).any fun j => okR (ru k) (vs j)) := by
  induction i with
  | zero => exact (WB.zero m).congr (fun k _ => by simp)
  | succ i ih =>
    refine (ih.or (appW_bits m nr ru (vs i) nr h)).congr (fun k _ => ?_)
    rw [List.range_succ, List.any_append]
    simp only [List.any_cons, List.any_nil, Bool.or_false]
    cases decide (k < nr) <;> simp
end Go.Proofs.YbulkdbsgDoor
