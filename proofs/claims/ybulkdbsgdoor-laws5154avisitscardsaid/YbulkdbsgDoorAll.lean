/-
  CONTRACT of All: the numbers of a set, in increasing order.
-/
import Derived.RangeFuncNested
import Derived.RangeFuncBound
import Derived.RangeFuncCalls
import Derived.RangeFuncLeaves
import Derived.Shelf.Abstract
import Derived.Shelf.RegionOpen
import Derived.WalkKit
import Derived.OwnWalkIn
import Derived.TacticsInMore
import Derived.LoopNIn
import Derived.LoopIn
import Derived.Test.YbulkdbsgDoorHeld
import Derived.Test.YbulkdbsgDoorTz
namespace Go.Proofs.YbulkdbsgDoor
open Go.RowKit Go.Shelf
set_option linter.unusedVariables false
attribute [local go_sem] Oper.semAt_some

/-- Bit k of the words us. -/
def bitAt (us : List Nat) (k : Nat) : Bool := (us.getD (k / 64) 0).testBit (k % 64)
/-- The numbers below j. -/
def bitsTo (us : List Nat) (j : Nat) : List Nat := (List.range j).filter (bitAt us)
theorem bitsTo_hit {us : List Nat} {p : Nat} (h : bitAt us p = true) : bitsTo us (p + 1) = bitsTo us p ++ [p] := by
  simp [bitsTo, List.range_succ, List.filter_append, h]
theorem bitsTo_miss {us : List Nat} {p : Nat} (h : bitAt us p = false) : bitsTo us (p + 1) = bitsTo us p := by
  simp [bitsTo, List.range_succ, List.filter_append, h]
theorem bitsTo_skip {us : List Nat} {q : Nat} (d : Nat) (h : ∀ j, q ≤ j → j < q + d → bitAt us j = false) : bitsTo us (q + d) = bitsTo us q := by
  induction d with
  | zero => rfl
  | succ d ih => rw [← Nat.add_assoc, bitsTo_miss (h _ (by omega) (by omega)), ih (fun j h1 h2 => h j h1 (by omega))]
theorem bitsTo_len (us : List Nat) (j : Nat) : (bitsTo us j).length ≤ j := by
  have := List.length_filter_le (bitAt us) (List.range j)
  simpa [bitsTo] using this
theorem bitsTo_prefix (us : List Nat) (j d : Nat) : bitsTo us j <+: bitsTo us (j + d) := by
  induction d with
  | zero => exact List.prefix_rfl
  | succ d ih =>
    rw [← Nat.add_assoc]
    by_cases h : bitAt us (j + d) = true
    · rw [bitsTo_hit h]; exact ih.trans (List.prefix_append _ _)
    · rw [bitsTo_miss (by simpa using h)]; exact ih

/-- The bits of x from q on. -/
def up (x q : Nat) : Nat := 2 ^ q * (x / 2 ^ q)
theorem up_bit (x q j : Nat) : (up x q).testBit j = if j < q then false else x.testBit j := by
  unfold up
  rw [shift_bit]
  by_cases h : j < q
  · simp [h]
  · simp only [h, if_false, Nat.testBit_div_two_pow]
    congr 1; omega
theorem up_zero (x : Nat) : up x 0 = x := by simp [up]
theorem up_le (x q : Nat) : up x q ≤ x := Nat.mul_div_le _ _
theorem low_split : ∀ (w : Nat), 0 < w → ∃ p m, w = 2 ^ p * (2 * m + 1) := by
  intro w
  induction w using Nat.strongRecOn with
  | _ w ih =>
    intro hw
    by_cases h : w % 2 = 1
    · exact ⟨0, w / 2, by omega⟩
    · obtain ⟨p, m, e⟩ := ih (w / 2) (by omega) (by omega)
      exact ⟨p + 1, m, by rw [Nat.pow_succ]; have : w = 2 * (w / 2) := by omega
                          rw [this, e, Nat.mul_comm _ 2, Nat.mul_assoc]⟩

/-- The next bit. -/
theorem up_next (x q : Nat) (hx : x < 18446744073709551616) (h : 0 < up x q) : ∃ p m, p < 64 ∧ q ≤ p ∧ up x q = 2 ^ p * (2 * m + 1) ∧ 2 ^ p * (2 * m) = up x (p + 1) ∧ x.testBit p = true ∧ ∀ j, q ≤ j → j < p → x.testBit j = false := by
  obtain ⟨p, m, e⟩ := low_split _ h
  have hb : ∀ j, (up x q).testBit j = if j < p then false else if j - p = 0 then true else m.testBit (j - p - 1) := fun j => by rw [e, shift_bit, odd_bit]
  have hp := hb p
  rw [up_bit] at hp
  simp at hp
  have hp64 : p < 64 := by
    rcases Nat.lt_or_ge p 64 with h | h
    · exact h
    · exfalso
      have h1 : x < 2 ^ p := Nat.lt_of_lt_of_le (by simpa using hx) (Nat.pow_le_pow_right (by omega : 0 < 2) h)
      rw [Nat.testBit_lt_two_pow h1] at hp
      simp at hp
  refine ⟨p, m, hp64, hp.1, e, ?_, hp.2, fun j h1 h2 => ?_⟩
  · apply Nat.eq_of_testBit_eq
    intro j
    have := hb j
    rw [up_bit] at this ⊢
    rw [shift_bit, even_bit]
    by_cases h1 : j < p
    · simp [h1]; omega
    · simp only [h1, if_false] at this ⊢
      by_cases h2 : j = p
      · subst h2; simp
      · have h3 : ¬ j < q := by have := hp.1; omega
        rw [if_neg (by omega : ¬ j - p = 0), if_neg (by omega : ¬ j < p + 1)]
        simp only [h3, if_false] at this
        rw [this, if_neg (by omega : ¬ j - p = 0)]
  · have := hb j
    rw [up_bit, if_neg (by omega), if_pos h2] at this
    exact this
theorem up_none (x q : Nat) (h : up x q = 0) : ∀ j, q ≤ j → x.testBit j = false := fun j hj => by
  have := up_bit x q j
  rw [h, if_neg (by omega)] at this
  simpa using this.symm

/-- The blocks ks lie as they lay. -/
def Kps (ks : List Nat) (W W' : World) : Prop := ∀ k, k ∈ ks → W'.heap[k]? = W.heap[k]?
theorem Kps.trans {ks : List Nat} {A B C : World} (h : Kps ks A B) (k : Kps ks B C) : Kps ks A C := fun i hi => (k i hi).trans (h i hi)
theorem Kps.refl (ks : List Nat) (A : World) : Kps ks A A := fun _ _ => rfl

theorem cells_of_set {w : World} {b : Nat} {us : List Nat} (h : SetAt w b (us.map (fun (u : Nat) => (u : Int)))) {i : Nat} (hi : i < us.length) : w.cell? ⟨b, i, none⟩ = some (.int .u64 (us.getD i 0 : Nat)) := by
  rw [h.cell (by simpa using hi)]
  simp [List.getD, hi]

set_option maxRecDepth 100000 in
set_option maxHeartbeats 4000000 in
theorem all1_in (n : Nat) (hn : 1 ≤ n) (nr l Bx b : Nat) (us : List Nat) (hus : ∀ i, us.getD i 0 < 18446744073709551616) (hlen : us.length ≤ 1024) (hbit : ∀ k, bitAt us k = true → k < nr) (J Jx : List { k : Nat // k < nr } → World → Prop)
    (hY : ∀ pre x W, J pre W → pre.length < 64 * us.length → YieldAt Fence.wide (n - 1) Ybad.prog l #[.int .i64 (x.1 : Nat)] W fun e W' =>
      (e = .returned (.bool true) ∧ J (pre ++ [x]) W' ∧ Kps [1, Bx, b] W W') ∨ (e = .returned (.bool false) ∧ Jx (pre ++ [x]) W'))
    (W : World) (hT : ∀ j, j < 64 → W.cell? ⟨1, j, none⟩ = some (.int .u8 (tab.getD j 0 : Nat))) (hBx : W.cell? ⟨Bx, 0, none⟩ = some (setV b us.length)) (hs : SetAt W b (us.map (fun (u : Nat) => (u : Int)))) (h0 : J [] W) :
    CallsIn Fence.wide n Ybad.prog 16 #[.func (.yield l) #[] #[], .pointer (some ⟨Bx, 0, none⟩)] W fun e W' => (∃ v, e = .returned v) ∧
      ((∃ ys : List { k : Nat // k < nr }, ys.map (·.1) = bitsTo us (64 * us.length) ∧ J ys W') ∨ (∃ pre : List { k : Nat // k < nr }, pre.map (·.1) <+: bitsTo us (64 * us.length) ∧ Jx pre W')) := by
  unfold setV at hBx
  refine callsIn_of_wp Ybad.func16 rfl trivial ?_ rfl
  simp only [Ybad.ntmps16, List.size_toArray, List.length_cons, List.length_nil, Nat.reduceAdd, Nat.reduceSub, Array.replicate_succ, Array.replicate_zero, List.push_toArray, List.append_toArray, List.nil_append, List.cons_append]
  have HS : Hid _ := hs
  have HT : Hid _ := hT
  have HU : Hid _ := hus
  have HB : Hid _ := hbit
  have HY : Hid _ := hY
  clear hs hT hus hbit hY
  gi_wp2
  gi_loopw [7] (fun t wr => ∃ (i : Nat) (pre : List { k : Nat // k < nr }), i ≤ us.length ∧ t = .int .i64 i ∧ pre.map (·.1) = bitsTo us (64 * i) ∧ J pre wr ∧ Kps [1, Bx, b] W wr) (fun t _ => us.length - (intOf t).toNat)
  case atStart => exact ⟨0, [], Nat.zero_le _, rfl, rfl, h0, Kps.refl _ _⟩
  case round =>
    obtain ⟨i, pre, hi, rfl, hpre, hJs, hk⟩ := hrel
    by_cases hlt : i < us.length
    · have hs1 : SetAt wr b (us.map (fun (u : Nat) => (u : Int))) := (hk b (by simp)).trans HS.out
      have c1 := cells_of_set hs1 hlt
      have hx := HU.out i
      have hbi : Hid (∀ p, p < 64 → bitAt us (64 * i + p) = (us.getD i 0).testBit p) := fun p hp => by
        unfold bitAt
        rw [show (64 * i + p) / 64 = i by omega, show (64 * i + p) % 64 = p by omega]
      generalize us.getD i 0 = x at c1 hx hbi
      have hltI : (i : Int) < us.length := by omega
      gi_wp2
      obtain ⟨wo, hwo⟩ : ∃ x, x = wr := ⟨_, rfl⟩; subst hwo
      gi_loopw [4] (fun t wq => ∃ (q : Nat) (pre : List { k : Nat // k < nr }), q ≤ 64 ∧ t = .int .u64 (up x q : Nat) ∧ pre.map (·.1) = bitsTo us (64 * i + q) ∧ J pre wq ∧ Kps [1, Bx, b] W wq) (fun t _ => (intOf t).toNat)
      case atStart => exact ⟨0, pre, Nat.zero_le _, by rw [up_zero], hpre, hJs, hk⟩
      case round =>
        obtain ⟨q, pre1, hq, rfl, hpre1, hJ1, hk1⟩ := hrel
        by_cases hz : up x q = 0
        · have hbits := up_none x q hz
          rw [hz]
          gi_wp2
          refine ⟨⟨i + 1, pre1, by omega, by go_num, ?_, hJ1, hk1⟩, by simp [intOf]; omega⟩
          rw [hpre1, show 64 * (i + 1) = (64 * i + q) + (64 - q) by omega]
          refine (bitsTo_skip _ fun j h1 h2 => ?_).symm
          rw [show j = 64 * i + (j - 64 * i) by omega, hbi.out _ (by omega)]
          exact hbits _ (by omega)
        · obtain ⟨p, m, hp, hqp, hup, hnext, hbp, hbj⟩ := up_next x q hx (by omega)
          have hlx : up x q < 18446744073709551616 := Nat.lt_of_le_of_lt (up_le x q) hx
          have hoff : bits .and .u64 ((2 ^ p * (2 * m + 1) : Nat) : Int) (((2 ^ p * (2 * m + 1) : Nat) : Int) - 1) = ((up x (p + 1) : Nat) : Int) := by
            rw [← hup]
            have e : ((up x q : Nat) - 1 : Int) = ((up x q - 1 : Nat) : Int) := by omega
            rw [e, u64_and_nat _ _ hlx (by omega), hup, low_off, hnext]
          rw [hup] at hlx hz
          have hbb : bitAt us (64 * i + p) = true := by rw [hbi.out p hp]; exact hbp
          have hnum := HB.out _ hbb
          have hpre2 : bitsTo us (64 * i + p) = bitsTo us (64 * i + q) := by
            rw [show 64 * i + p = (64 * i + q) + (p - q) by omega]
            refine bitsTo_skip _ fun j h1 h2 => ?_
            rw [show j = 64 * i + (j - 64 * i) by omega, hbi.out _ (by omega)]
            exact hbj _ (by omega) (by omega)
          have hl1 : pre1.length < 64 * us.length := by
            have h1 := congrArg List.length hpre1
            rw [List.length_map, ← hpre2] at h1
            have h2 := bitsTo_len us (64 * i + p)
            rw [h1]
            clear h1
            omega
          have hpre3 : Hid ((pre1 ++ [(⟨64 * i + p, hnum⟩ : { k : Nat // k < nr })]).map (·.1) = bitsTo us (64 * i + p + 1)) := by
            have : (pre1 ++ [(⟨64 * i + p, hnum⟩ : { k : Nat // k < nr })]).map (·.1) = bitsTo us (64 * i + p + 1) := by
              rw [bitsTo_hit hbb, hpre2, ← hpre1]; simp
            exact this
          have hT1 : ∀ j, j < 64 → wr.cell? ⟨1, j, none⟩ = some (.int .u8 (tab.getD j 0 : Nat)) := fun j hj => (World.cell?_of_block (hk1 1 (by simp))).trans (HT.out j hj)
          have htz := tz_any p m hp hlx wr hT1
          obtain ⟨fn, tmps, assign, body, hy, hR⟩ := HY.out pre1 ⟨64 * i + p, hnum⟩ wr hJ1 hl1
          dsimp only at hy
          rw [hup]
          have hpos : 0 < 2 ^ p * (2 * m + 1) := Nat.mul_pos (Nat.two_pow_pos p) (by omega)
          have hdec : up x (p + 1) < 2 ^ p * (2 * m + 1) := by rw [← hnext]; exact Nat.mul_lt_mul_of_pos_left (by omega) (Nat.two_pow_pos p)
          have HO : Hid _ := hoff
          clear hup hT1 hoff
          generalize 2 ^ p * (2 * m + 1) = x1 at *
          have hz' : ((x1 : Int) != 0) = true := by simp; omega
          have hyc : ((64 * i + p : Nat) : Int) = 64 * (i : Int) + p := by omega
          rw [hyc] at hy
          gi_wp2_with (refine ⟨trivial, ?_⟩; gi_at_call 17; refine (callsIn_wide.2 htz).mono ?_; rintro e w' ⟨he, hw⟩; rw [he, hw]; clear he hw e w')
          refine hR.mono ?_
          rintro e W3 (⟨rfl, hJ3, hk3⟩ | ⟨rfl, hJx3⟩)
          · gi_wp2
            rw [HO.out]
            exact ⟨⟨p + 1, _, by omega, rfl, hpre3.out, hJ3, hk1.trans hk3⟩, by simp [intOf]; omega⟩
          · gi_wp2
            refine bodyPost_ret (results_none rfl _ _ _) rfl ?_
            refine ⟨⟨_, rfl⟩, .inr ⟨_, ?_, hJx3⟩⟩
            rw [hpre3.out, show 64 * us.length = (64 * i + p + 1) + (64 * us.length - (64 * i + p + 1)) by omega]
            exact bitsTo_prefix _ _ _
    · obtain rfl : i = us.length := by omega
      have hltI : ¬ (us.length : Int) < us.length := by omega
      gi_wp2
      go_end0
      exact ⟨⟨_, rfl⟩, .inl ⟨pre, hpre, hJs⟩⟩

theorem all_any (b m : Nat) (w : World) : Calls Ybad.prog 10 #[setV b m] w fun e w' => e = .returned (.func (.func 16) #[] #[.pointer (some ⟨w.heap.size, 0, none⟩)]) ∧ w' = w.alloc (.cells #[setV b m] 29) := by
  unfold setV
  go_enter Ybad.func10, Ybad.ntmps10
  go_wp2
  go_ret
  exact ⟨rfl, rfl⟩

theorem all_stops (n : Nat) (hn : 1 ≤ n) (nr Bx b : Nat) (us : List Nat) (hus : ∀ i, us.getD i 0 < 18446744073709551616) (hlen : us.length ≤ 1024) (hbit : ∀ k, bitAt us k = true → k < nr) (w : World) (h1 : 1 < w.heap.size) 
    (hT : ∀ j, j < 64 → w.cell? ⟨1, j, none⟩ = some (.int .u8 (tab.getD j 0 : Nat))) (hBx : w.cell? ⟨Bx, 0, none⟩ = some (setV b us.length)) (hs : SetAt w b (us.map (fun (u : Nat) => (u : Int)))) :
    SeqStopsK Fence.wide n Ybad.prog 16 #[.pointer (some ⟨Bx, 0, none⟩)] (fun x : { k : Nat // k < nr } => #[Value.int .i64 (x.1 : Nat)]) (Kps [1, Bx, b]) (fun ys => ys.map (·.1) = bitsTo us (64 * us.length)) (fun pre => pre.map (·.1) <+: bitsTo us (64 * us.length)) (64 * us.length) w := fun l J Jx W hW _ _ hY h0 => by
  refine all1_in n hn nr l Bx b us hus hlen hbit J Jx hY W (fun j hj => (hW.cell (p := ⟨1, j, none⟩) h1).trans (hT j hj)) ((hW.cell (p := ⟨Bx, 0, none⟩) (World.block_lt_of_cell? w _ hBx)).trans hBx) ?_ h0
  exact (hW.block b hs.lt).trans hs
end Go.Proofs.YbulkdbsgDoor
