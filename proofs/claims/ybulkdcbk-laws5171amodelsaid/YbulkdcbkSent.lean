/-
  CONTRACT of sentBefore.
-/
import Derived.Test.YbulkdcbkRoot
import Derived.LaidEqlPtr
namespace Go.Proofs.Ybulkdcbk
open Go.RowKit
set_option linter.unusedVariables false

def hit (f : Nat → Bool) : Nat → Bool
  | 0 => false
  | k + 1 => hit f k || f k

theorem hit_of {f : Nat → Bool} {j : Nat} (h : f j = true) : ∀ {n : Nat}, j < n → hit f n = true := by
  intro n
  induction n with
  | zero => intro h; omega
  | succ n ih =>
    intro hj
    simp only [hit]
    by_cases e : j = n
    · subst e; simp [h]
    · simp [ih (by omega)]

/-- An obligation of the law's making. -/
def ocell (P : Nat) (k b : Int) (s : Bool) (t : Nat) : List Value :=
  [.int .u8 k, .pointer none, .pointer none, .int .i64 0, .int .i64 0, ptr (P + 1 + t), .pointer none, .int .i64 b, .bool s, .int .i64 0, .bool false, .bool false]

def OM (w : World) (P O len : Nat) (oK oB : Nat → Int) (oS : Nat → Bool) (oT : Nat → Nat) : Prop :=
  ∀ j, j < len → ∀ c, c < 12 → w.cell? ⟨O, j * 12 + c, none⟩ = (ocell P (oK j) (oB j) (oS j) (oT j))[c]?

theorem OM.keep {w w' : World} {P O len : Nat} {oK oB : Nat → Int} {oS : Nat → Bool} {oT : Nat → Nat} (h : OM w P O len oK oB oS oT) (hf : Fr (fun _ => False) w w') : OM w' P O len oK oB oS oT := fun j hj c hc => by
  have hlc : c < (ocell P (oK j) (oB j) (oS j) (oT j)).length := hc
  rw [List.getElem?_eq_getElem hlc]
  exact hf.cell (fun h => h) ((h j hj c hc).trans (List.getElem?_eq_getElem hlc))

theorem om_cells {w wr : World} {P O len : Nat} {oK oB : Nat → Int} {oS : Nat → Bool} {oT : Nat → Nat} (h : OM w P O len oK oB oS oT) (hf : Fr (fun _ => False) w wr) {j : Nat} (hj : j < len) :
    wr.cell? ⟨O, j * 12, none⟩ = some (.int .u8 (oK j)) ∧ wr.cell? ⟨O, j * 12 + 1, none⟩ = some (.pointer none) ∧ wr.cell? ⟨O, j * 12 + 2, none⟩ = some (.pointer none) ∧ wr.cell? ⟨O, j * 12 + 3, none⟩ = some (.int .i64 0) ∧
    wr.cell? ⟨O, j * 12 + 4, none⟩ = some (.int .i64 0) ∧ wr.cell? ⟨O, j * 12 + 5, none⟩ = some (.pointer (some ⟨P + 1 + oT j, 0, none⟩)) ∧ wr.cell? ⟨O, j * 12 + 6, none⟩ = some (.pointer none) ∧ wr.cell? ⟨O, j * 12 + 7, none⟩ = some (.int .i64 (oB j)) ∧
    wr.cell? ⟨O, j * 12 + 8, none⟩ = some (.bool (oS j)) ∧ wr.cell? ⟨O, j * 12 + 9, none⟩ = some (.int .i64 0) ∧ wr.cell? ⟨O, j * 12 + 10, none⟩ = some (.bool false) ∧ wr.cell? ⟨O, j * 12 + 11, none⟩ = some (.bool false) := by
  have k := fun c (hc : c < 12) {u : Value} (hu : (ocell P (oK j) (oB j) (oS j) (oT j))[c]? = some u) => hf.cell (p := ⟨O, j * 12 + c, none⟩) (fun h => h) ((h j hj c hc).trans hu)
  exact ⟨k 0 (by omega) rfl, k 1 (by omega) rfl, k 2 (by omega) rfl, k 3 (by omega) rfl, k 4 (by omega) rfl, k 5 (by omega) rfl, k 6 (by omega) rfl, k 7 (by omega) rfl, k 8 (by omega) rfl, k 9 (by omega) rfl, k 10 (by omega) rfl, k 11 (by omega) rfl⟩

theorem info31 : (Yba.prog.info? 31).map (fun i => i.size) = some 11 := by kernel_rfl

theorem eql_terms {w : World} {P : Nat} (hb : ∀ i, i < 7 → ∃ cs, w.heap[P + 1 + i]? = some (.cells cs 31 (0, 0))) {a b : Nat} (ha : a < 7) (hbb : b < 7) :
    (binOp .eql 25 (.pointer (some ⟨P + 1 + a, 0, none⟩)) (.pointer (some ⟨P + 1 + b, 0, none⟩))).run Yba.prog w = .ok (.bool (a == b)) w := by
  obtain ⟨i, hi, hs⟩ := Option.map_eq_some_iff.1 info31
  by_cases e : a = b
  · subst e
    rw [run_eql_ptr_same w _ Yba.underlying25 hi]
    simp
  · obtain ⟨ca, hca⟩ := hb a ha
    obtain ⟨cb, hcb⟩ := hb b hbb
    rw [run_eql_ptr_other w Yba.underlying25 hi (by omega) (by simp) hca hcb]
    have : (a == b) = false := by simpa using e
    rw [this]

set_option maxHeartbeats 2000000 in
theorem sent_any (P S V O : Nat) (B : Nat → Int) (len cap : Nat) (oK oB : Nat → Int) (oS : Nat → Bool) (oT : Nat → Nat) (i0 : Nat) (n : Int) (w : World) (E : Env w P S V B) (hi0 : i0 < 7)
    (ho : w.cell? ⟨S, 7, none⟩ = some (.slice (some ⟨O, 0, none⟩) len cap)) (hm : OM w P O len oK oB oS oT) (hT : ∀ j, j < len → oT j < 7) (hlen : len ≤ 1024) :
    Calls Yba.prog 4 #[ptr S, ptr (P + 1 + i0), .int .i64 n] w fun e w' => e = .returned (.bool (hit (fun j => (oK j == 3) && (oB j == n) && oS j && (root B (oT j) == root B i0)) len)) ∧ Fr (fun _ => False) w w' := by
  have HM : Hid _ := hm
  have HT : Hid _ := hT
  have hres := resolve_any P S V B i0 w E hi0
  clear hm hT
  unfold ptr at hres ⊢
  go_enter Yba.func4, Yba.ntmps4
  go_wp2_with (first
    | (go_at_call 6; go_must (refine hres.mono ?_; rintro e w' ⟨he, k, hw⟩; rw [he, hw]; clear he hw e w')))
  generalize hf : (fun j => (oK j == 3) && (oB j == n) && oS j && (root B (oT j) == root B i0)) = f
  have HF : Hid _ := hf
  clear hf
  go_loopw [19] (fun t wr => ∃ j : Nat, j ≤ len ∧ t = .int .i64 j ∧ hit f j = false ∧ Fr (fun _ => False) w wr) (fun t _ => len - (intOf t).toNat)
  case atStart => exact ⟨0, Nat.zero_le _, rfl, rfl, drewN_fr _ _⟩
  case round =>
    obtain ⟨j, hj, rfl, hh, hfr⟩ := hrel
    by_cases hlt : j < len
    · have Er := E.keep hfr
      obtain ⟨c0, c1, c2, c3, c4, c5, c6, c7, c8, c9, c10, c11⟩ := om_cells HM.out hfr hlt
      have hltI : (j : Int) < len := by omega
      have hfj : f j = ((oK j == 3) && (oB j == n) && oS j && (root B (oT j) == root B i0)) := by rw [← HF.out]
      have hTj := HT.out j hlt
      have HFJ : Hid _ := hfj
      clear hfj
      generalize oK j = kj at c0 HFJ
      generalize oB j = bj at c7 HFJ
      generalize oS j = sj at c8 HFJ
      generalize oT j = tj at c5 HFJ hTj
      have HQ : Hid (∀ X m, (binOp .eql 25 (.pointer (some ⟨P + 1 + root B tj, 0, none⟩)) (.pointer (some ⟨P + 1 + root B i0, 0, none⟩))).run Yba.prog ((wr.alloc X).drewN m) = .ok (.bool (root B tj == root B i0)) ((wr.alloc X).drewN m)) :=
        fun X m => eql_terms ((Er.keep ((Fr.refl (fun _ => False) wr).alloc X)).keep (drewN_fr _ m)).blk (root_lt E.good hTj) (root_lt E.good hi0)
      have HC : Hid (∀ X m, Calls Yba.prog 6 #[.pointer (some ⟨S, 2, none⟩), .pointer (some ⟨P + 1 + tj, 0, none⟩)] ((wr.alloc X).drewN m) fun e w' => e = .returned (.pointer (some ⟨P + 1 + root B tj, 0, none⟩)) ∧ ∃ k, w' = ((wr.alloc X).drewN m).drewN k) :=
        fun X m => resolve_any P S V B tj _ ((Er.keep ((Fr.refl (fun _ => False) wr).alloc X)).keep (drewN_fr _ m)) hTj
      clear Er E hres
      by_cases g1 : (kj == 3) = true
      · by_cases g2 : (bj == n) = true
        · cases sj with
          | true =>
            have hq := HQ.out (.cells #[.int .u8 kj, .pointer none, .pointer none, .int .i64 0, .int .i64 0, .pointer (some ⟨P + 1 + tj, 0, none⟩), .pointer none, .int .i64 bj, .bool true, .int .i64 0, .bool false, .bool false] 40)
            generalize hb : (root B tj == root B i0) = b at hq HFJ
            cases b with
            | true =>
              go_wp2
              go_quiet (first | (go_at_call 6; exact Calls.quiet_of (HC.out _ _)))
              go_wp2
              go_ret
              exact ⟨by rw [HF.out, hit_of (by rw [HFJ.out, g1, g2]; rfl) hlt]; rfl, (hfr.alloc _).drewN _⟩
            | false =>
              go_wp2
              go_quiet (first | (go_at_call 6; exact Calls.quiet_of (HC.out _ _)))
              go_wp2
              go_roundw
              case rel => exact ⟨j + 1, by omega, by go_num, by simp [hit, hh, HFJ.out, g1], (hfr.alloc _).drewN _⟩
              case measure => simp [intOf]; omega
          | false =>
            go_wp2
            go_quiet (fail)
            go_wp2
            go_roundw
            case rel => exact ⟨j + 1, by omega, by go_num, by simp [hit, hh, HFJ.out, g1], (hfr.alloc _).drewN _⟩
            case measure => simp [intOf]; omega
        · have g2 : (bj == n) = false := by simpa using g2
          go_wp2
          go_quiet (fail)
          go_wp2
          go_roundw
          case rel => exact ⟨j + 1, by omega, by go_num, by simp [hit, hh, HFJ.out, g2], (hfr.alloc _).drewN _⟩
          case measure => simp [intOf]; omega
      · have g1 : (kj == 3) = false := by simpa using g1
        go_wp2
        go_quiet (fail)
        go_wp2
        go_roundw
        case rel => exact ⟨j + 1, by omega, by go_num, by simp [hit, hh, HFJ.out, g1], (hfr.alloc _).drewN _⟩
        case measure => simp [intOf]; omega
    · have hltI : ¬ (j : Int) < len := by omega
      obtain rfl : j = len := by omega
      go_wp2
      go_ret
      exact ⟨by rw [HF.out, hh]; rfl, hfr⟩
end Go.Proofs.Ybulkdcbk
