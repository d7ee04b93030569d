/-
  CONTRACT of zzs5154cprofiles.
-/
import Derived.Test.YbulkdbsgParts
import Derived.WalkSpells
namespace Go.Proofs.Ybulkdbsg
open Go.RowKit

theorem Yba.info45 : (Yba.prog.info? 45).map (fun i => (i.zero, i.size, i.bytes)) = some (some (.agg #[.slice none 0 0, .slice none 0 0, .slice none 0 0, .string ByteArray.empty, .string ByteArray.empty]), 5, 104) := by kernel_rfl

/-- The test of the Go text: bit p of the mask m. -/
def bitB (m : Int) (p : Nat) : Bool := bits BinOp.and IntKind.u64 (m / 2 ^ p) 1 == 1

/-- The permissions below nP that the mask holds. -/
def plOf (nP : Nat) (m : Int) : List Nat := (List.range nP).filter (bitB m)

/-- The cells of one profile. -/
def pcells (v : Value) : List Value := [.slice none 0 0, v, .slice none 0 0, .string ByteArray.empty, .string ByteArray.empty]

def natCells (l : List Nat) : List Value := l.map fun (p : Nat) => Value.int .i64 (p : Int)

theorem plOf_hit {nP : Nat} {m : Int} (h : bitB m nP = true) : plOf (nP + 1) m = plOf nP m ++ [nP] := by
  simp [plOf, List.range_succ, h]
theorem plOf_miss {nP : Nat} {m : Int} (h : bitB m nP = false) : plOf (nP + 1) m = plOf nP m := by
  simp [plOf, List.range_succ, h]
theorem plOf_le (nP : Nat) (m : Int) : (plOf nP m).length ≤ nP := by
  have := List.length_filter_le (bitB m) (List.range nP)
  simpa [plOf] using this

/-- What the call has made: the rows of the permissions, and the profiles over them. -/
structure Profs (w : World) (B gp nP : Nat) (ms : List Int) (PV : List Value) : Prop where
  len : PV.length = ms.length
  rows : ∀ i, i < ms.length → w.ownsRow B 3 1 (PV.getD i undef) (plOf nP (ms.getD i 0)).length (natCells (plOf nP (ms.getD i 0)))
  cells : ∀ i, i < ms.length → w.cell? ⟨gp, i * 5 + 1, none⟩ = some (PV.getD i undef)

theorem getD_left {α : Type} {l r : List α} {d : α} {i : Nat} (h : i < l.length) : (l ++ r).getD i d = l.getD i d := by
  simp [List.getD, List.getElem?_append_left h]
theorem getD_last {α : Type} {l : List α} {x d : α} {i : Nat} (h : l.length = i) : (l ++ [x]).getD i d = x := by
  subst h; simp [List.getD]

theorem pcells_len (PV : List Value) : (PV.flatMap pcells).length = 5 * PV.length := by
  induction PV with
  | nil => rfl
  | cons v l ih => simp [List.flatMap_cons, pcells, ih]; omega

theorem pcells_at (PV : List Value) : ∀ i, i < PV.length → (PV.flatMap pcells)[i * 5 + 1]? = some (PV.getD i undef) := by
  induction PV with
  | nil => intro i h; simp at h
  | cons v l ih =>
    intro i h
    cases i with
    | zero => simp [List.flatMap_cons, pcells]
    | succ i =>
      have := ih i (by simpa using h)
      rw [List.flatMap_cons, List.getElem?_append_right (by simp [pcells]; omega)]
      have e : (i + 1) * 5 + 1 - (pcells v).length = i * 5 + 1 := by simp [pcells]; omega
      rw [e, this]; simp

theorem new_pcells {w : World} (v : Value) : ∀ j u, (pcells v)[j]? = some u → (w.alloc (.cells #[.slice none 0 0, v, .slice none 0 0, .string ⟨#[]⟩, .string ⟨#[]⟩] 45)).cell? ((⟨w.heap.size, 0, none⟩ : Addr).add j) = some u := by
  intro j u hj
  match j, hj with
  | 0, hj => simp [pcells] at hj; subst hj; simp [Addr.add]
  | 1, hj => simp [pcells] at hj; subst hj; simp [Addr.add]
  | 2, hj => simp [pcells] at hj; subst hj; simp [Addr.add]
  | 3, hj => simp [pcells] at hj; subst hj; simp [Addr.add]; rfl
  | 4, hj => simp [pcells] at hj; subst hj; simp [Addr.add]; rfl
  | j + 5, hj => simp [pcells] at hj

theorem pcells_one (ao : Option Addr) (n c : Nat) : ∀ u ∈ pcells (.slice ao n c), u.oneCell' = true := by
  intro u hu
  simp [pcells] at hu
  rcases hu with rfl | rfl | rfl | rfl <;> rfl

set_option maxHeartbeats 1000000 in
theorem profiles_any (nP g n c : Nat) (ms : List Int) (w : World) (hn : n ≤ 1024) (hP : nP ≤ 64) (hl : ms.length = n) (hb : g < w.heap.size)
   (h1 : ∀ i, i < n → w.cell? ⟨g, i, none⟩ = some (.int .u64 (ms.getD i 0))) :
  Calls Yba.prog 6 #[.int .i64 nP, .slice (some ⟨g, 0, none⟩) n c] w fun e w' => ∃ PV : List Value, e = .returned (.slice (some ⟨w.heap.size, 0, none⟩) n n) ∧ Profs w' (w.heap.size + 1) w.heap.size nP ms PV ∧ Below w.heap.size w w' := by
  obtain ⟨i0, hi, hz0, hz1, hz2⟩ := info_parts Yba.info45
  obtain ⟨i3, hi3, hy0, hy1, hy2⟩ := info_parts Yba.info3
  go_enter Yba.func6, Yba.ntmps6
  go_wp2_with (at_make; go_must (refine wpList_make_own _ rfl _ _ 25 rfl w.heap.size 45 i0 _ 5 Yba.underlying25 hi hz0 hz1 .i64 .i64 _ n rfl rfl (by omega) (by rw [hz2]; omega) (by unfold maxLen; omega) (by simp) ?_); intro w1 hown1 hgrow1)
  have hlt1 : w.heap.size < w1.heap.size := (hown1.lt w.heap.size rfl).2
  go_loopw [5, 15] (fun v i wr => ∃ (k : Nat) (PV : List Value), k ≤ n ∧ i = .int .i64 k ∧ v = .slice (some ⟨w.heap.size, 0, none⟩) k n ∧ PV.length = k ∧ wr.ownsRow w.heap.size 45 5 (.slice (some ⟨w.heap.size, 0, none⟩) k n) k (PV.flatMap pcells) ∧
       (∀ i, i < k → wr.ownsRow (w.heap.size + 1) 3 1 (PV.getD i undef) (plOf nP (ms.getD i 0)).length (natCells (plOf nP (ms.getD i 0)))) ∧ Below w.heap.size w wr ∧ w.heap.size < wr.heap.size) (fun _ i _ => n - (intOf i).toNat)
  case atStart =>
    exact ⟨0, [], Nat.zero_le _, rfl, rfl, rfl, hown1, fun i h => by omega, (Below.refl _ _).grown hgrow1 (Nat.le_refl _) (by simp), hlt1⟩
  case round =>
    obtain ⟨k, PV, hk, rfl, rfl, hPl, hown, hrows, hbel, hsz⟩ := hrel
    clear hown1 hgrow1 hlt1
    by_cases hlt : k < n
    · have hc : wr.cell? ⟨g, k, none⟩ = some (.int .u64 (ms.getD k 0)) := (hbel.cell (by exact hb)).trans (h1 k hlt)
      obtain ⟨m, hm⟩ : ∃ m, ms.getD k 0 = m := ⟨_, rfl⟩
      rw [hm] at hc
      have HM : Hid (ms.getD k 0 = m) := hm
      clear hm h1
      obtain ⟨wo, hwo⟩ : ∃ x, x = wr := ⟨_, rfl⟩
      subst hwo
      go_wp2
      go_loopw [8, 9] (fun v i wi => ∃ j : Nat, j ≤ nP ∧ i = .int .i64 j ∧ wi.ownsRow wo.heap.size 3 1 v (plOf j m).length (natCells (plOf j m)) ∧ Below wo.heap.size wo wi) (fun _ i _ => nP - (intOf i).toNat)
      case atStart => exact ⟨0, Nat.zero_le _, rfl, World.ownsRow_nil _ _ _ _, Below.refl _ _⟩
      case round =>
        obtain ⟨j, hj, rfl, hpl, hbi⟩ := hrel
        have hsi := hbi.size
        by_cases hjt : j < nP
        · cases hbit : bitB m j with
          | true =>
            have HB : Hid (bitB m j = true) := hbit
            have hb' : (bits BinOp.and IntKind.u64 (m / 2 ^ j) 1 == 1) = true := hbit
            clear hbit
            have hple := plOf_le j m
            go_wp2_with (at_builtin; go_must (refine wpList_append_own _ rfl (.tmp 30) (.tmp 32) 27 rfl wo.heap.size 3 i3 (.int .i64 0) 1 8 Yba.underlying27 hi3 hy0 hy1 hy2 rfl (by decide) _ _ _ rfl (hpl.alloc _) ⟨wr.heap.size, 0, none⟩ 1 1 [.int .i64 j] rfl rfl one_news (by intro u hu; simp at hu; subst hu; rfl) (by unfold maxLen; omega) (by omega) (by simp; omega) ?_); intro v2 w2 hown2 hgrow2 _)
            go_roundw
            case rel =>
              refine ⟨j + 1, by omega, by go_num, ?_, ?_⟩
              · rw [plOf_hit HB.out]; simpa [natCells] using hown2
              · exact (hbi.alloc hsi _).grown hgrow2 (by simp; omega) (fun q hq => ((hpl.lt q hq).1))
            case measure => simp [intOf]; omega
          | false =>
            have HB : Hid (bitB m j = false) := hbit
            have hb' : (bits BinOp.and IntKind.u64 (m / 2 ^ j) 1 == 1) = false := hbit
            clear hbit
            go_wp2
            go_roundw
            case rel => exact ⟨j + 1, by omega, by go_num, by rw [plOf_miss HB.out]; exact hpl, hbi⟩
            case measure => simp [intOf]; omega
        · obtain rfl : j = nP := by omega
          have hkn : k + 1 ≤ n := hlt
          have hown' := (Fr.of_below hbi).owns hown (fun q hq => by simp [Value.ownBlock] at hq; omega)
          obtain ⟨ao, cp, gq, rfl, _, _, _, _⟩ := owns_view hpl
          go_wp2_with (at_builtin; go_must (refine wpList_append_fits _ rfl (.tmp 34) (.tmp 37) 25 rfl w.heap.size 45 i0 5 Yba.underlying25 hi hz1 w.heap.size k n (PV.flatMap pcells) rfl (hown'.alloc _) ⟨wr.heap.size, 0, none⟩ 1 1 (pcells (.slice ao (plOf j m).length cp)) rfl rfl (new_pcells _) (pcells_one _ _ _) hkn ?_); intro w2 hown2 hgrow2)
          go_roundw
          case rel =>
            have hfr : Fr (fun q => q = w.heap.size) wr w2 := ((Fr.refl _ _).alloc _).grown hgrow2 (fun q hq _ => by simp at hq; exact hq.symm)
            have hold : ∀ i, i < k → w2.ownsRow (w.heap.size + 1) 3 1 (PV.getD i undef) (plOf j (ms.getD i 0)).length (natCells (plOf j (ms.getD i 0))) := fun i hi => by
              have h0 := hrows i hi
              have h1 := (Fr.of_below hbi).owns h0 (fun q hq => by have := (h0.lt q hq).2; omega)
              exact hfr.owns h1 (fun q hq => by have := (h0.lt q hq).1; omega)
            have hnew := hfr.owns hpl (fun q hq => by have := (hpl.lt q hq).1; omega)
            refine ⟨k + 1, PV ++ [.slice ao (plOf j m).length cp], hkn, by go_num, rfl, by simp [hPl], by simpa using hown2, ?_, ?_, ?_⟩
            · intro i hi
              by_cases hik : i < k
              · rw [getD_left (by omega)]; exact hold i hik
              · obtain rfl : i = k := by omega
                rw [HM.out, getD_last hPl]
                exact owns_base hnew (fun q hq => by have := (hpl.lt q hq).1; omega)
            · exact hbel.trans ((hbi.mono (by omega)).trans (hfr.below (by omega) (fun q hq => by omega)))
            · have := hfr.size; omega
          case measure => simp [intOf]; omega
    · obtain rfl : k = n := by omega
      go_wp2
      go_ret
      refine ⟨PV, rfl, ⟨by omega, fun i hi => hrows i (by omega), fun i hi => ?_⟩, hbel⟩
      rw [hown.cellAt (i * 5 + 1) (by omega)]
      exact pcells_at PV i (by omega)
end Go.Proofs.Ybulkdbsg
