/-
  CONTRACT of (*search).drop.
-/
import Derived.Test.YbulkdbsgAdd
namespace Go.Proofs.Ybulkdbsg
open Go.RowKit
set_option linter.unusedVariables false

def dropStep (s : List Int × Int) (p : Nat) : List Int × Int :=
  (s.1.set p (wrap64 (s.1.getD p 0 - 1)), if wrap64 (s.1.getD p 0 - 1) == 0 then wrap64 (s.2 + 1) else s.2)

theorem dropStep_hit {hd : List Int} {m x : Int} {p : Nat} (h : hd.getD p 0 = x) (hx : (wrap64 (x - 1) == 0) = true) : dropStep (hd, m) p = (hd.set p (wrap64 (x - 1)), wrap64 (m + 1)) := by
  simp only [dropStep, h, hx]
  simp
theorem dropStep_miss {hd : List Int} {m x : Int} {p : Nat} (h : hd.getD p 0 = x) (hx : (wrap64 (x - 1) == 0) = false) : dropStep (hd, m) p = (hd.set p (wrap64 (x - 1)), m) := by
  simp only [dropStep, h, hx]
  simp

set_option maxHeartbeats 1000000 in
theorem drop_any (S H nP cH gp n np i gt ct : Nat) (held : List Int) (miss : Int) (pvi : Value) (pl : List Nat) (B0 : Nat) (w : World)
    (hs : Sr w S H nP cH (.slice (some ⟨gp, 0, none⟩) np np) held miss (.slice (some ⟨gt, 0, none⟩) (n + 1) ct))
    (hlast : w.cell? ⟨gt, n, none⟩ = some (.int .i64 i)) (hct : n + 1 ≤ ct)
    (hn : n ≤ 100000) (hi : i < np) (hnp : np ≤ 1024)
    (hpc : w.cell? ⟨gp, i * 5 + 1, none⟩ = some pvi) (hpl : w.ownsRow B0 3 1 pvi pl.length (natCells pl))
    (hb2 : ¬ gp = S) (hb3 : ¬ gp = H) (hb4 : ∀ q, pvi.ownBlock = some q → ¬ q = S ∧ ¬ q = H) (hlt : ∀ p ∈ pl, p < nP) (hnP : nP ≤ 64) (hll : pl.length ≤ 64) :
    Calls Yba.prog 9 #[.pointer (some ⟨S, 0, none⟩)] w fun e w' => e = .returned (.tuple #[]) ∧ Sr w' S H nP cH (.slice (some ⟨gp, 0, none⟩) np np) (pl.foldl dropStep (held, miss)).1 (pl.foldl dropStep (held, miss)).2 (.slice (some ⟨gt, 0, none⟩) n ct) ∧ Fr (fun b => b = S ∨ b = H) w w' := by
  have c7 := cells_of_block hs.blk 7
  have c1 := cells_of_block hs.blk 1
  have f7 := free_of_block hs.blk 7
  simp at c7 c1
  obtain ⟨ao, cp, gq, rfl, hpos, _, hcells, _⟩ := owns_view hpl
  go_enter Yba.func9, Yba.ntmps9
  go_wp2
  go_region
  all_goals go_wp2
  go_region
  all_goals go_wp2
  have hs3 : Sr (w.setCell ⟨S, 7, none⟩ (.slice (some ⟨gt, 0, none⟩) n ct)).drew.drew S H nP cH (.slice (some ⟨gp, 0, none⟩) np np) held miss (.slice (some ⟨gt, 0, none⟩) n ct) :=
    (hs.setTeam (.slice (some ⟨gt, 0, none⟩) n ct)).keep (Fr.refl (fun _ => False) _).drew.drew id id
  have hfr3 : Fr (fun b => b = S ∨ b = H) w (w.setCell ⟨S, 7, none⟩ (.slice (some ⟨gt, 0, none⟩) n ct)).drew.drew := ((Fr.refl _ w).setCell (.inl rfl) _).drew.drew
  clear c7 c1 f7 hpc hlast
  generalize (w.setCell ⟨S, 7, none⟩ (.slice (some ⟨gt, 0, none⟩) n ct)).drew.drew = w3 at hs3 hfr3 ⊢
  have hSH := hs.ne
  clear hs
  go_loopw [40] (fun t wr => ∃ (k : Nat) (hd : List Int) (m : Int), k ≤ pl.length ∧ t = .int .i64 k ∧ Sr wr S H nP cH (.slice (some ⟨gp, 0, none⟩) np np) hd m (.slice (some ⟨gt, 0, none⟩) n ct) ∧
      (hd, m) = (pl.take k).foldl dropStep (held, miss) ∧ Fr (fun b => b = S ∨ b = H) w wr) (fun i _ => pl.length - (intOf i).toNat)
  case atStart => exact ⟨0, held, miss, Nat.zero_le _, rfl, hs3, rfl, hfr3⟩
  case round =>
    obtain ⟨k, hd, m, hk, rfl, hsr, hfold, hfw⟩ := hrel
    clear hs3 hfr3
    by_cases hkl : k < pl.length
    · obtain ⟨hao, _, hob⟩ := hpos (by omega)
      obtain ⟨q2, q3⟩ := hb4 gq hob
      have hc0 : w.cell? ⟨gq, k, none⟩ = some (.int .i64 (pl.getD k 0 : Nat)) := by rw [hcells k hkl, nat_at hkl]
      have hc := hfw.cell (p := ⟨gq, k, none⟩) (by rintro (h | h); exact q2 h; exact q3 h) hc0
      have hpn : pl.getD k 0 < nP := hlt _ (getD_mem hkl)
      have HT : Hid (pl.take (k + 1) = pl.take k ++ [pl.getD k 0]) := take_succ' hkl
      generalize pl.getD k 0 = p at hc hpn HT
      subst hao
      clear hc0 hcells hb4 hob hpos hlt
      have e5 := cells_of_block hsr.blk 5
      have e6 := cells_of_block hsr.blk 6
      have f6 := free_of_block hsr.blk 6
      simp at e5 e6
      have hx := hsr.cell hpn
      have hxf := hsr.free p
      have HF : Hid ((hd, m) = (pl.take k).foldl dropStep (held, miss)) := hfold
      clear hfold
      have hHS : ¬ H = S := fun e => hSH e.symm
      obtain ⟨x, hxx⟩ : ∃ x, hd.getD p 0 = x := ⟨_, rfl⟩
      rw [hxx] at hx
      have HY : Hid (hd.getD p 0 = x) := hxx
      clear hxx
      cases hx1 : (wrap64 (x - 1) == 0) with
      | true =>
        go_wp2
        go_roundw
        case rel =>
          refine ⟨k + 1, hd.set p (wrap64 (x - 1)), wrap64 (m + 1), by omega, by go_num, (hsr.setHeld p _).setMiss _, ?_, (hfw.setCell (.inr rfl) _).setCell (.inl rfl) _⟩
          rw [HT.out, List.foldl_append, ← HF.out]
          exact (dropStep_hit HY.out hx1).symm
        case measure => simp [intOf]; omega
      | false =>
        go_wp2
        go_roundw
        case rel =>
          refine ⟨k + 1, hd.set p (wrap64 (x - 1)), m, by omega, by go_num, hsr.setHeld p _, ?_, hfw.setCell (.inr rfl) _⟩
          rw [HT.out, List.foldl_append, ← HF.out]
          exact (dropStep_miss HY.out hx1).symm
        case measure => simp [intOf]; omega
    · obtain rfl : k = pl.length := by omega
      go_wp2
      go_end0
      refine ⟨rfl, ?_, hfw⟩
      rw [List.take_length] at hfold
      rw [← hfold]
      exact hsr
end Go.Proofs.Ybulkdbsg
