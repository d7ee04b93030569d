/-
  THE WALK of LawS5154BHooks.
-/
import Derived.Test.YbulkdbsgFmtHooks
import Derived.Test.YbulkdbsgFmtOps
namespace Go.Proofs.YbulkdbsgFmt
open Go.RowKit
set_option linter.unusedVariables false

/-- The law's five small blocks. -/
theorem five (w : World) (o0 o1 o2 o3 o4 : Obj) : (((((w.alloc o0).alloc o1).alloc o2).alloc o3).alloc o4).heap[w.heap.size]? = some o0 ∧ (((((w.alloc o0).alloc o1).alloc o2).alloc o3).alloc o4).heap[w.heap.size + 1]? = some o1 ∧
    (((((w.alloc o0).alloc o1).alloc o2).alloc o3).alloc o4).heap[w.heap.size + 1 + 1]? = some o2 ∧ (((((w.alloc o0).alloc o1).alloc o2).alloc o3).alloc o4).heap[w.heap.size + 1 + 1 + 1]? = some o3 ∧ (((((w.alloc o0).alloc o1).alloc o2).alloc o3).alloc o4).heap[w.heap.size + 1 + 1 + 1 + 1]? = some o4 := by
  have z : ∀ (x : World) (o : Obj), (x.alloc o).heap.size = x.heap.size + 1 := fun x o => by simp
  have n : ∀ (x : World) (o : Obj) (b : Nat), b = x.heap.size → (x.alloc o).heap[b]? = some o := fun x o b h => by subst h; exact heap_alloc_new x o
  have s : ∀ (x : World) (o p : Obj) (b : Nat), x.heap[b]? = some p → (x.alloc o).heap[b]? = some p := fun x o p b h => (Below.heap_alloc _ _ _ (lt_of_block h)).trans h
  exact ⟨s _ _ _ _ (s _ _ _ _ (s _ _ _ _ (s _ _ _ _ (n _ _ _ rfl)))), s _ _ _ _ (s _ _ _ _ (s _ _ _ _ (n _ _ _ (by rw [z])))), s _ _ _ _ (s _ _ _ _ (n _ _ _ (by rw [z, z]))), s _ _ _ _ (n _ _ _ (by rw [z, z, z])), n _ _ _ (by rw [z, z, z, z])⟩

attribute [local go_sem] eql43
attribute [local go_sem] eql46

set_option maxRecDepth 100000 in
set_option maxHeartbeats 2000000 in
theorem hooks_walk (path : ByteArray) (word k ch i : Int) (msg1 msg2 : ByteArray) (w : World) :
    Calls Ybaf.prog 4 #[.string path, .int .i32 word, .int .i64 k, .int .i32 ch, .int .i64 i, .string msg1, .string msg2] w fun e w' => e = .returned (.bool true) ∧ Below w.heap.size w w' := by
  go_enter Ybaf.func4, Ybaf.ntmps4
  go_wp2_with fail
  obtain ⟨fW, fK, fL, fI, fR⟩ := five w (.cells #[.int .i32 word] 21) (.cells #[.int .i64 k] 3) (.cells #[.slice none 0 0] 23) (.cells #[.slice none 0 0] 59) (.cells #[.int .i64 0] 32)
  have hbW : Below w.heap.size w (((((w.alloc (.cells #[.int .i32 word] 21)).alloc (.cells #[.int .i64 k] 3)).alloc (.cells #[.slice none 0 0] 23)).alloc (.cells #[.slice none 0 0] 59)).alloc (.cells #[.int .i64 0] 32)) := (Fr.refl (fun _ => False) w).alloc _ |>.alloc _ |>.alloc _ |>.alloc _ |>.alloc _ |>.below (Nat.le_refl _) (fun _ h => h.elim)
  have hR1 := lt_of_block fR
  generalize (((((w.alloc (.cells #[.int .i32 word] 21)).alloc (.cells #[.int .i64 k] 3)).alloc (.cells #[.slice none 0 0] 23)).alloc (.cells #[.slice none 0 0] 59)).alloc (.cells #[.int .i64 0] 32)) = W at fW fK fL fI fR hbW hR1 ⊢
  generalize hR : w.heap.size + 1 + 1 + 1 + 1 = R at *
  generalize hI : w.heap.size + 1 + 1 + 1 = I at *
  generalize hL : w.heap.size + 1 + 1 = L at *
  generalize hK : w.heap.size + 1 = K at *
  have hnew := new_any (.pointer (some ⟨R, 0, none⟩)) 30 path (.func (.func 7) #[] #[.pointer (some ⟨L, 0, none⟩), .pointer (some ⟨I, 0, none⟩), .pointer (some ⟨w.heap.size, 0, none⟩), .pointer (some ⟨K, 0, none⟩)]) none 0 0 0 (fun _ => ByteArray.empty) (fun _ => 0) (fun _ => 0) W (by decide) rfl (fun h => by omega) (fun j h => by omega) (fun j h => by omega)
  have hWS : W.heap.size ≤ W.heap.size := Nat.le_refl _
  generalize hS : W.heap.size = S at hnew hR1
  have HQ : Hid (w.heap.size + 1 = K ∧ K + 1 = L ∧ L + 1 = I ∧ I + 1 = R ∧ R < S) := ⟨hK, hL, hI, hR, hR1⟩
  clear hK hL hI hR hWS
  go_wp2_with (go_at_call 6; go_must (refine hnew.mono ?_; rintro e W4 ⟨rfl, F, ov, hcf, hmade, hown4, bel4, hsz4⟩; clear hnew; obtain ⟨vo, vc, vg, hvo, vpos, vcell⟩ := owns_view2 hown4; subst hvo; clear vpos vcell; obtain ⟨c1, c2, c3, c4, c5, c6, c7, c8, c9, c10⟩ := made_cells hcf hmade))
  obtain ⟨q1, q2, q3, q4, q5⟩ := HQ.out
  have gW := bel4.block w.heap.size (by omega)
  have gK := bel4.block K (by omega)
  have gL := bel4.block L (by omega)
  have gI := bel4.block I (by omega)
  have gR := bel4.block R (by omega)
  rw [fW] at gW
  rw [fK] at gK
  rw [fL] at gL
  rw [fI] at gI
  rw [fR] at gR
  have hcl := closure_any ch i word k L I w.heap.size K W4 gL gI (cells_of_block gW 0) (cells_of_block gK 0) (by omega) (by omega) (by omega) (by omega) (by omega)
  have hbel4 : Below w.heap.size w W4 := hbW.trans (bel4.mono (by omega))
  have m1 : ¬ L = S := by omega
  have m2 : ¬ I = S := by omega
  have m3 : ¬ R = L := by omega
  have m4 : ¬ R = I := by omega
  have m5 : ¬ K = L := by omega
  have m6 : ¬ K = I := by omega
  have m7 : ¬ w.heap.size = L := by omega
  have m8 : ¬ w.heap.size = I := by omega
  have m9 : ¬ R = S := by omega
  have m10 : w.heap.size ≤ L := by omega
  have m11 : w.heap.size ≤ I := by omega
  have m12 : w.heap.size ≤ S := by omega
  have hRS := hcf.free 0
  clear fW fK fL fI fR bel4 hbW q1 q2 q3 q4 q5 hR1 hS hown4 HQ hRS
  cases h1 : (ch == word) <;> cases h2 : (i == k)
  all_goals
    rw [h1, h2] at hcl
    simp only [Bool.or_true, Bool.or_false] at hcl
    go_wp2_with (go_at_call 7; go_must (refine hcl.mono ?_; rintro e W5 ⟨rfl, gl, cl, gi, ci, d1, d2, d3, d4, hfr5⟩; clear hcl; have d5 := hfr5.cell (p := ⟨w.heap.size, 0, none⟩) (by simp [m7, m8]) (cells_of_block gW 0); have d6 := hfr5.cell (p := ⟨K, 0, none⟩) (by simp [m5, m6]) (cells_of_block gK 0); have d7 := hfr5.cell (p := ⟨R, 0, none⟩) (by simp [m3, m4]) (cells_of_block gR 0); have hcf5 := hcf.keep hfr5 (by rintro (h | h); exact m1 h.symm; exact m2 h.symm); clear c1 c2 c3 c4 c5 c6 c7 c8 c9 c10; obtain ⟨c1, c2, c3, c4, c5, c6, c7, c8, c9, c10⟩ := made_cells hcf5 hmade))
  all_goals
    have hcf5d : Cf W5.drew S F := hcf5.keep (Fr.refl (fun _ => False) _).drew (fun h => h)
    have hf1 := fail_first S F _ _ _ path msg1 W5.drew hcf5d hmade
    have hb5 : Below w.heap.size w W5 := hbel4.trans (hfr5.below hbel4.size (by rintro q (h | h) <;> omega))
    clear gW gK gL gI gR hfr5 hcf hbel4 hcf5
    go_region_with (go_at_call 10; refine hf1.mono ?_; rintro e W6 ⟨rfl, E, hcf6, hE, hEb, hfr6⟩)
  all_goals
    have k1 : W6.cell? ⟨S, 1052, none⟩ = some (.pointer (some ⟨E, 0, none⟩)) := by rw [hcf6.cell 1052 (by decide), upd_same]
    have k2 : W6.cell? ⟨S, 1039, none⟩ = some (.func (.func 10) #[.pointer (some ⟨S, 0, none⟩)] #[]) := by rw [hcf6.cell 1039 (by decide), upd_ne _ _ (by decide), hmade.hook]
    have hcf6d : Cf W6.drew S (upd F 1052 (.pointer (some ⟨E, 0, none⟩))) := hcf6.keep (Fr.refl (fun _ => False) _).drew (fun h => h)
    have hf2 := fail_next S E _ msg2 W6.drew hcf6d (upd_same _ _ _)
    have d7' := hfr6.cell (p := ⟨R, 0, none⟩) (by simp [m9]) (show W5.drew.cell? ⟨R, 0, none⟩ = some (.int .i64 0) from d7)
    have t0 := cells_of_block hEb 0
    have t1 := cells_of_block hEb 1
    have t2 := cells_of_block hEb 2
    have t3 := cells_of_block hEb 3
    have t4 := cells_of_block hEb 4
    simp at t0 t1 t2 t3 t4
    have hlE := lt_of_block hEb
    have hlR := World.block_lt_of_cell? W6 _ d7'
    simp at hlR
    have hlS := World.block_lt_of_cell? W6 _ k1
    simp at hlS
    have x1 : ¬ E = W6.heap.size := by omega
    have x2 : ¬ S = W6.heap.size := by omega
    have x3 : ¬ R = W6.heap.size := by omega
    have hb6 : Below w.heap.size w W6 := hb5.drew.trans (hfr6.below hb5.size (by intro q h; omega))
    clear hf1 c1 c2 c3 c4 c5 c6 c7 c8 c9 c10 d1 d2 d3 d4 d5 d6 d7 hcf5d hcf6 hEb hfr6 hb5
    go_wp2
    go_region_with (go_at_call 10; refine hf2.mono ?_; rintro e W7 ⟨rfl, rfl⟩)
  all_goals go_wp2
  all_goals go_region
  all_goals go_wp2
  all_goals go_ret
  all_goals exact ⟨rfl, (hb6.alloc hb6.size _).drew.drew⟩
end Go.Proofs.YbulkdbsgFmt
