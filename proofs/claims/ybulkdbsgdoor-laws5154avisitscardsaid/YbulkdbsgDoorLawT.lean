/-
  THE WALK of the law, hasFixed = true.
-/
import Derived.Test.YbulkdbsgDoorPre
namespace Go.Proofs.YbulkdbsgDoor
open Go.RowKit
set_option linter.unusedVariables false
set_option linter.unusedSimpArgs false

set_option maxRecDepth 100000 in
set_option maxHeartbeats 0 in
theorem walkT (a0 a1 : Option Addr) (nr c0 n c1 fixed stop : Nat) (hf : Bool) (hhf : hf = true) (w : World) (xb xo yb yo : Nat) (x : Nat → InR) (v : Nat → Nat) (ha0 : 0 < nr → a0 = some ⟨xb, xo, none⟩) (ha1 : 0 < n → a1 = some ⟨yb, yo, none⟩)
    (hR : RIn w xb xo nr x) (hV : ∀ j, j < n → w.cell? ⟨yb, yo + j, none⟩ = some (.int .u8 (v j)) ∧ v j ≤ 255) (hT : ∀ j, j < 64 → w.cell? ⟨1, j, none⟩ = some (.int .u8 (tab.getD j 0 : Nat))) (hfx : fixed ≤ 255) (hst : stop ≤ 255) :
    Calls Ybad.prog 3 #[.slice a0 nr c0, .slice a1 n c1, .int .u8 fixed, .bool hf, .int .u8 stop] w fun e w' => e = .returned (.bool true) ∧ Below w.heap.size w w' := by
  subst hhf
  have hHR : Hid _ := hR
  have hHV : Hid _ := hV
  have hHT : Hid _ := hT
  have hB0 : ∀ o, Below w.heap.size w (w.alloc o) := fun o => (Below.refl _ w).alloc (Nat.le_refl _) o
  clear hR hV hT
  by_cases h1 : 256 < nr
  · have h1I : (256 : Int) < nr := by omega
    go_enter Ybad.func3, Ybad.ntmps3
    go_wp2
    go_ret
    exact ⟨rfl, hB0 _⟩
  by_cases h2 : 256 < n
  · have h1I : ¬ (256 : Int) < nr := by omega
    have h2I : (256 : Int) < n := by omega
    go_enter Ybad.func3, Ybad.ntmps3
    go_wp2
    go_ret
    exact ⟨rfl, hB0 _⟩
  have h1I : ¬ (256 : Int) < nr := by omega
  have h2I : ¬ (256 : Int) < n := by omega
  have hmm := @run_makeMap Ybad.prog
  go_enter Ybad.func3, Ybad.ntmps3
  go_wp2
  generalize hw3 : (((w.alloc _).alloc _).alloc _).alloc _ = w3
  obtain ⟨z3, k9, kM, kS, kB, F3⟩ := lr_start w x (.int .u8 stop) hw3.symm
  clear hw3 hmm hB0
  generalize eBs : w.heap.size + 1 + 1 + 1 = Bs at *
  generalize eS : w.heap.size + 1 + 1 = S at *
  generalize eM : w.heap.size + 1 = M at *
  generalize e9 : w.heap.size = b9 at *
  have Z3 : Hid (w.heap.size = b9 ∧ M = b9 + 1 ∧ S = b9 + 2 ∧ Bs = b9 + 3 ∧ w3.heap.size = b9 + 4) := ⟨e9, by omega, by omega, by omega, z3⟩
  clear eBs eS eM e9 z3
  have HS0 : Hid _ := kS
  have HM0 : Hid _ := kM
  obtain ⟨i43, hi43, hy0, hy1, hy2⟩ := info_parts info43
  go_loopw [52] (fun t wr => ∃ (i : Nat) (hb lb : Nat → Nat) (rv : Value), i ≤ nr ∧ t = .int .i64 i ∧ LR w3 wr S M x i hb lb rv) (fun t _ => nr - (intOf t).toNat)
  case atStart => exact ⟨0, fun _ => 0, fun _ => 0, _, Nat.zero_le _, rfl, ⟨HS0.out, World.ownsRow_nil _ _ _ _, fun j hj => by omega, Fr.refl _ _, fun _ => rfl⟩⟩
  case round =>
    obtain ⟨i, hb, lb, rv, hi, rfl, hL⟩ := hrel
    by_cases hlt : i < nr
    · obtain rfl := ha0 (by omega)
      obtain ⟨z1, z2, z3, z4, z5⟩ := Z3.out
      have hltI : (i : Int) < nr := by omega
      have hRr := hHR.out.keep (P := fun q => q = S) ((F3.mono (fun _ _ h => h.elim)).trans hL.fr) (fun q hq => by omega)
      have c0 := hRr.c0 i hlt
      have c1 := hRr.c1 i hlt
      have c2 := hRr.c2 i hlt
      have c3 := hRr.c3 i hlt
      have c4 := hRr.c4 i hlt
      have hle := hRr.le i hlt
      have s2' : wr.cell? ⟨S, 2, none⟩ = some rv := cells_of_block hL.s 2
      have sf := free_of_block hL.s 2
      have qB := hL.fr.cell (p := ⟨Bs, 0, none⟩) (by show ¬ Bs = S; omega) kB
      have hsz : w3.heap.size ≤ wr.heap.size := hL.fr.size
      have HNS : Hid (¬ rv.ownBlock = some S ∧ ¬ rv.ownBlock = some Bs ∧ S < wr.heap.size ∧ Bs < wr.heap.size) := ⟨fun e => by have := (own43 hL.own e).1; omega, fun e => by have := (own43 hL.own e).1; omega, by omega, by omega⟩
      have HL : Hid (LR w3 wr S M x i hb lb rv) := hL
      have hax : IntKind.i64.wrap (((x i).adm : Int).tmod 8) = (((x i).adm % 8 : Nat) : Int) := by
        rw [IntKind.wrap_i64, Int.tmod_eq_emod_of_nonneg (by omega)]; omega
      have hrx : IntKind.i64.wrap (((x i).role : Int).tmod 8) = (((x i).role % 8 : Nat) : Int) := by
        rw [IntKind.wrap_i64, Int.tmod_eq_emod_of_nonneg (by omega)]; omega
      have hhx : IntKind.u64.wrap ((x i).h : Int) = ((x i).h : Int) := by rw [IntKind.wrap_u64]; omega
      have hlx : IntKind.u64.wrap ((x i).l : Int) = ((x i).l : Int) := by rw [IntKind.wrap_u64]; omega
      have HX : Hid (∀ hn ln : Nat, ruC (x i) hn ln = [.bool (x i).rv, .int .i64 (IntKind.i64.wrap (((x i).adm : Int).tmod 8)), .slice (some ⟨hn, 0, none⟩) 1 1, .slice (some ⟨ln, 0, none⟩) 1 1, .int .i64 (IntKind.i64.wrap (((x i).role : Int).tmod 8))]) := fun hn ln => by rw [hax, hrx]; rfl
      have HHX : Hid (IntKind.u64.wrap ((x i).h : Int) = ((x i).h : Int)) := hhx
      have HLX : Hid (IntKind.u64.wrap ((x i).l : Int) = ((x i).l : Int)) := hlx
      clear hax hrx hhx hlx hL hRr z1 z2 z3 z4 z5
      go_wp2
      generalize hW1 : wr.alloc _ = W1
      have hz1 : W1.heap.size = wr.heap.size + 1 := by rw [← hW1]; simp
      have hFW1 : Fr (fun _ => False) wr W1 := by rw [← hW1]; exact (Fr.refl _ wr).alloc _
      have hXh : W1.heap[wr.heap.size]? = some (.cells #[.bool (x i).rv, .int .u8 (x i).adm, .int .u8 (x i).role, .int .u8 (x i).h, .int .u8 (x i).l] 40 (0, 0)) := by rw [← hW1]; exact heap_alloc_new wr _
      have x0 : W1.cell? ⟨wr.heap.size, 0, none⟩ = some (.bool (x i).rv) := cells_of_block hXh 0
      have x1 : W1.cell? ⟨wr.heap.size, 1, none⟩ = some (.int .u8 (x i).adm) := cells_of_block hXh 1
      have x2 : W1.cell? ⟨wr.heap.size, 2, none⟩ = some (.int .u8 (x i).role) := cells_of_block hXh 2
      have x3 : W1.cell? ⟨wr.heap.size, 3, none⟩ = some (.int .u8 (x i).h) := cells_of_block hXh 3
      have x4 : W1.cell? ⟨wr.heap.size, 4, none⟩ = some (.int .u8 (x i).l) := cells_of_block hXh 4
      have gB := hFW1.cell (fun h => h) qB
      have gS := hFW1.cell (fun h => h) s2'
      have gF : W1.frozen? ⟨S, 2, none⟩ = false := (hFW1.frozen (p := ⟨S, 2, none⟩) (fun h => h) HNS.out.2.2.1).trans sf
      have gS1 : ∀ o, (W1.alloc o).cell? ⟨S, 2, none⟩ = some rv := fun o => ((Fr.refl (fun _ => False) W1).alloc o).cell (fun h => h) gS
      have gS2 : ∀ o o', ((W1.alloc o).alloc o').cell? ⟨S, 2, none⟩ = some rv := fun o o' => (((Fr.refl (fun _ => False) W1).alloc o).alloc o').cell (fun h => h) gS
      have gS3 : ∀ o o' o'', (((W1.alloc o).alloc o').alloc o'').cell? ⟨S, 2, none⟩ = some rv := fun o o' o'' => ((((Fr.refl (fun _ => False) W1).alloc o).alloc o').alloc o'').cell (fun h => h) gS
      have HOA : Hid (∀ o2 o3 o4, (((W1.alloc o2).alloc o3).alloc o4).drew.ownsRow w3.heap.size 43 5 rv i (rcs x hb lb i)) := fun o2 o3 o4 => (hFW1.trans ((((Fr.refl (fun _ => False) W1).alloc o2).alloc o3).alloc o4).drew).owns HL.out.own (fun _ _ h => h)
      have HNX : Hid (¬ rv.ownBlock = some wr.heap.size) := fun e => by have := (HL.out.own.lt _ e).2; omega
      have HF1 : Hid (Fr (fun _ => False) wr W1) := hFW1
      have HZ : Hid (W1.heap.size = wr.heap.size + 1 ∧ w3.heap.size ≤ wr.heap.size) := ⟨hz1, hsz⟩
      clear hW1 hFW1 hXh qB s2' sf c0 c1 c2 c3 c4 hle hsz
      generalize eX : wr.heap.size = Xb at *
      clear eX
      have HK : Hid (∀ w' : World, Fr (fun _ => False) W1 w' → w'.cell? ⟨Bs, 0, none⟩ = some (.pointer (some ⟨S, 0, none⟩)) ∧ w'.cell? ⟨Xb, 0, none⟩ = some (.bool (x i).rv) ∧ w'.cell? ⟨Xb, 1, none⟩ = some (.int .u8 (x i).adm) ∧ w'.cell? ⟨Xb, 2, none⟩ = some (.int .u8 (x i).role) ∧ w'.cell? ⟨Xb, 3, none⟩ = some (.int .u8 (x i).h) ∧ w'.cell? ⟨Xb, 4, none⟩ = some (.int .u8 (x i).l)) := fun w' hf' => ⟨hf'.cell (fun h => h) gB, hf'.cell (fun h => h) x0, hf'.cell (fun h => h) x1, hf'.cell (fun h => h) x2, hf'.cell (fun h => h) x3, hf'.cell (fun h => h) x4⟩
      have HST : Hid (∀ (w5 : World) (v5 : Value), w5.cell? ⟨Bs, 0, none⟩ = some (.pointer (some ⟨S, 0, none⟩)) → w5.cell? ⟨Xb, 0, none⟩ = some (.bool (x i).rv) → w5.cell? ⟨Xb, 1, none⟩ = some (.int .u8 (x i).adm) → w5.cell? ⟨Xb, 2, none⟩ = some (.int .u8 (x i).role) → w5.cell? ⟨Xb, 3, none⟩ = some (.int .u8 (x i).h) → w5.cell? ⟨Xb, 4, none⟩ = some (.int .u8 (x i).l) → (fun (w' : World) => w'.cell? ⟨Bs, 0, none⟩ = some (.pointer (some ⟨S, 0, none⟩)) ∧ w'.cell? ⟨Xb, 0, none⟩ = some (.bool (x i).rv) ∧ w'.cell? ⟨Xb, 1, none⟩ = some (.int .u8 (x i).adm) ∧ w'.cell? ⟨Xb, 2, none⟩ = some (.int .u8 (x i).role) ∧ w'.cell? ⟨Xb, 3, none⟩ = some (.int .u8 (x i).h) ∧ w'.cell? ⟨Xb, 4, none⟩ = some (.int .u8 (x i).l)) (w5.setCell ⟨S, 2, none⟩ v5)) := fun w5 v5 a b c d e f => by
        have hZ := Z3.out
        have hN := HNS.out
        have hs : Fr (fun q => q = S) w5 (w5.setCell ⟨S, 2, none⟩ v5) := (Fr.refl (fun q => q = S) w5).setCell (p := ⟨S, 2, none⟩) rfl _
        have m1 : ¬ Bs = S := by omega
        have m2 : ¬ Xb = S := by omega
        exact ⟨hs.cell m1 a, hs.cell m2 b, hs.cell m2 c, hs.cell m2 d, hs.cell m2 e, hs.cell m2 f⟩
      have HA : Hid (∀ (o4 : Obj) (w5 : World) (g c : Nat), w5.ownsRow w3.heap.size 43 5 (.slice (some ⟨g, 0, none⟩) (i + 1) c) (i + 1) (rcs x hb lb i ++ [.bool (x i).rv, .int .i64 (IntKind.i64.wrap (((x i).adm : Int).tmod 8)), .slice (some ⟨Xb + 1, 0, none⟩) 1 1, .slice (some ⟨Xb + 1 + 1, 0, none⟩) 1 1, .int .i64 (IntKind.i64.wrap (((x i).role : Int).tmod 8))]) → (((W1.alloc (.cells #[.int .u64 (IntKind.u64.wrap (x i).h)] 41)).alloc (.cells #[.int .u64 (IntKind.u64.wrap (x i).l)] 41)).alloc o4).drew.grownBy w5 rv.ownBlock → ∃ hb' lb', LR w3 (w5.setCell ⟨S, 2, none⟩ (.slice (some ⟨g, 0, none⟩) (i + 1) c)) S M x (i + 1) hb' lb' (.slice (some ⟨g, 0, none⟩) (i + 1) c)) := fun o4 w5 g c ho hg => by
        have hz := Z3.out
        rw [← HX.out] at ho
        refine HL.out.step (HF1.out.trans ((((Fr.refl (fun _ => False) W1).alloc _).alloc _).alloc o4).drew) ?_ ?_ (by omega) (by have := HZ.out; omega) (by have := HZ.out; omega) ho hg
        · exact (setA HZ.out.1).val HHX.out
        · exact (setB HZ.out.1).val HLX.out
      have HBo : Hid (∀ (o4 : Obj) (w5 : World) (g c : Nat), w5.ownsRow w3.heap.size 43 5 (.slice (some ⟨g, 0, none⟩) (i + 1) c) (i + 1) (rcs x hb lb i ++ [.bool (x i).rv, .int .i64 (IntKind.i64.wrap (((x i).adm : Int).tmod 8)), .slice (some ⟨Xb + 1 + 1, 0, none⟩) 1 1, .slice (some ⟨Xb + 1, 0, none⟩) 1 1, .int .i64 (IntKind.i64.wrap (((x i).role : Int).tmod 8))]) → (((W1.alloc (.cells #[.int .u64 (IntKind.u64.wrap (x i).l)] 41)).alloc (.cells #[.int .u64 (IntKind.u64.wrap (x i).h)] 41)).alloc o4).drew.grownBy w5 rv.ownBlock → ∃ hb' lb', LR w3 (w5.setCell ⟨S, 2, none⟩ (.slice (some ⟨g, 0, none⟩) (i + 1) c)) S M x (i + 1) hb' lb' (.slice (some ⟨g, 0, none⟩) (i + 1) c)) := fun o4 w5 g c ho hg => by
        have hz := Z3.out
        rw [← HX.out] at ho
        refine HL.out.step (HF1.out.trans ((((Fr.refl (fun _ => False) W1).alloc _).alloc _).alloc o4).drew) ?_ ?_ (by omega) (by have := HZ.out; omega) (by have := HZ.out; omega) ho hg
        · exact (setB HZ.out.1).val HHX.out
        · exact (setA HZ.out.1).val HLX.out
      have hmx : Ybad.prog.follows .mixedOrders = true := by kernel_rfl
      refine wp_region_held_drew (S := (fun w' => w'.cell? ⟨Bs, 0, none⟩ = some (.pointer (some ⟨S, 0, none⟩)) ∧ w'.cell? ⟨Xb, 0, none⟩ = some (.bool (x i).rv) ∧ w'.cell? ⟨Xb, 1, none⟩ = some (.int .u8 (x i).adm) ∧ w'.cell? ⟨Xb, 2, none⟩ = some (.int .u8 (x i).role) ∧ w'.cell? ⟨Xb, 3, none⟩ = some (.int .u8 (x i).h) ∧ w'.cell? ⟨Xb, 4, none⟩ = some (.int .u8 (x i).l))) hmx (HK.out _ ((Fr.refl _ W1).drew)) (fun hHeld => ?_)
      refine wpAnyH_take (i := 0) (v := ?_) rfl (by kernel_rfl) (by kernel_rfl) (by kernel_rfl) (fun _ _ _ h => h) (Or.inl ⟨by rfl, ?_⟩) (by assumption) ?_
      rotate_left
      focus (intro w hSw; (try dsimp only at hSw); go_simp; (try with_reducible rfl); done)
      (try simp only [Act.put, List.setIfInBounds_toArray, List.set_cons_zero, List.set_cons_succ])
      refine wpAnyH_take (i := 1) (v := ?_) rfl (by kernel_rfl) (by kernel_rfl) (by kernel_rfl) (fun _ _ _ h => h) (Or.inl ⟨by rfl, ?_⟩) (by assumption) ?_
      rotate_left
      focus (intro w hSw; (try dsimp only at hSw); go_simp; (try with_reducible rfl); done)
      (try simp only [Act.put, List.setIfInBounds_toArray, List.set_cons_zero, List.set_cons_succ])
      refine wpAnyH_take (i := 2) (v := ?_) rfl (by kernel_rfl) (by kernel_rfl) (by kernel_rfl) (fun _ _ _ h => h) (Or.inl ⟨by rfl, ?_⟩) (by assumption) ?_
      rotate_left
      focus (intro w hSw; (try dsimp only at hSw); go_simp; (try with_reducible rfl); done)
      (try simp only [Act.put, List.setIfInBounds_toArray, List.set_cons_zero, List.set_cons_succ])
      refine wpAnyH_take (i := 3) (v := ?_) rfl (by kernel_rfl) (by kernel_rfl) (by kernel_rfl) (fun _ _ _ h => h) (Or.inl ⟨by rfl, ?_⟩) (by assumption) ?_
      rotate_left
      focus (intro w hSw; (try dsimp only at hSw); go_simp; (try with_reducible rfl); done)
      (try simp only [Act.put, List.setIfInBounds_toArray, List.set_cons_zero, List.set_cons_succ])
      refine wpAnyH_take (i := 5) (v := ?_) rfl (by kernel_rfl) (by kernel_rfl) (by kernel_rfl) (fun _ _ _ h => h) (Or.inl ⟨by rfl, ?_⟩) (by assumption) ?_
      rotate_left
      focus (intro w hSw; (try dsimp only at hSw); go_simp; (try with_reducible rfl); done)
      (try simp only [Act.put, List.setIfInBounds_toArray, List.set_cons_zero, List.set_cons_succ])
      refine wpAnyH_take (i := 6) (v := ?_) rfl (by kernel_rfl) (by kernel_rfl) (by kernel_rfl) (fun _ _ _ h => h) (Or.inl ⟨by rfl, ?_⟩) (by assumption) ?_
      rotate_left
      focus (intro w hSw; (try dsimp only at hSw); go_simp; (try with_reducible rfl); done)
      (try simp only [Act.put, List.setIfInBounds_toArray, List.set_cons_zero, List.set_cons_succ])
      refine wpAnyH_take (i := 7) (v := ?_) rfl (by kernel_rfl) (by kernel_rfl) (by kernel_rfl) (fun _ _ _ h => h) (Or.inl ⟨by rfl, ?_⟩) (by assumption) ?_
      rotate_left
      focus (intro w hSw; (try dsimp only at hSw); go_simp; (try with_reducible rfl); done)
      (try simp only [Act.put, List.setIfInBounds_toArray, List.set_cons_zero, List.set_cons_succ])
      refine wpAnyH_take (i := 8) (v := ?_) rfl (by kernel_rfl) (by kernel_rfl) (by kernel_rfl) (fun _ _ _ h => h) (Or.inl ⟨by rfl, ?_⟩) (by assumption) ?_
      rotate_left
      focus (intro w hSw; (try dsimp only at hSw); go_simp; (try with_reducible rfl); done)
      (try simp only [Act.put, List.setIfInBounds_toArray, List.set_cons_zero, List.set_cons_succ])
      refine wpAnyH_take (i := 9) (v := ?_) rfl (by kernel_rfl) (by kernel_rfl) (by kernel_rfl) (fun _ _ _ h => h) (Or.inl ⟨by rfl, ?_⟩) (by assumption) ?_
      rotate_left
      focus (intro w hSw; (try dsimp only at hSw); go_simp; (try with_reducible rfl); done)
      (try simp only [Act.put, List.setIfInBounds_toArray, List.set_cons_zero, List.set_cons_succ])
      refine wpAnyH_take (i := 10) (v := ?_) rfl (by kernel_rfl) (by kernel_rfl) (by kernel_rfl) (fun _ _ _ h => h) (Or.inl ⟨by rfl, ?_⟩) (by assumption) ?_
      rotate_left
      focus (intro w hSw; (try dsimp only at hSw); go_simp; (try with_reducible rfl); done)
      (try simp only [Act.put, List.setIfInBounds_toArray, List.set_cons_zero, List.set_cons_succ])
      refine wpAnyH_take (i := 11) (v := ?_) rfl (by kernel_rfl) (by kernel_rfl) (by kernel_rfl) (fun _ _ _ h => h) (Or.inl ⟨by rfl, ?_⟩) (by assumption) ?_
      rotate_left
      focus (intro w hSw; (try dsimp only at hSw); go_simp; (try with_reducible rfl); done)
      (try simp only [Act.put, List.setIfInBounds_toArray, List.set_cons_zero, List.set_cons_succ])
      refine wpAnyH_take (i := 12) (v := ?_) rfl (by kernel_rfl) (by kernel_rfl) (by kernel_rfl) (fun _ _ _ h => h) (Or.inl ⟨by rfl, ?_⟩) (by assumption) ?_
      rotate_left
      focus (intro w hSw; (try dsimp only at hSw); go_simp; (try with_reducible rfl); done)
      (try simp only [Act.put, List.setIfInBounds_toArray, List.set_cons_zero, List.set_cons_succ])
      refine wpAnyH_take (i := 13) (v := ?_) rfl (by kernel_rfl) (by kernel_rfl) (by kernel_rfl) (fun _ _ _ h => h) (Or.inl ⟨by rfl, ?_⟩) (by assumption) ?_
      rotate_left
      focus (intro w hSw; (try dsimp only at hSw); go_simp; (try with_reducible rfl); done)
      (try simp only [Act.put, List.setIfInBounds_toArray, List.set_cons_zero, List.set_cons_succ])
      refine wpAnyH_take (i := 15) (v := ?_) rfl (by kernel_rfl) (by kernel_rfl) (by kernel_rfl) (fun _ _ _ h => h) (Or.inl ⟨by rfl, ?_⟩) (by assumption) ?_
      rotate_left
      focus (intro w hSw; (try dsimp only at hSw); go_simp; (try with_reducible rfl); done)
      (try simp only [Act.put, List.setIfInBounds_toArray, List.set_cons_zero, List.set_cons_succ])
      refine wpAnyH_take (i := 16) (v := ?_) rfl (by kernel_rfl) (by kernel_rfl) (by kernel_rfl) (fun _ _ _ h => h) (Or.inl ⟨by rfl, ?_⟩) (by assumption) ?_
      rotate_left
      focus (intro w hSw; (try dsimp only at hSw); go_simp; (try with_reducible rfl); done)
      (try simp only [Act.put, List.setIfInBounds_toArray, List.set_cons_zero, List.set_cons_succ])
      refine wpAnyH_take (i := 17) (v := ?_) rfl (by kernel_rfl) (by kernel_rfl) (by kernel_rfl) (fun _ _ _ h => h) (Or.inl ⟨by rfl, ?_⟩) (by assumption) ?_
      rotate_left
      focus (intro w hSw; (try dsimp only at hSw); go_simp; (try with_reducible rfl); done)
      (try simp only [Act.put, List.setIfInBounds_toArray, List.set_cons_zero, List.set_cons_succ])
      refine wpAnyH_take (i := 20) (v := ?_) rfl (by kernel_rfl) (by kernel_rfl) (by kernel_rfl) (fun _ _ _ h => h) (Or.inl ⟨by rfl, ?_⟩) (by assumption) ?_
      rotate_left
      focus (intro w hSw; (try dsimp only at hSw); go_simp; (try with_reducible rfl); done)
      (try simp only [Act.put, List.setIfInBounds_toArray, List.set_cons_zero, List.set_cons_succ])
      refine wpAnyH_take (i := 21) (v := ?_) rfl (by kernel_rfl) (by kernel_rfl) (by kernel_rfl) (fun _ _ _ h => h) (Or.inl ⟨by rfl, ?_⟩) (by assumption) ?_
      rotate_left
      focus (intro w hSw; (try dsimp only at hSw); go_simp; (try with_reducible rfl); done)
      (try simp only [Act.put, List.setIfInBounds_toArray, List.set_cons_zero, List.set_cons_succ])
      refine wpAnyH_take (i := 22) (v := ?_) rfl (by kernel_rfl) (by kernel_rfl) (by kernel_rfl) (fun _ _ _ h => h) (Or.inl ⟨by rfl, ?_⟩) (by assumption) ?_
      rotate_left
      focus (intro w hSw; (try dsimp only at hSw); go_simp; (try with_reducible rfl); done)
      (try simp only [Act.put, List.setIfInBounds_toArray, List.set_cons_zero, List.set_cons_succ])
      refine wpAnyH_take (i := 23) (v := ?_) rfl (by kernel_rfl) (by kernel_rfl) (by kernel_rfl) (fun _ _ _ h => h) (Or.inl ⟨by rfl, ?_⟩) (by assumption) ?_
      rotate_left
      focus (intro w hSw; (try dsimp only at hSw); go_simp; (try with_reducible rfl); done)
      (try simp only [Act.put, List.setIfInBounds_toArray, List.set_cons_zero, List.set_cons_succ])
      refine wpAnyH_ready (rs := [4, 14, 18]) (by kernel_rfl) (by simp) ?_
      refine (AllReadyH.cons rfl (fun K hK => ?_) (AllReadyH.cons rfl (fun K hK => ?_) (AllReadyH.cons rfl (fun K hK => ?_) AllReadyH.nil)))
      · go_simp
        refine hK.out _ _ ?_ (fun hHeld => ?_)
        focus ((try dsimp only); (first | exact HK.out _ ((Fr.refl _ W1).drew) | exact HK.out _ (((Fr.refl _ W1).alloc _).drew) | exact HK.out _ ((((Fr.refl _ W1).alloc _).alloc _).drew) | exact HK.out _ (((((Fr.refl _ W1).alloc _).alloc _).alloc _).drew) | exact ⟨e1, e2, e3, e4, e5, e6⟩ | exact HST.out _ _ e1 e2 e3 e4 e5 e6 | go_keep); done)
        clear hK K
        refine wpAnyH_ready (rs := [14, 18]) (by kernel_rfl) (by simp) ?_
        refine (AllReadyH.cons rfl (fun K hK => ?_) (AllReadyH.cons rfl (fun K hK => ?_) AllReadyH.nil))
        · go_simp
          refine hK.out _ _ ?_ (fun hHeld => ?_)
          focus ((try dsimp only); (first | exact HK.out _ ((Fr.refl _ W1).drew) | exact HK.out _ (((Fr.refl _ W1).alloc _).drew) | exact HK.out _ ((((Fr.refl _ W1).alloc _).alloc _).drew) | exact HK.out _ (((((Fr.refl _ W1).alloc _).alloc _).alloc _).drew) | exact ⟨e1, e2, e3, e4, e5, e6⟩ | exact HST.out _ _ e1 e2 e3 e4 e5 e6 | go_keep); done)
          clear hK K
          refine wpAnyH_ready (rs := [18]) (by kernel_rfl) (by simp) ?_
          refine (AllReadyH.cons rfl (fun K hK => ?_) AllReadyH.nil)
          · go_simp
            refine hK.out _ _ ?_ (fun hHeld => ?_)
            focus ((try dsimp only); (first | exact HK.out _ ((Fr.refl _ W1).drew) | exact HK.out _ (((Fr.refl _ W1).alloc _).drew) | exact HK.out _ ((((Fr.refl _ W1).alloc _).alloc _).drew) | exact HK.out _ (((((Fr.refl _ W1).alloc _).alloc _).alloc _).drew) | exact ⟨e1, e2, e3, e4, e5, e6⟩ | exact HST.out _ _ e1 e2 e3 e4 e5 e6 | go_keep); done)
            clear hK K
            refine wpAnyH_take (i := 19) (v := ?_) rfl (by kernel_rfl) (by kernel_rfl) (by kernel_rfl) (fun _ _ _ h => h) (Or.inl ⟨by rfl, ?_⟩) (by assumption) ?_
            rotate_left
            focus (intro w hSw; (try dsimp only at hSw); go_simp; (try with_reducible rfl); done)
            (try simp only [Act.put, List.setIfInBounds_toArray, List.set_cons_zero, List.set_cons_succ])
            refine wpAnyH_take (i := 24) (v := ?_) rfl (by kernel_rfl) (by kernel_rfl) (by kernel_rfl) (fun _ _ _ h => h) (Or.inl ⟨by rfl, ?_⟩) (by assumption) ?_
            rotate_left
            focus (intro w hSw; (try dsimp only at hSw); go_simp; (try with_reducible rfl); done)
            (try simp only [Act.put, List.setIfInBounds_toArray, List.set_cons_zero, List.set_cons_succ])
            refine wpAnyH_ready (rs := [25]) (by kernel_rfl) (by simp) ?_
            refine (AllReadyH.cons rfl (fun K hK => ?_) AllReadyH.nil)
            · go_simp
              refine hK.out _ _ ?_ (fun hHeld => ?_)
              focus ((try dsimp only); (first | exact HK.out _ ((Fr.refl _ W1).drew) | exact HK.out _ (((Fr.refl _ W1).alloc _).drew) | exact HK.out _ ((((Fr.refl _ W1).alloc _).alloc _).drew) | exact HK.out _ (((((Fr.refl _ W1).alloc _).alloc _).alloc _).drew) | exact ⟨e1, e2, e3, e4, e5, e6⟩ | exact HST.out _ _ e1 e2 e3 e4 e5 e6 | go_keep); done)
              clear hK K
              refine wpAnyH_ready (rs := [26]) (by kernel_rfl) (by simp) ?_
              refine (AllReadyH.cons rfl (fun K hK => ?_) AllReadyH.nil)
              · (refine step_append_own rfl (.tmp 60) (.tmp 81) 27 rfl w3.heap.size 43 i43 (.agg #[.bool false, .int .i64 0, .slice none 0 0, .slice none 0 0, .int .i64 0]) 5 72 Ybad.underlying27 hi43 hy0 hy1 hy2 rfl (by decide) rv i (rcs x hb lb i) (by simp [Act.eval]) (HOA.out _ _ _) ⟨Xb + 1 + 1 + 1, 0, none⟩ 1 1 [_, _, _, _, _] (by simp [Act.eval]) rfl (five_news (by simp [HZ.out.1])) (by intro u hu; simp at hu; rcases hu with rfl | rfl | rfl | rfl | rfl <;> rfl) (by unfold maxLen; omega) (by omega) (by have := HZ.out; simp; omega) ?_; intro v2 w5 hown5 hgrow5; obtain ⟨g5, c5, hv5, hg5, _, _⟩ := owns_pos hown5 (by omega); subst hv5; have hfr5 : Fr (fun b => rv.ownBlock = some b) W1 w5 := ((((Fr.refl _ W1).alloc _).alloc _).alloc _).drew.grown hgrow5 (fun _ hk _ => hk); have d1 := hfr5.cell (p := ⟨S, 2, none⟩) HNS.out.1 gS; have f1 := (hfr5.frozen (p := ⟨S, 2, none⟩) HNS.out.1 (by have := HNS.out; have := HZ.out; show S < _; omega)).trans gF; have e1 := hfr5.cell (p := ⟨Bs, 0, none⟩) HNS.out.2.1 gB; have e2 := hfr5.cell (p := ⟨Xb, 0, none⟩) HNX.out x0; have e3 := hfr5.cell (p := ⟨Xb, 1, none⟩) HNX.out x1; have e4 := hfr5.cell (p := ⟨Xb, 2, none⟩) HNX.out x2; have e5 := hfr5.cell (p := ⟨Xb, 3, none⟩) HNX.out x3; have e6 := hfr5.cell (p := ⟨Xb, 4, none⟩) HNX.out x4)
                refine hK.out _ _ ?_ (fun hHeld => ?_)
                focus ((try dsimp only); (first | exact HK.out _ ((Fr.refl _ W1).drew) | exact HK.out _ (((Fr.refl _ W1).alloc _).drew) | exact HK.out _ ((((Fr.refl _ W1).alloc _).alloc _).drew) | exact HK.out _ (((((Fr.refl _ W1).alloc _).alloc _).alloc _).drew) | exact ⟨e1, e2, e3, e4, e5, e6⟩ | exact HST.out _ _ e1 e2 e3 e4 e5 e6 | go_keep); done)
                clear hK K
                refine wpAnyH_take (i := 27) (v := ?_) rfl (by kernel_rfl) (by kernel_rfl) (by kernel_rfl) (fun _ _ _ h => h) (Or.inl ⟨by rfl, ?_⟩) (by assumption) ?_
                rotate_left
                focus (intro w hSw; (try dsimp only at hSw); go_simp; (try with_reducible rfl); done)
                (try simp only [Act.put, List.setIfInBounds_toArray, List.set_cons_zero, List.set_cons_succ])
                refine wpAnyH_take (i := 28) (v := ?_) rfl (by kernel_rfl) (by kernel_rfl) (by kernel_rfl) (fun _ _ _ h => h) (Or.inl ⟨by rfl, ?_⟩) (by assumption) ?_
                rotate_left
                focus (intro w hSw; (try dsimp only at hSw); go_simp; (try with_reducible rfl); done)
                (try simp only [Act.put, List.setIfInBounds_toArray, List.set_cons_zero, List.set_cons_succ])
                refine wpAnyH_ready (rs := [29]) (by kernel_rfl) (by simp) ?_
                refine (AllReadyH.cons rfl (fun K hK => ?_) AllReadyH.nil)
                · go_simp
                  refine hK.out _ _ ?_ (fun hHeld => ?_)
                  focus ((try dsimp only); (first | exact HK.out _ ((Fr.refl _ W1).drew) | exact HK.out _ (((Fr.refl _ W1).alloc _).drew) | exact HK.out _ ((((Fr.refl _ W1).alloc _).alloc _).drew) | exact HK.out _ (((((Fr.refl _ W1).alloc _).alloc _).alloc _).drew) | exact ⟨e1, e2, e3, e4, e5, e6⟩ | exact HST.out _ _ e1 e2 e3 e4 e5 e6 | go_keep); done)
                  clear hK K
                  refine wpAnyH_done (by kernel_rfl) ?_ _
                  go_wp2
                  (obtain ⟨hb', lb', hL'⟩ := HA.out _ _ _ _ hown5 hgrow5; exact ⟨⟨i + 1, hb', lb', _, by omega, by go_num, hL'⟩, by simp [intOf]; omega⟩)
        · go_simp
          refine hK.out _ _ ?_ (fun hHeld => ?_)
          focus ((try dsimp only); (first | exact HK.out _ ((Fr.refl _ W1).drew) | exact HK.out _ (((Fr.refl _ W1).alloc _).drew) | exact HK.out _ ((((Fr.refl _ W1).alloc _).alloc _).drew) | exact HK.out _ (((((Fr.refl _ W1).alloc _).alloc _).alloc _).drew) | exact ⟨e1, e2, e3, e4, e5, e6⟩ | exact HST.out _ _ e1 e2 e3 e4 e5 e6 | go_keep); done)
          clear hK K
          refine wpAnyH_ready (rs := [14]) (by kernel_rfl) (by simp) ?_
          refine (AllReadyH.cons rfl (fun K hK => ?_) AllReadyH.nil)
          · go_simp
            refine hK.out _ _ ?_ (fun hHeld => ?_)
            focus ((try dsimp only); (first | exact HK.out _ ((Fr.refl _ W1).drew) | exact HK.out _ (((Fr.refl _ W1).alloc _).drew) | exact HK.out _ ((((Fr.refl _ W1).alloc _).alloc _).drew) | exact HK.out _ (((((Fr.refl _ W1).alloc _).alloc _).alloc _).drew) | exact ⟨e1, e2, e3, e4, e5, e6⟩ | exact HST.out _ _ e1 e2 e3 e4 e5 e6 | go_keep); done)
            clear hK K
            refine wpAnyH_take (i := 19) (v := ?_) rfl (by kernel_rfl) (by kernel_rfl) (by kernel_rfl) (fun _ _ _ h => h) (Or.inl ⟨by rfl, ?_⟩) (by assumption) ?_
            rotate_left
            focus (intro w hSw; (try dsimp only at hSw); go_simp; (try with_reducible rfl); done)
            (try simp only [Act.put, List.setIfInBounds_toArray, List.set_cons_zero, List.set_cons_succ])
            refine wpAnyH_take (i := 24) (v := ?_) rfl (by kernel_rfl) (by kernel_rfl) (by kernel_rfl) (fun _ _ _ h => h) (Or.inl ⟨by rfl, ?_⟩) (by assumption) ?_
            rotate_left
            focus (intro w hSw; (try dsimp only at hSw); go_simp; (try with_reducible rfl); done)
            (try simp only [Act.put, List.setIfInBounds_toArray, List.set_cons_zero, List.set_cons_succ])
            refine wpAnyH_ready (rs := [25]) (by kernel_rfl) (by simp) ?_
            refine (AllReadyH.cons rfl (fun K hK => ?_) AllReadyH.nil)
            · go_simp
              refine hK.out _ _ ?_ (fun hHeld => ?_)
              focus ((try dsimp only); (first | exact HK.out _ ((Fr.refl _ W1).drew) | exact HK.out _ (((Fr.refl _ W1).alloc _).drew) | exact HK.out _ ((((Fr.refl _ W1).alloc _).alloc _).drew) | exact HK.out _ (((((Fr.refl _ W1).alloc _).alloc _).alloc _).drew) | exact ⟨e1, e2, e3, e4, e5, e6⟩ | exact HST.out _ _ e1 e2 e3 e4 e5 e6 | go_keep); done)
              clear hK K
              refine wpAnyH_ready (rs := [26]) (by kernel_rfl) (by simp) ?_
              refine (AllReadyH.cons rfl (fun K hK => ?_) AllReadyH.nil)
              · (refine step_append_own rfl (.tmp 60) (.tmp 81) 27 rfl w3.heap.size 43 i43 (.agg #[.bool false, .int .i64 0, .slice none 0 0, .slice none 0 0, .int .i64 0]) 5 72 Ybad.underlying27 hi43 hy0 hy1 hy2 rfl (by decide) rv i (rcs x hb lb i) (by simp [Act.eval]) (HOA.out _ _ _) ⟨Xb + 1 + 1 + 1, 0, none⟩ 1 1 [_, _, _, _, _] (by simp [Act.eval]) rfl (five_news (by simp [HZ.out.1])) (by intro u hu; simp at hu; rcases hu with rfl | rfl | rfl | rfl | rfl <;> rfl) (by unfold maxLen; omega) (by omega) (by have := HZ.out; simp; omega) ?_; intro v2 w5 hown5 hgrow5; obtain ⟨g5, c5, hv5, hg5, _, _⟩ := owns_pos hown5 (by omega); subst hv5; have hfr5 : Fr (fun b => rv.ownBlock = some b) W1 w5 := ((((Fr.refl _ W1).alloc _).alloc _).alloc _).drew.grown hgrow5 (fun _ hk _ => hk); have d1 := hfr5.cell (p := ⟨S, 2, none⟩) HNS.out.1 gS; have f1 := (hfr5.frozen (p := ⟨S, 2, none⟩) HNS.out.1 (by have := HNS.out; have := HZ.out; show S < _; omega)).trans gF; have e1 := hfr5.cell (p := ⟨Bs, 0, none⟩) HNS.out.2.1 gB; have e2 := hfr5.cell (p := ⟨Xb, 0, none⟩) HNX.out x0; have e3 := hfr5.cell (p := ⟨Xb, 1, none⟩) HNX.out x1; have e4 := hfr5.cell (p := ⟨Xb, 2, none⟩) HNX.out x2; have e5 := hfr5.cell (p := ⟨Xb, 3, none⟩) HNX.out x3; have e6 := hfr5.cell (p := ⟨Xb, 4, none⟩) HNX.out x4)
                refine hK.out _ _ ?_ (fun hHeld => ?_)
                focus ((try dsimp only); (first | exact HK.out _ ((Fr.refl _ W1).drew) | exact HK.out _ (((Fr.refl _ W1).alloc _).drew) | exact HK.out _ ((((Fr.refl _ W1).alloc _).alloc _).drew) | exact HK.out _ (((((Fr.refl _ W1).alloc _).alloc _).alloc _).drew) | exact ⟨e1, e2, e3, e4, e5, e6⟩ | exact HST.out _ _ e1 e2 e3 e4 e5 e6 | go_keep); done)
                clear hK K
                refine wpAnyH_take (i := 27) (v := ?_) rfl (by kernel_rfl) (by kernel_rfl) (by kernel_rfl) (fun _ _ _ h => h) (Or.inl ⟨by rfl, ?_⟩) (by assumption) ?_
                rotate_left
                focus (intro w hSw; (try dsimp only at hSw); go_simp; (try with_reducible rfl); done)
                (try simp only [Act.put, List.setIfInBounds_toArray, List.set_cons_zero, List.set_cons_succ])
                refine wpAnyH_take (i := 28) (v := ?_) rfl (by kernel_rfl) (by kernel_rfl) (by kernel_rfl) (fun _ _ _ h => h) (Or.inl ⟨by rfl, ?_⟩) (by assumption) ?_
                rotate_left
                focus (intro w hSw; (try dsimp only at hSw); go_simp; (try with_reducible rfl); done)
                (try simp only [Act.put, List.setIfInBounds_toArray, List.set_cons_zero, List.set_cons_succ])
                refine wpAnyH_ready (rs := [29]) (by kernel_rfl) (by simp) ?_
                refine (AllReadyH.cons rfl (fun K hK => ?_) AllReadyH.nil)
                · go_simp
                  refine hK.out _ _ ?_ (fun hHeld => ?_)
                  focus ((try dsimp only); (first | exact HK.out _ ((Fr.refl _ W1).drew) | exact HK.out _ (((Fr.refl _ W1).alloc _).drew) | exact HK.out _ ((((Fr.refl _ W1).alloc _).alloc _).drew) | exact HK.out _ (((((Fr.refl _ W1).alloc _).alloc _).alloc _).drew) | exact ⟨e1, e2, e3, e4, e5, e6⟩ | exact HST.out _ _ e1 e2 e3 e4 e5 e6 | go_keep); done)
                  clear hK K
                  refine wpAnyH_done (by kernel_rfl) ?_ _
                  go_wp2
                  (obtain ⟨hb', lb', hL'⟩ := HBo.out _ _ _ _ hown5 hgrow5; exact ⟨⟨i + 1, hb', lb', _, by omega, by go_num, hL'⟩, by simp [intOf]; omega⟩)
      · go_simp
        refine hK.out _ _ ?_ (fun hHeld => ?_)
        focus ((try dsimp only); (first | exact HK.out _ ((Fr.refl _ W1).drew) | exact HK.out _ (((Fr.refl _ W1).alloc _).drew) | exact HK.out _ ((((Fr.refl _ W1).alloc _).alloc _).drew) | exact HK.out _ (((((Fr.refl _ W1).alloc _).alloc _).alloc _).drew) | exact ⟨e1, e2, e3, e4, e5, e6⟩ | exact HST.out _ _ e1 e2 e3 e4 e5 e6 | go_keep); done)
        clear hK K
        refine wpAnyH_ready (rs := [4, 18]) (by kernel_rfl) (by simp) ?_
        refine (AllReadyH.cons rfl (fun K hK => ?_) (AllReadyH.cons rfl (fun K hK => ?_) AllReadyH.nil))
        · go_simp
          refine hK.out _ _ ?_ (fun hHeld => ?_)
          focus ((try dsimp only); (first | exact HK.out _ ((Fr.refl _ W1).drew) | exact HK.out _ (((Fr.refl _ W1).alloc _).drew) | exact HK.out _ ((((Fr.refl _ W1).alloc _).alloc _).drew) | exact HK.out _ (((((Fr.refl _ W1).alloc _).alloc _).alloc _).drew) | exact ⟨e1, e2, e3, e4, e5, e6⟩ | exact HST.out _ _ e1 e2 e3 e4 e5 e6 | go_keep); done)
          clear hK K
          refine wpAnyH_ready (rs := [18]) (by kernel_rfl) (by simp) ?_
          refine (AllReadyH.cons rfl (fun K hK => ?_) AllReadyH.nil)
          · go_simp
            refine hK.out _ _ ?_ (fun hHeld => ?_)
            focus ((try dsimp only); (first | exact HK.out _ ((Fr.refl _ W1).drew) | exact HK.out _ (((Fr.refl _ W1).alloc _).drew) | exact HK.out _ ((((Fr.refl _ W1).alloc _).alloc _).drew) | exact HK.out _ (((((Fr.refl _ W1).alloc _).alloc _).alloc _).drew) | exact ⟨e1, e2, e3, e4, e5, e6⟩ | exact HST.out _ _ e1 e2 e3 e4 e5 e6 | go_keep); done)
            clear hK K
            refine wpAnyH_take (i := 19) (v := ?_) rfl (by kernel_rfl) (by kernel_rfl) (by kernel_rfl) (fun _ _ _ h => h) (Or.inl ⟨by rfl, ?_⟩) (by assumption) ?_
            rotate_left
            focus (intro w hSw; (try dsimp only at hSw); go_simp; (try with_reducible rfl); done)
            (try simp only [Act.put, List.setIfInBounds_toArray, List.set_cons_zero, List.set_cons_succ])
            refine wpAnyH_take (i := 24) (v := ?_) rfl (by kernel_rfl) (by kernel_rfl) (by kernel_rfl) (fun _ _ _ h => h) (Or.inl ⟨by rfl, ?_⟩) (by assumption) ?_
            rotate_left
            focus (intro w hSw; (try dsimp only at hSw); go_simp; (try with_reducible rfl); done)
            (try simp only [Act.put, List.setIfInBounds_toArray, List.set_cons_zero, List.set_cons_succ])
            refine wpAnyH_ready (rs := [25]) (by kernel_rfl) (by simp) ?_
            refine (AllReadyH.cons rfl (fun K hK => ?_) AllReadyH.nil)
            · go_simp
              refine hK.out _ _ ?_ (fun hHeld => ?_)
              focus ((try dsimp only); (first | exact HK.out _ ((Fr.refl _ W1).drew) | exact HK.out _ (((Fr.refl _ W1).alloc _).drew) | exact HK.out _ ((((Fr.refl _ W1).alloc _).alloc _).drew) | exact HK.out _ (((((Fr.refl _ W1).alloc _).alloc _).alloc _).drew) | exact ⟨e1, e2, e3, e4, e5, e6⟩ | exact HST.out _ _ e1 e2 e3 e4 e5 e6 | go_keep); done)
              clear hK K
              refine wpAnyH_ready (rs := [26]) (by kernel_rfl) (by simp) ?_
              refine (AllReadyH.cons rfl (fun K hK => ?_) AllReadyH.nil)
              · (refine step_append_own rfl (.tmp 60) (.tmp 81) 27 rfl w3.heap.size 43 i43 (.agg #[.bool false, .int .i64 0, .slice none 0 0, .slice none 0 0, .int .i64 0]) 5 72 Ybad.underlying27 hi43 hy0 hy1 hy2 rfl (by decide) rv i (rcs x hb lb i) (by simp [Act.eval]) (HOA.out _ _ _) ⟨Xb + 1 + 1 + 1, 0, none⟩ 1 1 [_, _, _, _, _] (by simp [Act.eval]) rfl (five_news (by simp [HZ.out.1])) (by intro u hu; simp at hu; rcases hu with rfl | rfl | rfl | rfl | rfl <;> rfl) (by unfold maxLen; omega) (by omega) (by have := HZ.out; simp; omega) ?_; intro v2 w5 hown5 hgrow5; obtain ⟨g5, c5, hv5, hg5, _, _⟩ := owns_pos hown5 (by omega); subst hv5; have hfr5 : Fr (fun b => rv.ownBlock = some b) W1 w5 := ((((Fr.refl _ W1).alloc _).alloc _).alloc _).drew.grown hgrow5 (fun _ hk _ => hk); have d1 := hfr5.cell (p := ⟨S, 2, none⟩) HNS.out.1 gS; have f1 := (hfr5.frozen (p := ⟨S, 2, none⟩) HNS.out.1 (by have := HNS.out; have := HZ.out; show S < _; omega)).trans gF; have e1 := hfr5.cell (p := ⟨Bs, 0, none⟩) HNS.out.2.1 gB; have e2 := hfr5.cell (p := ⟨Xb, 0, none⟩) HNX.out x0; have e3 := hfr5.cell (p := ⟨Xb, 1, none⟩) HNX.out x1; have e4 := hfr5.cell (p := ⟨Xb, 2, none⟩) HNX.out x2; have e5 := hfr5.cell (p := ⟨Xb, 3, none⟩) HNX.out x3; have e6 := hfr5.cell (p := ⟨Xb, 4, none⟩) HNX.out x4)
                refine hK.out _ _ ?_ (fun hHeld => ?_)
                focus ((try dsimp only); (first | exact HK.out _ ((Fr.refl _ W1).drew) | exact HK.out _ (((Fr.refl _ W1).alloc _).drew) | exact HK.out _ ((((Fr.refl _ W1).alloc _).alloc _).drew) | exact HK.out _ (((((Fr.refl _ W1).alloc _).alloc _).alloc _).drew) | exact ⟨e1, e2, e3, e4, e5, e6⟩ | exact HST.out _ _ e1 e2 e3 e4 e5 e6 | go_keep); done)
                clear hK K
                refine wpAnyH_take (i := 27) (v := ?_) rfl (by kernel_rfl) (by kernel_rfl) (by kernel_rfl) (fun _ _ _ h => h) (Or.inl ⟨by rfl, ?_⟩) (by assumption) ?_
                rotate_left
                focus (intro w hSw; (try dsimp only at hSw); go_simp; (try with_reducible rfl); done)
                (try simp only [Act.put, List.setIfInBounds_toArray, List.set_cons_zero, List.set_cons_succ])
                refine wpAnyH_take (i := 28) (v := ?_) rfl (by kernel_rfl) (by kernel_rfl) (by kernel_rfl) (fun _ _ _ h => h) (Or.inl ⟨by rfl, ?_⟩) (by assumption) ?_
                rotate_left
                focus (intro w hSw; (try dsimp only at hSw); go_simp; (try with_reducible rfl); done)
                (try simp only [Act.put, List.setIfInBounds_toArray, List.set_cons_zero, List.set_cons_succ])
                refine wpAnyH_ready (rs := [29]) (by kernel_rfl) (by simp) ?_
                refine (AllReadyH.cons rfl (fun K hK => ?_) AllReadyH.nil)
                · go_simp
                  refine hK.out _ _ ?_ (fun hHeld => ?_)
                  focus ((try dsimp only); (first | exact HK.out _ ((Fr.refl _ W1).drew) | exact HK.out _ (((Fr.refl _ W1).alloc _).drew) | exact HK.out _ ((((Fr.refl _ W1).alloc _).alloc _).drew) | exact HK.out _ (((((Fr.refl _ W1).alloc _).alloc _).alloc _).drew) | exact ⟨e1, e2, e3, e4, e5, e6⟩ | exact HST.out _ _ e1 e2 e3 e4 e5 e6 | go_keep); done)
                  clear hK K
                  refine wpAnyH_done (by kernel_rfl) ?_ _
                  go_wp2
                  (obtain ⟨hb', lb', hL'⟩ := HA.out _ _ _ _ hown5 hgrow5; exact ⟨⟨i + 1, hb', lb', _, by omega, by go_num, hL'⟩, by simp [intOf]; omega⟩)
        · go_simp
          refine hK.out _ _ ?_ (fun hHeld => ?_)
          focus ((try dsimp only); (first | exact HK.out _ ((Fr.refl _ W1).drew) | exact HK.out _ (((Fr.refl _ W1).alloc _).drew) | exact HK.out _ ((((Fr.refl _ W1).alloc _).alloc _).drew) | exact HK.out _ (((((Fr.refl _ W1).alloc _).alloc _).alloc _).drew) | exact ⟨e1, e2, e3, e4, e5, e6⟩ | exact HST.out _ _ e1 e2 e3 e4 e5 e6 | go_keep); done)
          clear hK K
          refine wpAnyH_take (i := 19) (v := ?_) rfl (by kernel_rfl) (by kernel_rfl) (by kernel_rfl) (fun _ _ _ h => h) (Or.inl ⟨by rfl, ?_⟩) (by assumption) ?_
          rotate_left
          focus (intro w hSw; (try dsimp only at hSw); go_simp; (try with_reducible rfl); done)
          (try simp only [Act.put, List.setIfInBounds_toArray, List.set_cons_zero, List.set_cons_succ])
          refine wpAnyH_take (i := 24) (v := ?_) rfl (by kernel_rfl) (by kernel_rfl) (by kernel_rfl) (fun _ _ _ h => h) (Or.inl ⟨by rfl, ?_⟩) (by assumption) ?_
          rotate_left
          focus (intro w hSw; (try dsimp only at hSw); go_simp; (try with_reducible rfl); done)
          (try simp only [Act.put, List.setIfInBounds_toArray, List.set_cons_zero, List.set_cons_succ])
          refine wpAnyH_ready (rs := [4, 25]) (by kernel_rfl) (by simp) ?_
          refine (AllReadyH.cons rfl (fun K hK => ?_) (AllReadyH.cons rfl (fun K hK => ?_) AllReadyH.nil))
          · go_simp
            refine hK.out _ _ ?_ (fun hHeld => ?_)
            focus ((try dsimp only); (first | exact HK.out _ ((Fr.refl _ W1).drew) | exact HK.out _ (((Fr.refl _ W1).alloc _).drew) | exact HK.out _ ((((Fr.refl _ W1).alloc _).alloc _).drew) | exact HK.out _ (((((Fr.refl _ W1).alloc _).alloc _).alloc _).drew) | exact ⟨e1, e2, e3, e4, e5, e6⟩ | exact HST.out _ _ e1 e2 e3 e4 e5 e6 | go_keep); done)
            clear hK K
            refine wpAnyH_ready (rs := [25]) (by kernel_rfl) (by simp) ?_
            refine (AllReadyH.cons rfl (fun K hK => ?_) AllReadyH.nil)
            · go_simp
              refine hK.out _ _ ?_ (fun hHeld => ?_)
              focus ((try dsimp only); (first | exact HK.out _ ((Fr.refl _ W1).drew) | exact HK.out _ (((Fr.refl _ W1).alloc _).drew) | exact HK.out _ ((((Fr.refl _ W1).alloc _).alloc _).drew) | exact HK.out _ (((((Fr.refl _ W1).alloc _).alloc _).alloc _).drew) | exact ⟨e1, e2, e3, e4, e5, e6⟩ | exact HST.out _ _ e1 e2 e3 e4 e5 e6 | go_keep); done)
              clear hK K
              refine wpAnyH_ready (rs := [26]) (by kernel_rfl) (by simp) ?_
              refine (AllReadyH.cons rfl (fun K hK => ?_) AllReadyH.nil)
              · (refine step_append_own rfl (.tmp 60) (.tmp 81) 27 rfl w3.heap.size 43 i43 (.agg #[.bool false, .int .i64 0, .slice none 0 0, .slice none 0 0, .int .i64 0]) 5 72 Ybad.underlying27 hi43 hy0 hy1 hy2 rfl (by decide) rv i (rcs x hb lb i) (by simp [Act.eval]) (HOA.out _ _ _) ⟨Xb + 1 + 1 + 1, 0, none⟩ 1 1 [_, _, _, _, _] (by simp [Act.eval]) rfl (five_news (by simp [HZ.out.1])) (by intro u hu; simp at hu; rcases hu with rfl | rfl | rfl | rfl | rfl <;> rfl) (by unfold maxLen; omega) (by omega) (by have := HZ.out; simp; omega) ?_; intro v2 w5 hown5 hgrow5; obtain ⟨g5, c5, hv5, hg5, _, _⟩ := owns_pos hown5 (by omega); subst hv5; have hfr5 : Fr (fun b => rv.ownBlock = some b) W1 w5 := ((((Fr.refl _ W1).alloc _).alloc _).alloc _).drew.grown hgrow5 (fun _ hk _ => hk); have d1 := hfr5.cell (p := ⟨S, 2, none⟩) HNS.out.1 gS; have f1 := (hfr5.frozen (p := ⟨S, 2, none⟩) HNS.out.1 (by have := HNS.out; have := HZ.out; show S < _; omega)).trans gF; have e1 := hfr5.cell (p := ⟨Bs, 0, none⟩) HNS.out.2.1 gB; have e2 := hfr5.cell (p := ⟨Xb, 0, none⟩) HNX.out x0; have e3 := hfr5.cell (p := ⟨Xb, 1, none⟩) HNX.out x1; have e4 := hfr5.cell (p := ⟨Xb, 2, none⟩) HNX.out x2; have e5 := hfr5.cell (p := ⟨Xb, 3, none⟩) HNX.out x3; have e6 := hfr5.cell (p := ⟨Xb, 4, none⟩) HNX.out x4)
                refine hK.out _ _ ?_ (fun hHeld => ?_)
                focus ((try dsimp only); (first | exact HK.out _ ((Fr.refl _ W1).drew) | exact HK.out _ (((Fr.refl _ W1).alloc _).drew) | exact HK.out _ ((((Fr.refl _ W1).alloc _).alloc _).drew) | exact HK.out _ (((((Fr.refl _ W1).alloc _).alloc _).alloc _).drew) | exact ⟨e1, e2, e3, e4, e5, e6⟩ | exact HST.out _ _ e1 e2 e3 e4 e5 e6 | go_keep); done)
                clear hK K
                refine wpAnyH_take (i := 27) (v := ?_) rfl (by kernel_rfl) (by kernel_rfl) (by kernel_rfl) (fun _ _ _ h => h) (Or.inl ⟨by rfl, ?_⟩) (by assumption) ?_
                rotate_left
                focus (intro w hSw; (try dsimp only at hSw); go_simp; (try with_reducible rfl); done)
                (try simp only [Act.put, List.setIfInBounds_toArray, List.set_cons_zero, List.set_cons_succ])
                refine wpAnyH_take (i := 28) (v := ?_) rfl (by kernel_rfl) (by kernel_rfl) (by kernel_rfl) (fun _ _ _ h => h) (Or.inl ⟨by rfl, ?_⟩) (by assumption) ?_
                rotate_left
                focus (intro w hSw; (try dsimp only at hSw); go_simp; (try with_reducible rfl); done)
                (try simp only [Act.put, List.setIfInBounds_toArray, List.set_cons_zero, List.set_cons_succ])
                refine wpAnyH_ready (rs := [29]) (by kernel_rfl) (by simp) ?_
                refine (AllReadyH.cons rfl (fun K hK => ?_) AllReadyH.nil)
                · go_simp
                  refine hK.out _ _ ?_ (fun hHeld => ?_)
                  focus ((try dsimp only); (first | exact HK.out _ ((Fr.refl _ W1).drew) | exact HK.out _ (((Fr.refl _ W1).alloc _).drew) | exact HK.out _ ((((Fr.refl _ W1).alloc _).alloc _).drew) | exact HK.out _ (((((Fr.refl _ W1).alloc _).alloc _).alloc _).drew) | exact ⟨e1, e2, e3, e4, e5, e6⟩ | exact HST.out _ _ e1 e2 e3 e4 e5 e6 | go_keep); done)
                  clear hK K
                  refine wpAnyH_done (by kernel_rfl) ?_ _
                  go_wp2
                  (obtain ⟨hb', lb', hL'⟩ := HA.out _ _ _ _ hown5 hgrow5; exact ⟨⟨i + 1, hb', lb', _, by omega, by go_num, hL'⟩, by simp [intOf]; omega⟩)
          · go_simp
            refine hK.out _ _ ?_ (fun hHeld => ?_)
            focus ((try dsimp only); (first | exact HK.out _ ((Fr.refl _ W1).drew) | exact HK.out _ (((Fr.refl _ W1).alloc _).drew) | exact HK.out _ ((((Fr.refl _ W1).alloc _).alloc _).drew) | exact HK.out _ (((((Fr.refl _ W1).alloc _).alloc _).alloc _).drew) | exact ⟨e1, e2, e3, e4, e5, e6⟩ | exact HST.out _ _ e1 e2 e3 e4 e5 e6 | go_keep); done)
            clear hK K
            refine wpAnyH_ready (rs := [4]) (by kernel_rfl) (by simp) ?_
            refine (AllReadyH.cons rfl (fun K hK => ?_) AllReadyH.nil)
            · go_simp
              refine hK.out _ _ ?_ (fun hHeld => ?_)
              focus ((try dsimp only); (first | exact HK.out _ ((Fr.refl _ W1).drew) | exact HK.out _ (((Fr.refl _ W1).alloc _).drew) | exact HK.out _ ((((Fr.refl _ W1).alloc _).alloc _).drew) | exact HK.out _ (((((Fr.refl _ W1).alloc _).alloc _).alloc _).drew) | exact ⟨e1, e2, e3, e4, e5, e6⟩ | exact HST.out _ _ e1 e2 e3 e4 e5 e6 | go_keep); done)
              clear hK K
              refine wpAnyH_ready (rs := [26]) (by kernel_rfl) (by simp) ?_
              refine (AllReadyH.cons rfl (fun K hK => ?_) AllReadyH.nil)
              · (refine step_append_own rfl (.tmp 60) (.tmp 81) 27 rfl w3.heap.size 43 i43 (.agg #[.bool false, .int .i64 0, .slice none 0 0, .slice none 0 0, .int .i64 0]) 5 72 Ybad.underlying27 hi43 hy0 hy1 hy2 rfl (by decide) rv i (rcs x hb lb i) (by simp [Act.eval]) (HOA.out _ _ _) ⟨Xb + 1 + 1 + 1, 0, none⟩ 1 1 [_, _, _, _, _] (by simp [Act.eval]) rfl (five_news (by simp [HZ.out.1])) (by intro u hu; simp at hu; rcases hu with rfl | rfl | rfl | rfl | rfl <;> rfl) (by unfold maxLen; omega) (by omega) (by have := HZ.out; simp; omega) ?_; intro v2 w5 hown5 hgrow5; obtain ⟨g5, c5, hv5, hg5, _, _⟩ := owns_pos hown5 (by omega); subst hv5; have hfr5 : Fr (fun b => rv.ownBlock = some b) W1 w5 := ((((Fr.refl _ W1).alloc _).alloc _).alloc _).drew.grown hgrow5 (fun _ hk _ => hk); have d1 := hfr5.cell (p := ⟨S, 2, none⟩) HNS.out.1 gS; have f1 := (hfr5.frozen (p := ⟨S, 2, none⟩) HNS.out.1 (by have := HNS.out; have := HZ.out; show S < _; omega)).trans gF; have e1 := hfr5.cell (p := ⟨Bs, 0, none⟩) HNS.out.2.1 gB; have e2 := hfr5.cell (p := ⟨Xb, 0, none⟩) HNX.out x0; have e3 := hfr5.cell (p := ⟨Xb, 1, none⟩) HNX.out x1; have e4 := hfr5.cell (p := ⟨Xb, 2, none⟩) HNX.out x2; have e5 := hfr5.cell (p := ⟨Xb, 3, none⟩) HNX.out x3; have e6 := hfr5.cell (p := ⟨Xb, 4, none⟩) HNX.out x4)
                refine hK.out _ _ ?_ (fun hHeld => ?_)
                focus ((try dsimp only); (first | exact HK.out _ ((Fr.refl _ W1).drew) | exact HK.out _ (((Fr.refl _ W1).alloc _).drew) | exact HK.out _ ((((Fr.refl _ W1).alloc _).alloc _).drew) | exact HK.out _ (((((Fr.refl _ W1).alloc _).alloc _).alloc _).drew) | exact ⟨e1, e2, e3, e4, e5, e6⟩ | exact HST.out _ _ e1 e2 e3 e4 e5 e6 | go_keep); done)
                clear hK K
                refine wpAnyH_take (i := 27) (v := ?_) rfl (by kernel_rfl) (by kernel_rfl) (by kernel_rfl) (fun _ _ _ h => h) (Or.inl ⟨by rfl, ?_⟩) (by assumption) ?_
                rotate_left
                focus (intro w hSw; (try dsimp only at hSw); go_simp; (try with_reducible rfl); done)
                (try simp only [Act.put, List.setIfInBounds_toArray, List.set_cons_zero, List.set_cons_succ])
                refine wpAnyH_take (i := 28) (v := ?_) rfl (by kernel_rfl) (by kernel_rfl) (by kernel_rfl) (fun _ _ _ h => h) (Or.inl ⟨by rfl, ?_⟩) (by assumption) ?_
                rotate_left
                focus (intro w hSw; (try dsimp only at hSw); go_simp; (try with_reducible rfl); done)
                (try simp only [Act.put, List.setIfInBounds_toArray, List.set_cons_zero, List.set_cons_succ])
                refine wpAnyH_ready (rs := [29]) (by kernel_rfl) (by simp) ?_
                refine (AllReadyH.cons rfl (fun K hK => ?_) AllReadyH.nil)
                · go_simp
                  refine hK.out _ _ ?_ (fun hHeld => ?_)
                  focus ((try dsimp only); (first | exact HK.out _ ((Fr.refl _ W1).drew) | exact HK.out _ (((Fr.refl _ W1).alloc _).drew) | exact HK.out _ ((((Fr.refl _ W1).alloc _).alloc _).drew) | exact HK.out _ (((((Fr.refl _ W1).alloc _).alloc _).alloc _).drew) | exact ⟨e1, e2, e3, e4, e5, e6⟩ | exact HST.out _ _ e1 e2 e3 e4 e5 e6 | go_keep); done)
                  clear hK K
                  refine wpAnyH_done (by kernel_rfl) ?_ _
                  go_wp2
                  (obtain ⟨hb', lb', hL'⟩ := HA.out _ _ _ _ hown5 hgrow5; exact ⟨⟨i + 1, hb', lb', _, by omega, by go_num, hL'⟩, by simp [intOf]; omega⟩)
      · go_simp
        refine hK.out _ _ ?_ (fun hHeld => ?_)
        focus ((try dsimp only); (first | exact HK.out _ ((Fr.refl _ W1).drew) | exact HK.out _ (((Fr.refl _ W1).alloc _).drew) | exact HK.out _ ((((Fr.refl _ W1).alloc _).alloc _).drew) | exact HK.out _ (((((Fr.refl _ W1).alloc _).alloc _).alloc _).drew) | exact ⟨e1, e2, e3, e4, e5, e6⟩ | exact HST.out _ _ e1 e2 e3 e4 e5 e6 | go_keep); done)
        clear hK K
        refine wpAnyH_ready (rs := [4, 14]) (by kernel_rfl) (by simp) ?_
        refine (AllReadyH.cons rfl (fun K hK => ?_) (AllReadyH.cons rfl (fun K hK => ?_) AllReadyH.nil))
        · go_simp
          refine hK.out _ _ ?_ (fun hHeld => ?_)
          focus ((try dsimp only); (first | exact HK.out _ ((Fr.refl _ W1).drew) | exact HK.out _ (((Fr.refl _ W1).alloc _).drew) | exact HK.out _ ((((Fr.refl _ W1).alloc _).alloc _).drew) | exact HK.out _ (((((Fr.refl _ W1).alloc _).alloc _).alloc _).drew) | exact ⟨e1, e2, e3, e4, e5, e6⟩ | exact HST.out _ _ e1 e2 e3 e4 e5 e6 | go_keep); done)
          clear hK K
          refine wpAnyH_ready (rs := [14]) (by kernel_rfl) (by simp) ?_
          refine (AllReadyH.cons rfl (fun K hK => ?_) AllReadyH.nil)
          · go_simp
            refine hK.out _ _ ?_ (fun hHeld => ?_)
            focus ((try dsimp only); (first | exact HK.out _ ((Fr.refl _ W1).drew) | exact HK.out _ (((Fr.refl _ W1).alloc _).drew) | exact HK.out _ ((((Fr.refl _ W1).alloc _).alloc _).drew) | exact HK.out _ (((((Fr.refl _ W1).alloc _).alloc _).alloc _).drew) | exact ⟨e1, e2, e3, e4, e5, e6⟩ | exact HST.out _ _ e1 e2 e3 e4 e5 e6 | go_keep); done)
            clear hK K
            refine wpAnyH_take (i := 19) (v := ?_) rfl (by kernel_rfl) (by kernel_rfl) (by kernel_rfl) (fun _ _ _ h => h) (Or.inl ⟨by rfl, ?_⟩) (by assumption) ?_
            rotate_left
            focus (intro w hSw; (try dsimp only at hSw); go_simp; (try with_reducible rfl); done)
            (try simp only [Act.put, List.setIfInBounds_toArray, List.set_cons_zero, List.set_cons_succ])
            refine wpAnyH_take (i := 24) (v := ?_) rfl (by kernel_rfl) (by kernel_rfl) (by kernel_rfl) (fun _ _ _ h => h) (Or.inl ⟨by rfl, ?_⟩) (by assumption) ?_
            rotate_left
            focus (intro w hSw; (try dsimp only at hSw); go_simp; (try with_reducible rfl); done)
            (try simp only [Act.put, List.setIfInBounds_toArray, List.set_cons_zero, List.set_cons_succ])
            refine wpAnyH_ready (rs := [25]) (by kernel_rfl) (by simp) ?_
            refine (AllReadyH.cons rfl (fun K hK => ?_) AllReadyH.nil)
            · go_simp
              refine hK.out _ _ ?_ (fun hHeld => ?_)
              focus ((try dsimp only); (first | exact HK.out _ ((Fr.refl _ W1).drew) | exact HK.out _ (((Fr.refl _ W1).alloc _).drew) | exact HK.out _ ((((Fr.refl _ W1).alloc _).alloc _).drew) | exact HK.out _ (((((Fr.refl _ W1).alloc _).alloc _).alloc _).drew) | exact ⟨e1, e2, e3, e4, e5, e6⟩ | exact HST.out _ _ e1 e2 e3 e4 e5 e6 | go_keep); done)
              clear hK K
              refine wpAnyH_ready (rs := [26]) (by kernel_rfl) (by simp) ?_
              refine (AllReadyH.cons rfl (fun K hK => ?_) AllReadyH.nil)
              · (refine step_append_own rfl (.tmp 60) (.tmp 81) 27 rfl w3.heap.size 43 i43 (.agg #[.bool false, .int .i64 0, .slice none 0 0, .slice none 0 0, .int .i64 0]) 5 72 Ybad.underlying27 hi43 hy0 hy1 hy2 rfl (by decide) rv i (rcs x hb lb i) (by simp [Act.eval]) (HOA.out _ _ _) ⟨Xb + 1 + 1 + 1, 0, none⟩ 1 1 [_, _, _, _, _] (by simp [Act.eval]) rfl (five_news (by simp [HZ.out.1])) (by intro u hu; simp at hu; rcases hu with rfl | rfl | rfl | rfl | rfl <;> rfl) (by unfold maxLen; omega) (by omega) (by have := HZ.out; simp; omega) ?_; intro v2 w5 hown5 hgrow5; obtain ⟨g5, c5, hv5, hg5, _, _⟩ := owns_pos hown5 (by omega); subst hv5; have hfr5 : Fr (fun b => rv.ownBlock = some b) W1 w5 := ((((Fr.refl _ W1).alloc _).alloc _).alloc _).drew.grown hgrow5 (fun _ hk _ => hk); have d1 := hfr5.cell (p := ⟨S, 2, none⟩) HNS.out.1 gS; have f1 := (hfr5.frozen (p := ⟨S, 2, none⟩) HNS.out.1 (by have := HNS.out; have := HZ.out; show S < _; omega)).trans gF; have e1 := hfr5.cell (p := ⟨Bs, 0, none⟩) HNS.out.2.1 gB; have e2 := hfr5.cell (p := ⟨Xb, 0, none⟩) HNX.out x0; have e3 := hfr5.cell (p := ⟨Xb, 1, none⟩) HNX.out x1; have e4 := hfr5.cell (p := ⟨Xb, 2, none⟩) HNX.out x2; have e5 := hfr5.cell (p := ⟨Xb, 3, none⟩) HNX.out x3; have e6 := hfr5.cell (p := ⟨Xb, 4, none⟩) HNX.out x4)
                refine hK.out _ _ ?_ (fun hHeld => ?_)
                focus ((try dsimp only); (first | exact HK.out _ ((Fr.refl _ W1).drew) | exact HK.out _ (((Fr.refl _ W1).alloc _).drew) | exact HK.out _ ((((Fr.refl _ W1).alloc _).alloc _).drew) | exact HK.out _ (((((Fr.refl _ W1).alloc _).alloc _).alloc _).drew) | exact ⟨e1, e2, e3, e4, e5, e6⟩ | exact HST.out _ _ e1 e2 e3 e4 e5 e6 | go_keep); done)
                clear hK K
                refine wpAnyH_take (i := 27) (v := ?_) rfl (by kernel_rfl) (by kernel_rfl) (by kernel_rfl) (fun _ _ _ h => h) (Or.inl ⟨by rfl, ?_⟩) (by assumption) ?_
                rotate_left
                focus (intro w hSw; (try dsimp only at hSw); go_simp; (try with_reducible rfl); done)
                (try simp only [Act.put, List.setIfInBounds_toArray, List.set_cons_zero, List.set_cons_succ])
                refine wpAnyH_take (i := 28) (v := ?_) rfl (by kernel_rfl) (by kernel_rfl) (by kernel_rfl) (fun _ _ _ h => h) (Or.inl ⟨by rfl, ?_⟩) (by assumption) ?_
                rotate_left
                focus (intro w hSw; (try dsimp only at hSw); go_simp; (try with_reducible rfl); done)
                (try simp only [Act.put, List.setIfInBounds_toArray, List.set_cons_zero, List.set_cons_succ])
                refine wpAnyH_ready (rs := [29]) (by kernel_rfl) (by simp) ?_
                refine (AllReadyH.cons rfl (fun K hK => ?_) AllReadyH.nil)
                · go_simp
                  refine hK.out _ _ ?_ (fun hHeld => ?_)
                  focus ((try dsimp only); (first | exact HK.out _ ((Fr.refl _ W1).drew) | exact HK.out _ (((Fr.refl _ W1).alloc _).drew) | exact HK.out _ ((((Fr.refl _ W1).alloc _).alloc _).drew) | exact HK.out _ (((((Fr.refl _ W1).alloc _).alloc _).alloc _).drew) | exact ⟨e1, e2, e3, e4, e5, e6⟩ | exact HST.out _ _ e1 e2 e3 e4 e5 e6 | go_keep); done)
                  clear hK K
                  refine wpAnyH_done (by kernel_rfl) ?_ _
                  go_wp2
                  (obtain ⟨hb', lb', hL'⟩ := HBo.out _ _ _ _ hown5 hgrow5; exact ⟨⟨i + 1, hb', lb', _, by omega, by go_num, hL'⟩, by simp [intOf]; omega⟩)
        · go_simp
          refine hK.out _ _ ?_ (fun hHeld => ?_)
          focus ((try dsimp only); (first | exact HK.out _ ((Fr.refl _ W1).drew) | exact HK.out _ (((Fr.refl _ W1).alloc _).drew) | exact HK.out _ ((((Fr.refl _ W1).alloc _).alloc _).drew) | exact HK.out _ (((((Fr.refl _ W1).alloc _).alloc _).alloc _).drew) | exact ⟨e1, e2, e3, e4, e5, e6⟩ | exact HST.out _ _ e1 e2 e3 e4 e5 e6 | go_keep); done)
          clear hK K
          refine wpAnyH_take (i := 19) (v := ?_) rfl (by kernel_rfl) (by kernel_rfl) (by kernel_rfl) (fun _ _ _ h => h) (Or.inl ⟨by rfl, ?_⟩) (by assumption) ?_
          rotate_left
          focus (intro w hSw; (try dsimp only at hSw); go_simp; (try with_reducible rfl); done)
          (try simp only [Act.put, List.setIfInBounds_toArray, List.set_cons_zero, List.set_cons_succ])
          refine wpAnyH_take (i := 24) (v := ?_) rfl (by kernel_rfl) (by kernel_rfl) (by kernel_rfl) (fun _ _ _ h => h) (Or.inl ⟨by rfl, ?_⟩) (by assumption) ?_
          rotate_left
          focus (intro w hSw; (try dsimp only at hSw); go_simp; (try with_reducible rfl); done)
          (try simp only [Act.put, List.setIfInBounds_toArray, List.set_cons_zero, List.set_cons_succ])
          refine wpAnyH_ready (rs := [4, 25]) (by kernel_rfl) (by simp) ?_
          refine (AllReadyH.cons rfl (fun K hK => ?_) (AllReadyH.cons rfl (fun K hK => ?_) AllReadyH.nil))
          · go_simp
            refine hK.out _ _ ?_ (fun hHeld => ?_)
            focus ((try dsimp only); (first | exact HK.out _ ((Fr.refl _ W1).drew) | exact HK.out _ (((Fr.refl _ W1).alloc _).drew) | exact HK.out _ ((((Fr.refl _ W1).alloc _).alloc _).drew) | exact HK.out _ (((((Fr.refl _ W1).alloc _).alloc _).alloc _).drew) | exact ⟨e1, e2, e3, e4, e5, e6⟩ | exact HST.out _ _ e1 e2 e3 e4 e5 e6 | go_keep); done)
            clear hK K
            refine wpAnyH_ready (rs := [25]) (by kernel_rfl) (by simp) ?_
            refine (AllReadyH.cons rfl (fun K hK => ?_) AllReadyH.nil)
            · go_simp
              refine hK.out _ _ ?_ (fun hHeld => ?_)
              focus ((try dsimp only); (first | exact HK.out _ ((Fr.refl _ W1).drew) | exact HK.out _ (((Fr.refl _ W1).alloc _).drew) | exact HK.out _ ((((Fr.refl _ W1).alloc _).alloc _).drew) | exact HK.out _ (((((Fr.refl _ W1).alloc _).alloc _).alloc _).drew) | exact ⟨e1, e2, e3, e4, e5, e6⟩ | exact HST.out _ _ e1 e2 e3 e4 e5 e6 | go_keep); done)
              clear hK K
              refine wpAnyH_ready (rs := [26]) (by kernel_rfl) (by simp) ?_
              refine (AllReadyH.cons rfl (fun K hK => ?_) AllReadyH.nil)
              · (refine step_append_own rfl (.tmp 60) (.tmp 81) 27 rfl w3.heap.size 43 i43 (.agg #[.bool false, .int .i64 0, .slice none 0 0, .slice none 0 0, .int .i64 0]) 5 72 Ybad.underlying27 hi43 hy0 hy1 hy2 rfl (by decide) rv i (rcs x hb lb i) (by simp [Act.eval]) (HOA.out _ _ _) ⟨Xb + 1 + 1 + 1, 0, none⟩ 1 1 [_, _, _, _, _] (by simp [Act.eval]) rfl (five_news (by simp [HZ.out.1])) (by intro u hu; simp at hu; rcases hu with rfl | rfl | rfl | rfl | rfl <;> rfl) (by unfold maxLen; omega) (by omega) (by have := HZ.out; simp; omega) ?_; intro v2 w5 hown5 hgrow5; obtain ⟨g5, c5, hv5, hg5, _, _⟩ := owns_pos hown5 (by omega); subst hv5; have hfr5 : Fr (fun b => rv.ownBlock = some b) W1 w5 := ((((Fr.refl _ W1).alloc _).alloc _).alloc _).drew.grown hgrow5 (fun _ hk _ => hk); have d1 := hfr5.cell (p := ⟨S, 2, none⟩) HNS.out.1 gS; have f1 := (hfr5.frozen (p := ⟨S, 2, none⟩) HNS.out.1 (by have := HNS.out; have := HZ.out; show S < _; omega)).trans gF; have e1 := hfr5.cell (p := ⟨Bs, 0, none⟩) HNS.out.2.1 gB; have e2 := hfr5.cell (p := ⟨Xb, 0, none⟩) HNX.out x0; have e3 := hfr5.cell (p := ⟨Xb, 1, none⟩) HNX.out x1; have e4 := hfr5.cell (p := ⟨Xb, 2, none⟩) HNX.out x2; have e5 := hfr5.cell (p := ⟨Xb, 3, none⟩) HNX.out x3; have e6 := hfr5.cell (p := ⟨Xb, 4, none⟩) HNX.out x4)
                refine hK.out _ _ ?_ (fun hHeld => ?_)
                focus ((try dsimp only); (first | exact HK.out _ ((Fr.refl _ W1).drew) | exact HK.out _ (((Fr.refl _ W1).alloc _).drew) | exact HK.out _ ((((Fr.refl _ W1).alloc _).alloc _).drew) | exact HK.out _ (((((Fr.refl _ W1).alloc _).alloc _).alloc _).drew) | exact ⟨e1, e2, e3, e4, e5, e6⟩ | exact HST.out _ _ e1 e2 e3 e4 e5 e6 | go_keep); done)
                clear hK K
                refine wpAnyH_take (i := 27) (v := ?_) rfl (by kernel_rfl) (by kernel_rfl) (by kernel_rfl) (fun _ _ _ h => h) (Or.inl ⟨by rfl, ?_⟩) (by assumption) ?_
                rotate_left
                focus (intro w hSw; (try dsimp only at hSw); go_simp; (try with_reducible rfl); done)
                (try simp only [Act.put, List.setIfInBounds_toArray, List.set_cons_zero, List.set_cons_succ])
                refine wpAnyH_take (i := 28) (v := ?_) rfl (by kernel_rfl) (by kernel_rfl) (by kernel_rfl) (fun _ _ _ h => h) (Or.inl ⟨by rfl, ?_⟩) (by assumption) ?_
                rotate_left
                focus (intro w hSw; (try dsimp only at hSw); go_simp; (try with_reducible rfl); done)
                (try simp only [Act.put, List.setIfInBounds_toArray, List.set_cons_zero, List.set_cons_succ])
                refine wpAnyH_ready (rs := [29]) (by kernel_rfl) (by simp) ?_
                refine (AllReadyH.cons rfl (fun K hK => ?_) AllReadyH.nil)
                · go_simp
                  refine hK.out _ _ ?_ (fun hHeld => ?_)
                  focus ((try dsimp only); (first | exact HK.out _ ((Fr.refl _ W1).drew) | exact HK.out _ (((Fr.refl _ W1).alloc _).drew) | exact HK.out _ ((((Fr.refl _ W1).alloc _).alloc _).drew) | exact HK.out _ (((((Fr.refl _ W1).alloc _).alloc _).alloc _).drew) | exact ⟨e1, e2, e3, e4, e5, e6⟩ | exact HST.out _ _ e1 e2 e3 e4 e5 e6 | go_keep); done)
                  clear hK K
                  refine wpAnyH_done (by kernel_rfl) ?_ _
                  go_wp2
                  (obtain ⟨hb', lb', hL'⟩ := HBo.out _ _ _ _ hown5 hgrow5; exact ⟨⟨i + 1, hb', lb', _, by omega, by go_num, hL'⟩, by simp [intOf]; omega⟩)
          · go_simp
            refine hK.out _ _ ?_ (fun hHeld => ?_)
            focus ((try dsimp only); (first | exact HK.out _ ((Fr.refl _ W1).drew) | exact HK.out _ (((Fr.refl _ W1).alloc _).drew) | exact HK.out _ ((((Fr.refl _ W1).alloc _).alloc _).drew) | exact HK.out _ (((((Fr.refl _ W1).alloc _).alloc _).alloc _).drew) | exact ⟨e1, e2, e3, e4, e5, e6⟩ | exact HST.out _ _ e1 e2 e3 e4 e5 e6 | go_keep); done)
            clear hK K
            refine wpAnyH_ready (rs := [4]) (by kernel_rfl) (by simp) ?_
            refine (AllReadyH.cons rfl (fun K hK => ?_) AllReadyH.nil)
            · go_simp
              refine hK.out _ _ ?_ (fun hHeld => ?_)
              focus ((try dsimp only); (first | exact HK.out _ ((Fr.refl _ W1).drew) | exact HK.out _ (((Fr.refl _ W1).alloc _).drew) | exact HK.out _ ((((Fr.refl _ W1).alloc _).alloc _).drew) | exact HK.out _ (((((Fr.refl _ W1).alloc _).alloc _).alloc _).drew) | exact ⟨e1, e2, e3, e4, e5, e6⟩ | exact HST.out _ _ e1 e2 e3 e4 e5 e6 | go_keep); done)
              clear hK K
              refine wpAnyH_ready (rs := [26]) (by kernel_rfl) (by simp) ?_
              refine (AllReadyH.cons rfl (fun K hK => ?_) AllReadyH.nil)
              · (refine step_append_own rfl (.tmp 60) (.tmp 81) 27 rfl w3.heap.size 43 i43 (.agg #[.bool false, .int .i64 0, .slice none 0 0, .slice none 0 0, .int .i64 0]) 5 72 Ybad.underlying27 hi43 hy0 hy1 hy2 rfl (by decide) rv i (rcs x hb lb i) (by simp [Act.eval]) (HOA.out _ _ _) ⟨Xb + 1 + 1 + 1, 0, none⟩ 1 1 [_, _, _, _, _] (by simp [Act.eval]) rfl (five_news (by simp [HZ.out.1])) (by intro u hu; simp at hu; rcases hu with rfl | rfl | rfl | rfl | rfl <;> rfl) (by unfold maxLen; omega) (by omega) (by have := HZ.out; simp; omega) ?_; intro v2 w5 hown5 hgrow5; obtain ⟨g5, c5, hv5, hg5, _, _⟩ := owns_pos hown5 (by omega); subst hv5; have hfr5 : Fr (fun b => rv.ownBlock = some b) W1 w5 := ((((Fr.refl _ W1).alloc _).alloc _).alloc _).drew.grown hgrow5 (fun _ hk _ => hk); have d1 := hfr5.cell (p := ⟨S, 2, none⟩) HNS.out.1 gS; have f1 := (hfr5.frozen (p := ⟨S, 2, none⟩) HNS.out.1 (by have := HNS.out; have := HZ.out; show S < _; omega)).trans gF; have e1 := hfr5.cell (p := ⟨Bs, 0, none⟩) HNS.out.2.1 gB; have e2 := hfr5.cell (p := ⟨Xb, 0, none⟩) HNX.out x0; have e3 := hfr5.cell (p := ⟨Xb, 1, none⟩) HNX.out x1; have e4 := hfr5.cell (p := ⟨Xb, 2, none⟩) HNX.out x2; have e5 := hfr5.cell (p := ⟨Xb, 3, none⟩) HNX.out x3; have e6 := hfr5.cell (p := ⟨Xb, 4, none⟩) HNX.out x4)
                refine hK.out _ _ ?_ (fun hHeld => ?_)
                focus ((try dsimp only); (first | exact HK.out _ ((Fr.refl _ W1).drew) | exact HK.out _ (((Fr.refl _ W1).alloc _).drew) | exact HK.out _ ((((Fr.refl _ W1).alloc _).alloc _).drew) | exact HK.out _ (((((Fr.refl _ W1).alloc _).alloc _).alloc _).drew) | exact ⟨e1, e2, e3, e4, e5, e6⟩ | exact HST.out _ _ e1 e2 e3 e4 e5 e6 | go_keep); done)
                clear hK K
                refine wpAnyH_take (i := 27) (v := ?_) rfl (by kernel_rfl) (by kernel_rfl) (by kernel_rfl) (fun _ _ _ h => h) (Or.inl ⟨by rfl, ?_⟩) (by assumption) ?_
                rotate_left
                focus (intro w hSw; (try dsimp only at hSw); go_simp; (try with_reducible rfl); done)
                (try simp only [Act.put, List.setIfInBounds_toArray, List.set_cons_zero, List.set_cons_succ])
                refine wpAnyH_take (i := 28) (v := ?_) rfl (by kernel_rfl) (by kernel_rfl) (by kernel_rfl) (fun _ _ _ h => h) (Or.inl ⟨by rfl, ?_⟩) (by assumption) ?_
                rotate_left
                focus (intro w hSw; (try dsimp only at hSw); go_simp; (try with_reducible rfl); done)
                (try simp only [Act.put, List.setIfInBounds_toArray, List.set_cons_zero, List.set_cons_succ])
                refine wpAnyH_ready (rs := [29]) (by kernel_rfl) (by simp) ?_
                refine (AllReadyH.cons rfl (fun K hK => ?_) AllReadyH.nil)
                · go_simp
                  refine hK.out _ _ ?_ (fun hHeld => ?_)
                  focus ((try dsimp only); (first | exact HK.out _ ((Fr.refl _ W1).drew) | exact HK.out _ (((Fr.refl _ W1).alloc _).drew) | exact HK.out _ ((((Fr.refl _ W1).alloc _).alloc _).drew) | exact HK.out _ (((((Fr.refl _ W1).alloc _).alloc _).alloc _).drew) | exact ⟨e1, e2, e3, e4, e5, e6⟩ | exact HST.out _ _ e1 e2 e3 e4 e5 e6 | go_keep); done)
                  clear hK K
                  refine wpAnyH_done (by kernel_rfl) ?_ _
                  go_wp2
                  (obtain ⟨hb', lb', hL'⟩ := HBo.out _ _ _ _ hown5 hgrow5; exact ⟨⟨i + 1, hb', lb', _, by omega, by go_num, hL'⟩, by simp [intOf]; omega⟩)
    · obtain rfl : nr = i := by omega
      have hltI : ¬ (nr : Int) < nr := by omega
      have s10 : wr.cell? ⟨S, 10, none⟩ = some (.slice none 0 0) := cells_of_block hL.s 10
      have s10f := free_of_block hL.s 10
      obtain ⟨z1, z2, z3, z4, z5⟩ := Z3.out
      have hzr := hL.fr.size
      have qB := hL.fr.cell (p := ⟨Bs, 0, none⟩) (by show ¬ Bs = S; omega) kB
      have qBa : ∀ o, (wr.alloc o).cell? ⟨Bs, 0, none⟩ = some (.pointer (some ⟨S, 0, none⟩)) := fun o => ((Fr.refl (fun _ => False) wr).alloc o).cell (fun h => h) qB
      have s10a : ∀ o, (wr.alloc o).cell? ⟨S, 10, none⟩ = some (.slice none 0 0) := fun o => ((Fr.refl (fun _ => False) wr).alloc o).cell (fun h => h) s10
      have s10b : ∀ o, (wr.alloc o).frozen? ⟨S, 10, none⟩ = false := fun o => (((Fr.refl (fun _ => False) wr).alloc o).frozen (p := ⟨S, 10, none⟩) (fun h => h) (by show S < _; omega)).trans s10f
      have hmk := make45 n (by omega)
      have HP0 : Hid _ := PR.of0 hL
      have HP1 : Hid _ := PR.of1 hL (by omega) (fixed : Int) rfl
      have hfw : IntKind.u64.wrap (fixed : Int) = (fixed : Int) := by rw [IntKind.wrap_u64]; omega
      clear z1 z2 z3 z4 z5 hL hzr
      go_wp2
      generalize hwF : (wr.alloc _).setCell ⟨S, 10, none⟩ _ = wF
      have hzF : wF.heap.size = wr.heap.size + 1 := by rw [← hwF]; simp [World.setCell]
      obtain ⟨fxv, fx, f0, fN, hP, hfx0, hf0, hfN⟩ : ∃ fxv fx f0, ∃ fN : Nat, PR w3 wF S M nr x hb lb rv fxv fx ∧ Hid (fix0 fx = f0) ∧ Hid (f0 = (fN : Int)) ∧ Hid (fN = fixed ∧ fN ≤ 255) := ⟨setV wr.heap.size 1, some (wr.heap.size, (fixed : Int)), (fixed : Int), fixed, (by rw [← hwF]; exact HP1.out), rfl, rfl, ⟨rfl, hfx⟩⟩
      have HP : Hid _ := hP
      clear hwF
      generalize eC : wr.heap.size + 1 = C at *
      have HC : Hid (wF.heap.size = C) := hzF
      clear eC hzF HP0 HP1 hP qB qBa s10 s10f s10a s10b hmk hfw
      all_goals
        generalize hw5 : wF.alloc _ = w5
        have H5 : Hid (Fr (fun _ => False) wF w5 ∧ w5.heap.size = C + 1 ∧ LC w5 w5 C n v 0 (fun _ => 0)) := by
          have e := HC.out
          refine ⟨by rw [← hw5]; exact (Fr.refl _ wF).alloc _, by rw [← hw5]; simp; exact e, by rw [← e]; exact LC.start hw5.symm⟩
        clear hw5
        go_loopw [98] (fun t wr => ∃ (i : Nat) (cb : Nat → Nat), i ≤ n ∧ t = .int .i64 i ∧ LC w5 wr C n v i cb) (fun t _ => n - (intOf t).toNat)
        case atStart => exact ⟨0, _, Nat.zero_le _, rfl, H5.out.2.2⟩
        case round =>
          obtain ⟨i, cb, hi, rfl, hL⟩ := hrel
          by_cases hlt : i < n
          · obtain rfl := ha1 (by omega)
            have hltI : (i : Int) < n := by omega
            obtain ⟨q1, q2, _⟩ := H5.out
            obtain ⟨z1, z2, z3, z4, z5⟩ := Z3.out
            have y3 := HP.out.fr.size
            have Fr0 : Fr (fun _ => False) w wr := Fr.transNew (Fr.transNew (F3.trans (Fr.refl _ _)) (HP.out.fr.trans (q1.mono (fun _ _ h => h.elim))) (fun q hq e => by omega)) hL.fr (fun q hq e => by have := HC.out; omega)
            obtain ⟨hv1, hv2⟩ := hHV.out i hlt
            have c0 := Fr0.cell (fun h => h) hv1
            obtain ⟨cs, r1, r2, r3⟩ := hL.row
            have d0 : ∃ y, wr.cell? ⟨C, i * 2, none⟩ = some y := ⟨cs[i * 2]'(by omega), by rw [cells_of_block r1]; simp⟩
            have d1 : ∃ y, wr.cell? ⟨C, i * 2 + 1, none⟩ = some y := ⟨cs[i * 2 + 1]'(by omega), by rw [cells_of_block r1]; simp⟩
            obtain ⟨y0, d0⟩ := d0
            obtain ⟨y1, d1⟩ := d1
            have f0' := free_of_block r1 (i * 2)
            have f1' := free_of_block r1 (i * 2 + 1)
            have hCl : C < wr.heap.size := by have := hL.fr.size; omega
            have a0' : ∀ o, (wr.alloc o).cell? ⟨C, i * 2, none⟩ = some y0 := fun o => ((Fr.refl (fun _ => False) wr).alloc o).cell (fun h => h) d0
            have a1' : ∀ o, (wr.alloc o).cell? ⟨C, i * 2 + 1, none⟩ = some y1 := fun o => ((Fr.refl (fun _ => False) wr).alloc o).cell (fun h => h) d1
            have b0' : ∀ o, (wr.alloc o).frozen? ⟨C, i * 2, none⟩ = false := fun o => (((Fr.refl (fun _ => False) wr).alloc o).frozen (p := ⟨C, i * 2, none⟩) (fun h => h) hCl).trans f0'
            have b1' : ∀ o, (wr.alloc o).frozen? ⟨C, i * 2 + 1, none⟩ = false := fun o => (((Fr.refl (fun _ => False) wr).alloc o).frozen (p := ⟨C, i * 2 + 1, none⟩) (fun h => h) hCl).trans f1'
            have HST : Hid (∃ cb', LC w5 (((wr.setCell ⟨C, i * 2, none⟩ (.slice (some ⟨wr.heap.size, 0, none⟩) 1 1)).setCell ⟨C, i * 2 + 1, none⟩ (.int .i64 1)).alloc (.cells #[.int .u64 (v i)] 41)) C n v (i + 1) cb') := by
              have := hL.step hlt (by omega)
              rw [World.setCell_alloc_past _ _ _ _ hCl, World.setCell_alloc_past _ _ _ _ (by simpa [World.setCell] using hCl)] at this
              exact this
            clear hL Fr0 r1 r2 r3 z1 z2 z3 z4 z5 y3 q1 q2 hv1
            generalize v i = vi at *
            go_wp2
            obtain ⟨cb', hcb'⟩ := HST.out
            exact ⟨⟨i + 1, cb', by omega, by go_num, hcb'⟩, by simp [intOf]; omega⟩
          · obtain rfl : n = i := by omega
            have hltI : ¬ (n : Int) < n := by omega
            have HLC : Hid _ := hL
            have HCH : Hid (∀ w6, w6 = ((wr.alloc (.cells #[.slice none 0 0] 48)).alloc (.cells #[.int .i64 0] 3)).alloc (.cells #[.bool false] 4) → ∃ R cr, ChIn w6 S R nr cr (ruOf x hb lb) M ((nr + 63) / 64) C n cb (fun i => (v i : Int)) fx Bs (wr.heap.size + 1 + 1) wr.heap.size (wr.heap.size + 1) b9 stop) := fun w6 e => chin F3 Z3.out k9 kM kB hHT.out HP.out H5.out.1 HC.out.symm H5.out.2.1 hL e (fun j hj => (hHV.out j hj).2)
            have qB : wr.cell? ⟨Bs, 0, none⟩ = some (.pointer (some ⟨S, 0, none⟩)) := by
              have hz := Z3.out
              have h1 := HP.out.fr.cell (p := ⟨Bs, 0, none⟩) (by show ¬ Bs = S; omega) kB
              have h2 := H5.out.1.cell (fun h => h) h1
              have := HP.out.fr.size
              exact hL.fr.cell (p := ⟨Bs, 0, none⟩) (by have := HC.out; show ¬ Bs = C; omega) h2
            have qBa : ∀ o1 o2 o3, (((wr.alloc o1).alloc o2).alloc o3).cell? ⟨Bs, 0, none⟩ = some (.pointer (some ⟨S, 0, none⟩)) := fun o1 o2 o3 => ((((Fr.refl (fun _ => False) wr).alloc o1).alloc o2).alloc o3).cell (fun h => h) qB
            have HW6 : Hid (∀ w6 w7, w6 = ((wr.alloc (.cells #[.slice none 0 0] 48)).alloc (.cells #[.int .i64 0] 3)).alloc (.cells #[.bool false] 4) → ClassAt w6 C n cb (fun i => (v i : Int)) → w6.cell? ⟨b9, 0, none⟩ = some (.int .u8 stop) → Fr (fun q => q = S ∨ q = M ∨ q = wr.heap.size ∨ q = wr.heap.size + 1) w6 w7 →
                w7.cell? ⟨wr.heap.size + 1 + 1, 0, none⟩ = some (.bool false) ∧ Fr (fun _ => False) w w7 ∧ ClassAt w7 C n cb (fun i => (v i : Int)) ∧ w7.cell? ⟨b9, 0, none⟩ = some (.int .u8 stop)) := fun w6 w7 e6 hcl h9 hf7 => by
              have hz := Z3.out
              have hc := HC.out
              have h5 := H5.out
              have y3 := HP.out.fr.size
              have y5 := hL.fr.size
              have F6 : Fr (fun _ => False) wr w6 := by rw [e6]; exact (((Fr.refl _ wr).alloc _).alloc _).alloc _
              have F0 : Fr (fun _ => False) w w6 := (Fr.transNew (Fr.transNew F3 (HP.out.fr.trans (h5.1.mono (fun _ _ h => h.elim))) (fun q hq e => by omega)) hL.fr (fun q hq e => by omega)).trans F6
              have g2 : w6.heap[wr.heap.size + 1 + 1]? = some (.cells #[.bool false] 4 (0, 0)) := by
                have := heap_alloc_new ((wr.alloc (.cells #[.slice none 0 0] 48)).alloc (.cells #[.int .i64 0] 3)) (.cells #[.bool false] 4)
                rw [World.size_alloc, World.size_alloc] at this
                rw [e6]; exact this
              refine ⟨hf7.cell (p := ⟨wr.heap.size + 1 + 1, 0, none⟩) (by show ¬ (wr.heap.size + 1 + 1 = S ∨ wr.heap.size + 1 + 1 = M ∨ wr.heap.size + 1 + 1 = wr.heap.size ∨ wr.heap.size + 1 + 1 = wr.heap.size + 1); omega) (cells_of_block g2 0), Fr.transNew F0 hf7 (fun q hq e => by omega), hcl.keep hf7 (by omega) (fun i hi => ?_), hf7.cell (p := ⟨b9, 0, none⟩) (by show ¬ (b9 = S ∨ b9 = M ∨ b9 = wr.heap.size ∨ b9 = wr.heap.size + 1); omega) h9⟩
              obtain ⟨a, b⟩ := hL.sets i hi
              have := a.lt
              omega
            clear hL qB
            go_wp2_with (go_at_call 5; go_must (obtain ⟨R, cr, hch⟩ := HCH.out _ rfl; refine (changes_any S R nr cr (ruOf x hb lb) M _ C n cb (fun i => (v i : Int)) fx Bs _ _ _ b9 stop _ hch (by omega) (by omega) rfl hst).mono ?_; rintro e w7 ⟨he, L, base, hbl, hgot, hcut, hfr7⟩; rw [he]; clear he e; obtain ⟨hBad, hF7, hcl7, h97⟩ := HW6.out _ w7 rfl hch.cls hch.bt hfr7; have HCUT : Hid _ := hcut; have HCL7 : Hid _ := hcl7; clear hch hfr7 hbl hcl7 hcut))
            obtain ⟨gv, hG, hown⟩ := hgot.got
            have HOWN : Hid _ := hown
            have HV7 : Hid (∀ j, j < n → w7.cell? ⟨yb, yo + j, none⟩ = some (.int .u8 (v j)) ∧ v j ≤ 255) := fun j hj => ⟨hF7.cell (fun h => h) (hHV.out j hj).1, (hHV.out j hj).2⟩
            have HR7 : Hid (RIn w7 xb xo nr x) := hHR.out.keep hF7 (fun _ _ h => h)
            have HF7 : Hid _ := hF7
            clear hgot hown HCH HW6 qBa HLC H5 HP HC k9 kM kS kB HS0 HM0 hF7
            generalize eBb : wr.heap.size + 1 + 1 = Bb at *
            generalize eBc : wr.heap.size + 1 = Bc at *
            generalize eBg : wr.heap.size = Bg at *
            clear eBb eBc eBg
            go_loopw [122, 21] (fun t hd wr => ∃ i : Nat, i ≤ n ∧ t = .int .i64 i ∧ hd = .int .u64 (heldW f0 (fun j => (v j : Int)) i) ∧ wr = w7) (fun t _ _ => n - (intOf t).toNat)
            case atStart => exact ⟨0, Nat.zero_le _, rfl, by simp [heldW, hf0.out, hfN.out.1], rfl⟩
            case round =>
              obtain ⟨i, hi2, rfl, rfl, rfl⟩ := hrel
              by_cases hlt2 : i < n
              · obtain rfl := ha1 (by omega)
                obtain ⟨c0, hv2⟩ := HV7.out i hlt2
                have hltI2 : (i : Int) < n := by omega
                have HH : Hid (heldW f0 (fun j => (v j : Int)) (i + 1) = bits .or .u64 (heldW f0 (fun j => (v j : Int)) i) (v i : Int)) := rfl
                generalize v i = vi at *
                go_wp2
                exact ⟨⟨i + 1, by omega, by go_num, by rw [HH.out], by first | trivial | rfl⟩, by simp [intOf]; omega⟩
              · obtain rfl : n = i := by omega
                have hltI2 : ¬ (n : Int) < n := by omega
                obtain ⟨hvl, ehv⟩ : ∃ y, y = heldW f0 (fun j => (v j : Int)) n := ⟨_, rfl⟩
                rw [← ehv]
                have HHV : Hid _ := ehv
                clear ehv
                go_wp2
                obtain ⟨w7, ew7⟩ : ∃ y, y = wr := ⟨_, rfl⟩
                subst ew7
                obtain ⟨i51, hi51, hs0, hs1, hs2⟩ := info_parts info51
                have HNAT : Hid (∃ H : Nat, hvl = (H : Int) ∧ H < 256) := by
                  have e := hf0.out
                  obtain ⟨H, h1', h2'⟩ := heldW_nat fN v hfN.out.2 n (fun j hj => (hHV.out j hj).2)
                  exact ⟨H, by rw [HHV.out, e]; exact h1', h2'⟩
                go_loopw [133, 24, 25] (fun t wv dn wr => ∃ (k : Nat) (K : List Stp) (d : Bool), k ≤ nr ∧ t = .int .i64 k ∧ dn = .bool d ∧ wr.ownsRow w7.heap.size 51 3 wv K.length (stepCs K) ∧ Fr (fun _ => False) w7 wr ∧
                    ((d = false ∧ K = flat (ruOf x hb lb) (fun j => (v j : Int)) n hvl (List.range k) ∧ Unhit stop K) ∨ (d = true ∧ K <+: flat (ruOf x hb lb) (fun j => (v j : Int)) n hvl (List.range nr) ∧ K.length = stop ∧ 0 < stop))) (fun t _ _ _ => nr - (intOf t).toNat)
                case atStart => exact ⟨0, [], false, Nat.zero_le _, rfl, rfl, World.ownsRow_nil _ _ _ _, Fr.refl _ _, .inl ⟨rfl, rfl, by unfold Unhit; simp; omega⟩⟩
                case round =>
                  obtain ⟨k, K, d, hk, rfl, rfl, hownK, hfr, hcase⟩ := hrel
                  by_cases hltk : k < nr
                  · obtain rfl := ha0 (by omega)
                    have hltkI : (k : Int) < nr := by omega
                    have hR := HR7.out.keep hfr (fun _ _ h => h)
                    have c0 := hR.c0 k hltk
                    have c1 := hR.c1 k hltk
                    have c2 := hR.c2 k hltk
                    have c3 := hR.c3 k hltk
                    have c4 := hR.c4 k hltk
                    obtain ⟨e1, e2, e3, e4⟩ := hR.le k hltk
                    have h9r := hfr.cell (fun h => h) h97
                    have HOK : Hid (wr.ownsRow w7.heap.size 51 3 u24 K.length (stepCs K)) := hownK
                    clear hR hownK
                    have HSH : Hid ((bits .and .u64 (hvl / 2 ^ ((x k).adm % 8)) 1 == 0) = !hasI hvl ((x k).adm % 8)) := by
                      obtain ⟨H, h1', h2'⟩ := HNAT.out
                      rw [h1']
                      exact shr_bit H _ (by omega) (by have := Nat.mod_lt (x k).adm (show 8 > 0 by omega); omega)
                    have HRS : Hid (ruleSteps (ruOf x hb lb) (fun j => (v j : Int)) n hvl k = if hasI hvl ((x k).adm % 8) then rowSteps (ruOf x hb lb k) k (fun j => (v j : Int)) n else []) := rfl
                    have HFS : Hid (flat (ruOf x hb lb) (fun j => (v j : Int)) n hvl (List.range (k + 1)) = flat (ruOf x hb lb) (fun j => (v j : Int)) n hvl (List.range k) ++ ruleSteps (ruOf x hb lb) (fun j => (v j : Int)) n hvl k) := by
                      have := flat_snoc (ruOf x hb lb) (fun j => (v j : Int)) n hvl (List.range k) k
                      rw [← List.range_succ] at this
                      exact this
                    rcases hcase with ⟨rfl, hK, hun⟩ | ⟨rfl, hpre, hlen, h0⟩
                    · have hsh := HSH.out
                      cases hbb : hasI hvl ((x k).adm % 8) with
                      | false =>
                        rw [hbb] at hsh HRS
                        simp only [Bool.not_false] at hsh
                        have hfin : Hid (K = flat (ruOf x hb lb) (fun j => (v j : Int)) n hvl (List.range (k + 1))) := by
                          have : K = flat (ruOf x hb lb) (fun j => (v j : Int)) n hvl (List.range (k + 1)) := by rw [HFS.out, HRS.out, ← hK]; simp
                          exact this
                        have hun' : Hid _ := hun
                        clear hK hun
                        go_wp2
                        exact ⟨⟨k + 1, K, false, by omega, by go_num, rfl, HOK.out.alloc _, hfr.alloc _, .inl ⟨rfl, hfin.out, hun'.out⟩⟩, by simp [intOf]; omega⟩
                      | true =>
                        rw [hbb] at hsh HRS
                        simp only [Bool.not_true] at hsh
                        obtain ⟨bt, ebt⟩ : ∃ y, y = IntKind.u64.wrap (2 ^ ((x k).role % 8)) := ⟨_, rfl⟩
                        have HBT : Hid (bitI ((x k).role % 8) = bt) := by
                          have : bitI ((x k).role % 8) = bt := by
                            rw [ebt]; unfold bitI
                            rw [Nat.mod_eq_of_lt (show (x k).role % 8 < 64 by omega)]
                          exact this
                        have hfl0 : K.length ≤ 255 * 256 := by
                          rw [hK]
                          refine Nat.le_trans (flat_len _ _ _ _ _) ?_
                          rw [List.length_range]
                          exact Nat.mul_le_mul (by omega) (by omega)
                        have HUN : Hid _ := hun
                        have HKK : Hid _ := hK
                        clear hK hun
                        go_wp2
                        rw [← ebt]
                        have HEBT : Hid _ := ebt
                        clear ebt
                        generalize hW8 : wr.alloc _ = W8
                        have x0 : W8.cell? ⟨wr.heap.size, 0, none⟩ = some (.bool (x k).rv) := by rw [← hW8]; exact cells_of_block (heap_alloc_new wr _) 0
                        have XB8 : Hid (W8.heap[wr.heap.size]? = some (.cells #[.bool (x k).rv, .int .u8 (x k).adm, .int .u8 (x k).role, .int .u8 (x k).h, .int .u8 (x k).l] 40 (0, 0))) := by
                          have : W8.heap[wr.heap.size]? = some (.cells #[.bool (x k).rv, .int .u8 (x k).adm, .int .u8 (x k).role, .int .u8 (x k).h, .int .u8 (x k).l] 40 (0, 0)) := by rw [← hW8]; exact heap_alloc_new wr _
                          exact this
                        have F8 : Fr (fun _ => False) wr W8 := by rw [← hW8]; exact (Fr.refl _ wr).alloc _
                        have o8 : Hid (W8.ownsRow w7.heap.size 51 3 u24 K.length (stepCs K)) := F8.owns HOK.out (fun _ _ h => h)
                        have n8 := F8.cell (fun h => h) h9r
                        have HF8 : Hid (Fr (fun _ => False) w7 W8) := hfr.trans F8
                        generalize wr.heap.size = Xb at *
                        go_loopw [158, 24, 25] (fun t wv dn wq => ∃ (i : Nat) (K2 : List Stp), i ≤ n ∧ t = .int .i64 i ∧ dn = .bool false ∧ K2 = K ++ rowSteps (ruOf x hb lb k) k (fun j => (v j : Int)) i ∧ wq.ownsRow w7.heap.size 51 3 wv K2.length (stepCs K2) ∧ Fr (fun q => w7.heap.size ≤ q ∧ ¬ q = Xb) W8 wq ∧ Unhit stop K2) (fun t _ _ _ => n - (intOf t).toNat)
                        case atStart => exact ⟨0, K, Nat.zero_le _, rfl, rfl, by simp [rowSteps], o8.out, Fr.refl _ _, HUN.out⟩
                        case round =>
                          obtain ⟨i, K2, hi3, rfl, rfl, hK2, hO2, hfq, hun2⟩ := hrel
                          have HO2 : Hid (wr.ownsRow w7.heap.size 51 3 u24 K2.length (stepCs K2)) := hO2
                          have HUN2 : Hid _ := hun2
                          have HFULL : Hid (K ++ rowSteps (ruOf x hb lb k) k (fun j => (v j : Int)) n = flat (ruOf x hb lb) (fun j => (v j : Int)) n hvl (List.range (k + 1))) := by
                            have : K ++ rowSteps (ruOf x hb lb k) k (fun j => (v j : Int)) n = flat (ruOf x hb lb) (fun j => (v j : Int)) n hvl (List.range (k + 1)) := by rw [HFS.out, HRS.out, ← HKK.out]; simp
                            exact this
                          clear hO2 hun2
                          by_cases hlti : i < n
                          · obtain rfl := ha1 (by omega)
                            have hltiI : (i : Int) < n := by omega
                            have vc := hfq.cell (p := ⟨yb, yo + i, none⟩) (fun h => by have := World.block_lt_of_cell? w7 _ (HV7.out i hlti).1; have h' := h.1; simp at h'; omega) (HF8.out.cell (fun h => h) (HV7.out i hlti).1)
                            have hv2 := (HV7.out i hlti).2
                            have xq := hfq.cell (p := ⟨Xb, 0, none⟩) (fun h => h.2 rfl) x0
                            have n9 := hfq.cell (p := ⟨b9, 0, none⟩) (fun h => by have := World.block_lt_of_cell? w7 _ h97; have h' := h.1; simp at h'; omega) n8
                            have HST : Hid (rowSteps (ruOf x hb lb k) k (fun j => (v j : Int)) (i + 1) = rowSteps (ruOf x hb lb k) k (fun j => (v j : Int)) i ++ (if okR (ruOf x hb lb k) (v i : Int) then [(k, i, nxI (ruOf x hb lb k).rv (ruOf x hb lb k).role (v i : Int))] else [])) := rfl
                            have hrl := rowSteps_len (ruOf x hb lb k) k (fun j => (v j : Int)) i
                            have hlen2 : K2.length ≤ 65536 := by rw [hK2, List.length_append]; omega
                            have HK2 : Hid _ := hK2
                            clear hK2
                            have HSZ : Hid (w7.heap.size ≤ wr.heap.size) := Nat.le_trans HF8.out.size hfq.size
                            have HNB : Hid (¬ u24.ownBlock = some b9) := fun e => by have h1' := (HO2.out.lt b9 e).1; have h2' : b9 < w7.heap.size := World.block_lt_of_cell? w7 _ h97; omega
                            have HNW : Hid (∀ q, u24.ownBlock = some q → w7.heap.size ≤ q ∧ ¬ q = Xb) := fun q e => by
                              obtain ⟨a1', cur, a2'⟩ := own51 HO2.out e
                              refine ⟨a1', fun ex => ?_⟩
                              subst ex
                              rw [hfq.heap (fun h => h.2 rfl) XB8.out] at a2'
                              cases a2'
                            have hA : okR (ruOf x hb lb k) (v i : Int) = if (x k).rv then (bits .and .u64 (v i : Int) bt != 0) else (!(bits .and .u64 (v i : Int) bt != 0) && !((bits .and .u64 (v i : Int) ((x k).h : Int) != ((x k).h : Int)) || (bits .and .u64 (v i : Int) ((x k).l : Int) != 0))) := by
                              show okB _ _ _ _ _ = _
                              unfold okB metB hasI
                              show (if (x k).rv = true then (bits .and .u64 (v i : Int) (bitI ((x k).role % 8)) != 0) else (!(bits .and .u64 (v i : Int) (bitI ((x k).role % 8)) != 0) && _)) = _
                              rw [HBT.out]
                              rfl
                            clear hrl
                            cases hrv : (x k).rv with
                            | true =>
                              rw [hrv] at hA xq
                              simp only [if_true] at hA
                              cases ha : (bits .and .u64 (v i : Int) bt != 0) with
                              | true =>
                                have hokR : okR (ruOf x hb lb k) (v i : Int) = true := by rw [hA, ha]
                                clear hA
                                have HNX : Hid (nxI (ruOf x hb lb k).rv (ruOf x hb lb k).role (v i : Int) = (bits .andNot .u64 (v i : Int) bt)) := by
                                  have : nxI (ruOf x hb lb k).rv (ruOf x hb lb k).role (v i : Int) = (bits .andNot .u64 (v i : Int) bt) := by simp [nxI, ruOf, hrv, remI, HBT.out]
                                  exact this
                                have HNEXT : Hid (K2 ++ [(k, i, (bits .andNot .u64 (v i : Int) bt))] = K ++ rowSteps (ruOf x hb lb k) k (fun j => (v j : Int)) (i + 1)) := by
                                  have : K2 ++ [(k, i, (bits .andNot .u64 (v i : Int) bt))] = K ++ rowSteps (ruOf x hb lb k) k (fun j => (v j : Int)) (i + 1) := by rw [HST.out, hokR, HNX.out, HK2.out]; simp
                                  exact this
                                have HHIT : Hid (K2 ++ [(k, i, (bits .andNot .u64 (v i : Int) bt))] <+: flat (ruOf x hb lb) (fun j => (v j : Int)) n hvl (List.range nr)) := by
                                  have h1' := rowSteps_prefix (ruOf x hb lb k) k (fun j => (v j : Int)) (i + 1) (n - (i + 1))
                                  rw [show i + 1 + (n - (i + 1)) = n by omega] at h1'
                                  have : K2 ++ [(k, i, (bits .andNot .u64 (v i : Int) bt))] <+: flat (ruOf x hb lb) (fun j => (v j : Int)) n hvl (List.range nr) := by
                                    rw [HNEXT.out]
                                    refine List.IsPrefix.trans ((List.prefix_append_right_inj _).2 h1') ?_
                                    rw [HFULL.out]
                                    refine flat_prefix _ _ _ _ ?_
                                    exact range_prefix (by omega)
                                  exact this
                                generalize v i = vi at *
                                by_cases hstop : K2.length + 1 = stop
                                · have hstI : ((K2.length : Int) + 1 == stop) = true := by simp; omega
                                  have HSTOP : Hid _ := hstop
                                  clear hstop
                                  go_wp2_with (at_builtin; go_must (refine wpList_append_own _ rfl (.tmp 195) (.tmp 200) 48 rfl w7.heap.size 51 i51 _ 3 24 Ybad.underlying48 hi51 hs0 hs1 hs2 rfl (by omega) u24 K2.length (stepCs K2) rfl (HO2.out.alloc _) ⟨wr.heap.size, 0, none⟩ 1 1 (stC (k, i, (bits .andNot .u64 (vi : Int) bt))) rfl rfl three_newsP (by intro u hu; simp [stC] at hu; rcases hu with rfl | rfl | rfl <;> rfl) (by unfold maxLen; omega) (by omega) (by have := HSZ.out; simp; omega) ?_); intro v' w1 ho hg _; obtain ⟨g1, c1', hv1, _⟩ := owns_pos ho (by omega); subst hv1; have F1 : Fr (fun q => u24.ownBlock = some q) wr w1 := ((Fr.refl _ wr).alloc _).grown hg (fun _ h _ => h); have n1 := F1.cell (p := ⟨b9, 0, none⟩) HNB.out n9)
                                  refine ⟨⟨k + 1, K2 ++ [(k, i, (bits .andNot .u64 (vi : Int) bt))], true, by omega, by go_num, rfl, ?_, ?_, .inr ⟨rfl, HHIT.out, by rw [List.length_append]; exact HSTOP.out, by have := HSTOP.out; omega⟩⟩, by simp [intOf]; omega⟩
                                  · rw [List.length_append, stepCs_snoc]; exact ho
                                  · exact Fr.transNew (Fr.transNew HF8.out hfq (fun q hq e => by have := e.1; omega)) F1 (fun q hq e => by have := (HO2.out.lt q e).1; omega)
                                · have hstI : ((K2.length : Int) + 1 == stop) = false := by simp; omega
                                  go_wp2_with (at_builtin; go_must (refine wpList_append_own _ rfl (.tmp 195) (.tmp 200) 48 rfl w7.heap.size 51 i51 _ 3 24 Ybad.underlying48 hi51 hs0 hs1 hs2 rfl (by omega) u24 K2.length (stepCs K2) rfl (HO2.out.alloc _) ⟨wr.heap.size, 0, none⟩ 1 1 (stC (k, i, (bits .andNot .u64 (vi : Int) bt))) rfl rfl three_newsP (by intro u hu; simp [stC] at hu; rcases hu with rfl | rfl | rfl <;> rfl) (by unfold maxLen; omega) (by omega) (by have := HSZ.out; simp; omega) ?_); intro v' w1 ho hg _; obtain ⟨g1, c1', hv1, _⟩ := owns_pos ho (by omega); subst hv1; have F1 : Fr (fun q => u24.ownBlock = some q) wr w1 := ((Fr.refl _ wr).alloc _).grown hg (fun _ h _ => h); have n1 := F1.cell (p := ⟨b9, 0, none⟩) HNB.out n9)
                                  refine ⟨⟨i + 1, K2 ++ [(k, i, (bits .andNot .u64 (vi : Int) bt))], by omega, by go_num, rfl, HNEXT.out, ?_, ?_, ?_⟩, by simp [intOf]; omega⟩
                                  · rw [List.length_append, stepCs_snoc]; exact ho
                                  · exact hfq.trans (F1.mono (fun q _ e => HNW.out q e))
                                  · rcases HUN2.out with h | h
                                    · exact .inl h
                                    · refine .inr ?_
                                      rw [List.length_append]
                                      simp only [List.length_cons, List.length_nil]
                                      omega
                              | false =>
                                have hokR : okR (ruOf x hb lb k) (v i : Int) = false := by rw [hA, ha]
                                clear hA
                                have HNEXT : Hid (K2 = K ++ rowSteps (ruOf x hb lb k) k (fun j => (v j : Int)) (i + 1)) := by
                                  have : K2 = K ++ rowSteps (ruOf x hb lb k) k (fun j => (v j : Int)) (i + 1) := by rw [HST.out, hokR, HK2.out]; simp
                                  exact this
                                generalize v i = vi at *
                                go_wp2
                                exact ⟨⟨i + 1, K2, by omega, by go_num, rfl, HNEXT.out, HO2.out, hfq, HUN2.out⟩, by simp [intOf]; omega⟩
                            | false =>
                              rw [hrv] at hA xq
                              simp only [Bool.false_eq_true, if_false] at hA
                              cases ha : (bits .and .u64 (v i : Int) bt == 0) with
                              | false =>
                                have hokR : okR (ruOf x hb lb k) (v i : Int) = false := by rw [hA]; simp [bne, ha]
                                clear hA
                                have HNEXT : Hid (K2 = K ++ rowSteps (ruOf x hb lb k) k (fun j => (v j : Int)) (i + 1)) := by
                                  have : K2 = K ++ rowSteps (ruOf x hb lb k) k (fun j => (v j : Int)) (i + 1) := by rw [HST.out, hokR, HK2.out]; simp
                                  exact this
                                generalize v i = vi at *
                                go_wp2
                                exact ⟨⟨i + 1, K2, by omega, by go_num, rfl, HNEXT.out, HO2.out, hfq, HUN2.out⟩, by simp [intOf]; omega⟩
                              | true =>
                                cases hb' : (bits .and .u64 (v i : Int) ((x k).h : Int) == ((x k).h : Int)) with
                                | false =>
                                  have hokR : okR (ruOf x hb lb k) (v i : Int) = false := by rw [hA]; simp [bne, ha, hb']
                                  clear hA
                                  have HNEXT : Hid (K2 = K ++ rowSteps (ruOf x hb lb k) k (fun j => (v j : Int)) (i + 1)) := by
                                    have : K2 = K ++ rowSteps (ruOf x hb lb k) k (fun j => (v j : Int)) (i + 1) := by rw [HST.out, hokR, HK2.out]; simp
                                    exact this
                                  generalize v i = vi at *
                                  go_wp2
                                  exact ⟨⟨i + 1, K2, by omega, by go_num, rfl, HNEXT.out, HO2.out, hfq, HUN2.out⟩, by simp [intOf]; omega⟩
                                | true =>
                                  cases hc' : (bits .and .u64 (v i : Int) ((x k).l : Int) == 0) with
                                  | false =>
                                    have hokR : okR (ruOf x hb lb k) (v i : Int) = false := by rw [hA]; simp [bne, ha, hb', hc']
                                    clear hA
                                    have HNEXT : Hid (K2 = K ++ rowSteps (ruOf x hb lb k) k (fun j => (v j : Int)) (i + 1)) := by
                                      have : K2 = K ++ rowSteps (ruOf x hb lb k) k (fun j => (v j : Int)) (i + 1) := by rw [HST.out, hokR, HK2.out]; simp
                                      exact this
                                    generalize v i = vi at *
                                    go_wp2
                                    exact ⟨⟨i + 1, K2, by omega, by go_num, rfl, HNEXT.out, HO2.out, hfq, HUN2.out⟩, by simp [intOf]; omega⟩
                                  | true =>
                                    have hokR : okR (ruOf x hb lb k) (v i : Int) = true := by rw [hA]; simp [bne, ha, hb', hc']
                                    clear hA
                                    have HNX : Hid (nxI (ruOf x hb lb k).rv (ruOf x hb lb k).role (v i : Int) = (bits .or .u64 (v i : Int) bt)) := by
                                      have : nxI (ruOf x hb lb k).rv (ruOf x hb lb k).role (v i : Int) = (bits .or .u64 (v i : Int) bt) := by simp [nxI, ruOf, hrv, addI, HBT.out]
                                      exact this
                                    have HNEXT : Hid (K2 ++ [(k, i, (bits .or .u64 (v i : Int) bt))] = K ++ rowSteps (ruOf x hb lb k) k (fun j => (v j : Int)) (i + 1)) := by
                                      have : K2 ++ [(k, i, (bits .or .u64 (v i : Int) bt))] = K ++ rowSteps (ruOf x hb lb k) k (fun j => (v j : Int)) (i + 1) := by rw [HST.out, hokR, HNX.out, HK2.out]; simp
                                      exact this
                                    have HHIT : Hid (K2 ++ [(k, i, (bits .or .u64 (v i : Int) bt))] <+: flat (ruOf x hb lb) (fun j => (v j : Int)) n hvl (List.range nr)) := by
                                      have h1' := rowSteps_prefix (ruOf x hb lb k) k (fun j => (v j : Int)) (i + 1) (n - (i + 1))
                                      rw [show i + 1 + (n - (i + 1)) = n by omega] at h1'
                                      have : K2 ++ [(k, i, (bits .or .u64 (v i : Int) bt))] <+: flat (ruOf x hb lb) (fun j => (v j : Int)) n hvl (List.range nr) := by
                                        rw [HNEXT.out]
                                        refine List.IsPrefix.trans ((List.prefix_append_right_inj _).2 h1') ?_
                                        rw [HFULL.out]
                                        refine flat_prefix _ _ _ _ ?_
                                        exact range_prefix (by omega)
                                      exact this
                                    generalize v i = vi at *
                                    by_cases hstop : K2.length + 1 = stop
                                    · have hstI : ((K2.length : Int) + 1 == stop) = true := by simp; omega
                                      have HSTOP : Hid _ := hstop
                                      clear hstop
                                      go_wp2_with (at_builtin; go_must (refine wpList_append_own _ rfl (.tmp 195) (.tmp 200) 48 rfl w7.heap.size 51 i51 _ 3 24 Ybad.underlying48 hi51 hs0 hs1 hs2 rfl (by omega) u24 K2.length (stepCs K2) rfl (HO2.out.alloc _) ⟨wr.heap.size, 0, none⟩ 1 1 (stC (k, i, (bits .or .u64 (vi : Int) bt))) rfl rfl three_newsP (by intro u hu; simp [stC] at hu; rcases hu with rfl | rfl | rfl <;> rfl) (by unfold maxLen; omega) (by omega) (by have := HSZ.out; simp; omega) ?_); intro v' w1 ho hg _; obtain ⟨g1, c1', hv1, _⟩ := owns_pos ho (by omega); subst hv1; have F1 : Fr (fun q => u24.ownBlock = some q) wr w1 := ((Fr.refl _ wr).alloc _).grown hg (fun _ h _ => h); have n1 := F1.cell (p := ⟨b9, 0, none⟩) HNB.out n9)
                                      refine ⟨⟨k + 1, K2 ++ [(k, i, (bits .or .u64 (vi : Int) bt))], true, by omega, by go_num, rfl, ?_, ?_, .inr ⟨rfl, HHIT.out, by rw [List.length_append]; exact HSTOP.out, by have := HSTOP.out; omega⟩⟩, by simp [intOf]; omega⟩
                                      · rw [List.length_append, stepCs_snoc]; exact ho
                                      · exact Fr.transNew (Fr.transNew HF8.out hfq (fun q hq e => by have := e.1; omega)) F1 (fun q hq e => by have := (HO2.out.lt q e).1; omega)
                                    · have hstI : ((K2.length : Int) + 1 == stop) = false := by simp; omega
                                      go_wp2_with (at_builtin; go_must (refine wpList_append_own _ rfl (.tmp 195) (.tmp 200) 48 rfl w7.heap.size 51 i51 _ 3 24 Ybad.underlying48 hi51 hs0 hs1 hs2 rfl (by omega) u24 K2.length (stepCs K2) rfl (HO2.out.alloc _) ⟨wr.heap.size, 0, none⟩ 1 1 (stC (k, i, (bits .or .u64 (vi : Int) bt))) rfl rfl three_newsP (by intro u hu; simp [stC] at hu; rcases hu with rfl | rfl | rfl <;> rfl) (by unfold maxLen; omega) (by omega) (by have := HSZ.out; simp; omega) ?_); intro v' w1 ho hg _; obtain ⟨g1, c1', hv1, _⟩ := owns_pos ho (by omega); subst hv1; have F1 : Fr (fun q => u24.ownBlock = some q) wr w1 := ((Fr.refl _ wr).alloc _).grown hg (fun _ h _ => h); have n1 := F1.cell (p := ⟨b9, 0, none⟩) HNB.out n9)
                                      refine ⟨⟨i + 1, K2 ++ [(k, i, (bits .or .u64 (vi : Int) bt))], by omega, by go_num, rfl, HNEXT.out, ?_, ?_, ?_⟩, by simp [intOf]; omega⟩
                                      · rw [List.length_append, stepCs_snoc]; exact ho
                                      · exact hfq.trans (F1.mono (fun q _ e => HNW.out q e))
                                      · rcases HUN2.out with h | h
                                        · exact .inl h
                                        · refine .inr ?_
                                          rw [List.length_append]
                                          simp only [List.length_cons, List.length_nil]
                                          omega
                          · obtain rfl : n = i := by omega
                            have hltiI : ¬ (n : Int) < n := by omega
                            have HN2 : Hid (K2 = flat (ruOf x hb lb) (fun j => (v j : Int)) n hvl (List.range (k + 1))) := by
                              have : K2 = flat (ruOf x hb lb) (fun j => (v j : Int)) n hvl (List.range (k + 1)) := by rw [hK2]; exact HFULL.out
                              exact this
                            clear hK2
                            go_wp2
                            exact ⟨⟨k + 1, K2, false, by omega, by go_num, rfl, HO2.out, Fr.transNew HF8.out hfq (fun q hq e => by have := e.1; omega), .inl ⟨rfl, HN2.out, HUN2.out⟩⟩, by simp [intOf]; omega⟩
                    · have HC2 : Hid (Cut stop (flat (ruOf x hb lb) (fun j => (v j : Int)) n hvl (List.range nr)) K) := .inr ⟨hpre, hlen, h0⟩
                      obtain ⟨W9, eW9⟩ : ∃ y, wr.alloc (.cells #[.bool (x k).rv, .int .u8 (x k).adm, .int .u8 (x k).role, .int .u8 (x k).h, .int .u8 (x k).l] 40) = y := ⟨_, rfl⟩
                      have F9 : Fr (fun _ => False) w7 W9 := by rw [← eW9]; exact hfr.alloc _
                      have O9 : Hid (W9.ownsRow w7.heap.size 51 3 u24 K.length (stepCs K)) := by
                        have : W9.ownsRow w7.heap.size 51 3 u24 K.length (stepCs K) := by rw [← eW9]; exact HOK.out.alloc _
                        exact this
                      clear hpre hlen HSH HOK
                      have hKL : K = L := Cut.one HC2.out (by have e1 := hfx0.out; have e2 := HHV.out; have h3 := HCUT.out; rw [e1, ← e2] at h3; exact h3)
                      subst hKL
                      obtain ⟨ao, cp, g, egv, hao, hcp, hcg⟩ := row_form (F9.owns HOWN.out (fun _ _ h => h))
                      obtain ⟨bo, cq, g', euv, hbo, hcq, hcw⟩ := row_form O9.out
                      subst egv
                      subst euv
                      have G9 := F9.cell (fun h => h) hG
                      have HCG : Hid _ := hcg
                      have HCW : Hid _ := hcw
                      have HF9 : Hid _ := F9
                      have HCLs : Hid (ClassAt W9 C n cb (fun j => (v j : Int))) := HCL7.out.keep F9 (fun h => h) (fun _ _ h => h)
                      have HV9 : Hid (∀ j, j < n → W9.cell? ⟨yb, yo + j, none⟩ = some (.int .u8 (v j)) ∧ v j ≤ 255) := fun j hj => ⟨F9.cell (fun h => h) (HV7.out j hj).1, (HV7.out j hj).2⟩
                      have HB9 : Hid (Fr (fun _ => False) w W9) := HF7.out.trans F9
                      have hKle : K.length ≤ 65536 := by
                        have h1' : K.length ≤ (flat (ruOf x hb lb) (fun j => (v j : Int)) n hvl (List.range nr)).length := by
                          rcases HC2.out with ⟨e, _⟩ | ⟨e, _⟩
                          · rw [e]; exact Nat.le_refl _
                          · exact e.length_le
                        have h2' := flat_len (ruOf x hb lb) (fun j => (v j : Int)) n hvl (List.range nr)
                        rw [List.length_range] at h2'
                        have h3' : nr * n ≤ 256 * 256 := Nat.mul_le_mul (by omega) (by omega)
                        omega
                      clear hcg hcw F9
                      go_wp2
                      go_loopw [216] (fun t wr => ∃ i : Nat, i ≤ K.length ∧ t = .int .i64 i ∧ Fr (fun _ => False) W9 wr) (fun t _ => K.length - (intOf t).toNat)
                      case atStart => exact ⟨0, Nat.zero_le _, rfl, Fr.refl _ _⟩
                      case round =>
                        obtain ⟨i, hi4, rfl, hfa⟩ := hrel
                        by_cases hlt4 : i < K.length
                        · obtain rfl := hao (by omega)
                          obtain rfl := hbo (by omega)
                          have hlt4I : (i : Int) < K.length := by omega
                          have s0 := stepCs_at K i 0 hlt4 (by omega)
                          have s1 := stepCs_at K i 1 hlt4 (by omega)
                          have s2 := stepCs_at K i 2 hlt4 (by omega)
                          have p0 := (HCG.out (i * 3 + 0) (by omega)).trans s0
                          have p1 := (HCG.out (i * 3 + 1) (by omega)).trans s1
                          have p2 := (HCG.out (i * 3 + 2) (by omega)).trans s2
                          have q0 := (HCW.out (i * 3 + 0) (by omega)).trans s0
                          have q1 := (HCW.out (i * 3 + 1) (by omega)).trans s1
                          have q2 := (HCW.out (i * 3 + 2) (by omega)).trans s2
                          have p0' : wr.cell? ⟨g, i * 3, none⟩ = some (.int .i64 (K.getD i (0, 0, 0)).1) := hfa.cell (fun h => h) p0
                          have p1' : wr.cell? ⟨g, i * 3 + 1, none⟩ = some (.int .i64 (K.getD i (0, 0, 0)).2.1) := hfa.cell (fun h => h) p1
                          have p2' : wr.cell? ⟨g, i * 3 + 2, none⟩ = some (.int .u64 (K.getD i (0, 0, 0)).2.2) := hfa.cell (fun h => h) p2
                          have q0' : wr.cell? ⟨g', i * 3, none⟩ = some (.int .i64 (K.getD i (0, 0, 0)).1) := hfa.cell (fun h => h) q0
                          have q1' : wr.cell? ⟨g', i * 3 + 1, none⟩ = some (.int .i64 (K.getD i (0, 0, 0)).2.1) := hfa.cell (fun h => h) q1
                          have q2' : wr.cell? ⟨g', i * 3 + 2, none⟩ = some (.int .u64 (K.getD i (0, 0, 0)).2.2) := hfa.cell (fun h => h) q2
                          have G9' := hfa.cell (fun h => h) G9
                          clear s0 s1 s2 p0 p1 p2 q0 q1 q2
                          generalize K.getD i (0, 0, 0) = st at *
                          obtain ⟨sa, sb', sc⟩ := st
                          dsimp only at p0' p1' p2' q0' q1' q2'
                          go_wp2
                          go_quiet (fail)
                          go_wp2
                          exact ⟨⟨i + 1, by omega, by go_num, hfa.drewN _⟩, by simp [intOf]; omega⟩
                        · obtain rfl : K.length = i := by omega
                          have hlt4I : ¬ (K.length : Int) < K.length := by omega
                          go_wp2
                          obtain ⟨wa, ewa⟩ : ∃ y, y = wr := ⟨_, rfl⟩
                          subst ewa
                          go_loopw [231] (fun t wr => ∃ i : Nat, i ≤ n ∧ t = .int .i64 i ∧ wr = wa) (fun t _ => n - (intOf t).toNat)
                          case atStart => exact ⟨0, Nat.zero_le _, rfl, rfl⟩
                          case round =>
                            obtain ⟨i, hi5, rfl, rfl⟩ := hrel
                            by_cases hlt5 : i < n
                            · obtain rfl := ha1 (by omega)
                              have hlt5I : (i : Int) < n := by omega
                              have vc := hfa.cell (fun h => h) (HV9.out i hlt5).1
                              have vl := (HV9.out i hlt5).2
                              have cl := HCLs.out.keep hfa (fun h => h) (fun _ _ h => h)
                              have d0 : wr.cell? ⟨C, i * 2, none⟩ = some (.slice (some ⟨cb i, 0, none⟩) 1 1) := cl.c0 i hlt5
                              have d1 := (cl.s i hlt5).one
                              clear cl
                              generalize v i = vi at *
                              generalize cb i = ci at *
                              go_wp2
                              exact ⟨⟨i + 1, by omega, by go_num, by first | trivial | rfl⟩, by simp [intOf]; omega⟩
                            · obtain rfl : n = i := by omega
                              have hlt5I : ¬ (n : Int) < n := by omega
                              go_wp2
                              go_ret
                              exact ⟨rfl, (HB9.out.trans hfa).below (Nat.le_refl _) (fun _ h => h.elim)⟩
                  · obtain rfl : nr = k := by omega
                    have hltkI : ¬ (nr : Int) < nr := by omega
                    have HC2 : Hid (Cut stop (flat (ruOf x hb lb) (fun j => (v j : Int)) n hvl (List.range nr)) K) := by
                      rcases hcase with ⟨_, hK, hun⟩ | ⟨_, hpre, hlen, h0⟩
                      · exact .inl ⟨hK, hun⟩
                      · exact .inr ⟨hpre, hlen, h0⟩
                    have O9 : Hid (wr.ownsRow w7.heap.size 51 3 u24 K.length (stepCs K)) := hownK
                    have F9 := hfr
                    clear hcase hownK
                    obtain ⟨W9, eW9⟩ : ∃ y, y = wr := ⟨_, rfl⟩
                    subst eW9
                    have hKL : K = L := Cut.one HC2.out (by have e1 := hfx0.out; have e2 := HHV.out; have h3 := HCUT.out; rw [e1, ← e2] at h3; exact h3)
                    subst hKL
                    obtain ⟨ao, cp, g, egv, hao, hcp, hcg⟩ := row_form (F9.owns HOWN.out (fun _ _ h => h))
                    obtain ⟨bo, cq, g', euv, hbo, hcq, hcw⟩ := row_form O9.out
                    subst egv
                    subst euv
                    have G9 := F9.cell (fun h => h) hG
                    have HCG : Hid _ := hcg
                    have HCW : Hid _ := hcw
                    have HF9 : Hid _ := F9
                    have HCLs : Hid (ClassAt W9 C n cb (fun j => (v j : Int))) := HCL7.out.keep F9 (fun h => h) (fun _ _ h => h)
                    have HV9 : Hid (∀ j, j < n → W9.cell? ⟨yb, yo + j, none⟩ = some (.int .u8 (v j)) ∧ v j ≤ 255) := fun j hj => ⟨F9.cell (fun h => h) (HV7.out j hj).1, (HV7.out j hj).2⟩
                    have HB9 : Hid (Fr (fun _ => False) w W9) := HF7.out.trans F9
                    have hKle : K.length ≤ 65536 := by
                      have h1' : K.length ≤ (flat (ruOf x hb lb) (fun j => (v j : Int)) n hvl (List.range nr)).length := by
                        rcases HC2.out with ⟨e, _⟩ | ⟨e, _⟩
                        · rw [e]; exact Nat.le_refl _
                        · exact e.length_le
                      have h2' := flat_len (ruOf x hb lb) (fun j => (v j : Int)) n hvl (List.range nr)
                      rw [List.length_range] at h2'
                      have h3' : nr * n ≤ 256 * 256 := Nat.mul_le_mul (by omega) (by omega)
                      omega
                    clear hcg hcw F9
                    go_wp2
                    go_loopw [216] (fun t wr => ∃ i : Nat, i ≤ K.length ∧ t = .int .i64 i ∧ Fr (fun _ => False) W9 wr) (fun t _ => K.length - (intOf t).toNat)
                    case atStart => exact ⟨0, Nat.zero_le _, rfl, Fr.refl _ _⟩
                    case round =>
                      obtain ⟨i, hi4, rfl, hfa⟩ := hrel
                      by_cases hlt4 : i < K.length
                      · obtain rfl := hao (by omega)
                        obtain rfl := hbo (by omega)
                        have hlt4I : (i : Int) < K.length := by omega
                        have s0 := stepCs_at K i 0 hlt4 (by omega)
                        have s1 := stepCs_at K i 1 hlt4 (by omega)
                        have s2 := stepCs_at K i 2 hlt4 (by omega)
                        have p0 := (HCG.out (i * 3 + 0) (by omega)).trans s0
                        have p1 := (HCG.out (i * 3 + 1) (by omega)).trans s1
                        have p2 := (HCG.out (i * 3 + 2) (by omega)).trans s2
                        have q0 := (HCW.out (i * 3 + 0) (by omega)).trans s0
                        have q1 := (HCW.out (i * 3 + 1) (by omega)).trans s1
                        have q2 := (HCW.out (i * 3 + 2) (by omega)).trans s2
                        have p0' : wr.cell? ⟨g, i * 3, none⟩ = some (.int .i64 (K.getD i (0, 0, 0)).1) := hfa.cell (fun h => h) p0
                        have p1' : wr.cell? ⟨g, i * 3 + 1, none⟩ = some (.int .i64 (K.getD i (0, 0, 0)).2.1) := hfa.cell (fun h => h) p1
                        have p2' : wr.cell? ⟨g, i * 3 + 2, none⟩ = some (.int .u64 (K.getD i (0, 0, 0)).2.2) := hfa.cell (fun h => h) p2
                        have q0' : wr.cell? ⟨g', i * 3, none⟩ = some (.int .i64 (K.getD i (0, 0, 0)).1) := hfa.cell (fun h => h) q0
                        have q1' : wr.cell? ⟨g', i * 3 + 1, none⟩ = some (.int .i64 (K.getD i (0, 0, 0)).2.1) := hfa.cell (fun h => h) q1
                        have q2' : wr.cell? ⟨g', i * 3 + 2, none⟩ = some (.int .u64 (K.getD i (0, 0, 0)).2.2) := hfa.cell (fun h => h) q2
                        have G9' := hfa.cell (fun h => h) G9
                        clear s0 s1 s2 p0 p1 p2 q0 q1 q2
                        generalize K.getD i (0, 0, 0) = st at *
                        obtain ⟨sa, sb', sc⟩ := st
                        dsimp only at p0' p1' p2' q0' q1' q2'
                        go_wp2
                        go_quiet (fail)
                        go_wp2
                        exact ⟨⟨i + 1, by omega, by go_num, hfa.drewN _⟩, by simp [intOf]; omega⟩
                      · obtain rfl : K.length = i := by omega
                        have hlt4I : ¬ (K.length : Int) < K.length := by omega
                        go_wp2
                        obtain ⟨wa, ewa⟩ : ∃ y, y = wr := ⟨_, rfl⟩
                        subst ewa
                        go_loopw [231] (fun t wr => ∃ i : Nat, i ≤ n ∧ t = .int .i64 i ∧ wr = wa) (fun t _ => n - (intOf t).toNat)
                        case atStart => exact ⟨0, Nat.zero_le _, rfl, rfl⟩
                        case round =>
                          obtain ⟨i, hi5, rfl, rfl⟩ := hrel
                          by_cases hlt5 : i < n
                          · obtain rfl := ha1 (by omega)
                            have hlt5I : (i : Int) < n := by omega
                            have vc := hfa.cell (fun h => h) (HV9.out i hlt5).1
                            have vl := (HV9.out i hlt5).2
                            have cl := HCLs.out.keep hfa (fun h => h) (fun _ _ h => h)
                            have d0 : wr.cell? ⟨C, i * 2, none⟩ = some (.slice (some ⟨cb i, 0, none⟩) 1 1) := cl.c0 i hlt5
                            have d1 := (cl.s i hlt5).one
                            clear cl
                            generalize v i = vi at *
                            generalize cb i = ci at *
                            go_wp2
                            exact ⟨⟨i + 1, by omega, by go_num, by first | trivial | rfl⟩, by simp [intOf]; omega⟩
                          · obtain rfl : n = i := by omega
                            have hlt5I : ¬ (n : Int) < n := by omega
                            go_wp2
                            go_ret
                            exact ⟨rfl, (HB9.out.trans hfa).below (Nat.le_refl _) (fun _ h => h.elim)⟩
end Go.Proofs.YbulkdbsgDoor
