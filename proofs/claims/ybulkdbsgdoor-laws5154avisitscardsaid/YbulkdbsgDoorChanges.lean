/-
  CONTRACT of changes.
-/
import Derived.Test.YbulkdbsgDoorChIn
namespace Go.Proofs.YbulkdbsgDoor
open Go.RowKit Go.Shelf
set_option linter.unusedVariables false
attribute [local go_sem] Oper.semAt_some

/-- What lies behind changes. -/
theorem ch_end {w wB W : World} {S M Bg Bc sb D stop : Nat} {o o' : Obj} {L All : List Stp} (hFw : Fr (fun k => k = S ∨ k = M) w wB) (hgot : GotAt W wB.heap.size Bg Bc L) (hfr : Fr (Out Bg Bc sb) wB W) (hD : wB.heap.size ≤ D) (hK : W.heap[D]? = some o) (ho : o.isCells = false)
    (hg : Bg < wB.heap.size) (hc : Bc < wB.heap.size) (hsb : w.heap.size ≤ sb) (hcut : Cut stop All L) :
    ∃ L base, w.heap.size ≤ base ∧ GotAt (W.putObj D o') base Bg Bc L ∧ Cut stop All L ∧ Fr (fun q => q = S ∨ q = M ∨ q = Bg ∨ q = Bc) w (W.putObj D o') := by
  have hf := own_fr (grownBy_putObj' W D o')
  have hz := hFw.size
  refine ⟨L, wB.heap.size, hz, hgot.own hf hg hc (fun q e => by cases e; exact ⟨hD, o, hK, ho⟩), hcut, ?_⟩
  refine Fr.transNew (Fr.transNew (hFw.mono (fun q _ h => h.elim .inl (fun h => .inr (.inl h)))) hfr (fun q hq e => ?_)) hf (fun q hq e => by cases e; omega)
  rcases e with e | e | e
  · exact .inr (.inr (.inl e))
  · exact .inr (.inr (.inr e))
  · omega

/-- How changes is left: by a return. -/
def QRet (R : Ending → World → Prop) : Exit → Act → World → Prop
  | .normal, a, w => LeavesInM Fence.wide 8 Ybad.prog Ybad.f5 a.tmps R a.defers .returning w
  | .ret, a, w => LeavesInM Fence.wide 8 Ybad.prog Ybad.f5 a.tmps R a.defers .returning w
  | _, _, _ => False

attribute [local go_sem] make1
set_option maxRecDepth 100000 in
set_option maxHeartbeats 8000000 in
theorem changes_any (S R nr cr : Nat) (ru : Nat → Ru) (M m C n : Nat) (cb : Nat → Nat) (vs : Nat → Int) (fx : Option (Nat × Int)) (Bs Bb Bg Bc Bt stop : Nat) (w : World) (H : ChIn w S R nr cr ru M m C n cb vs fx Bs Bb Bg Bc Bt stop)
    (hnr : nr ≤ 256) (hn : n ≤ 256) (hm : m = (nr + 63) / 64) (hst : stop ≤ 255) :
    Calls Ybad.prog 5 #[.pointer (some ⟨S, 0, none⟩), .slice (some ⟨C, 0, none⟩) n n, .func (.func 4) #[] #[.pointer (some ⟨Bs, 0, none⟩), .pointer (some ⟨Bb, 0, none⟩), .pointer (some ⟨Bg, 0, none⟩), .pointer (some ⟨Bc, 0, none⟩), .pointer (some ⟨Bt, 0, none⟩)]] w fun e w' =>
      e = .returned (.tuple #[]) ∧ ∃ L base, w.heap.size ≤ base ∧ GotAt w' base Bg Bc L ∧ Cut stop (flat ru vs n (heldW (fix0 fx) vs n) (List.range nr)) L ∧ Fr (fun q => q = S ∨ q = M ∨ q = Bg ∨ q = Bc) w w' := by
  refine (callsIn_wide (n := 8)).1 ?_
  refine callsIn_of_wp_marks Ybad.func5 rfl trivial ?_ rfl
  simp only [Ybad.ntmps5, List.size_toArray, List.length_cons, List.length_nil, Nat.reduceAdd, Nat.reduceSub, Array.replicate_succ, Array.replicate_zero, List.push_toArray, List.append_toArray, List.nil_append, List.cons_append]
  refine wpIn_mono (Q := QRet _) (wpIn_wide.2 ?_) (fun e a w h => by cases e <;> first | exact h | exact h.elim)
  have HH : Hid _ := H
  have k1 := H.rules.words
  have k2 := H.rules.s
  clear H
  have h3 : ∀ o1 o2 o3, (((w.alloc o1).alloc o2).alloc o3).cell? ⟨S, 1, none⟩ = some (.int .i64 1) := fun o1 o2 o3 => ((((Fr.refl (fun _ => False) w).alloc o1).alloc o2).alloc o3).cell (fun h => h) k1
  have h5 : ∀ o1 o2 o3 o4 o5, Fr (fun _ => False) w (((((w.alloc o1).alloc o2).alloc o3).alloc o4).alloc o5) := fun o1 o2 o3 o4 o5 => (((((Fr.refl (fun _ => False) w).alloc o1).alloc o2).alloc o3).alloc o4).alloc o5
  have H5 : Hid _ := h5
  have hmk := make32 n (by omega)
  obtain ⟨ra, rc, hrv, hra⟩ : ∃ ra rc, rulesV R nr cr = .slice ra nr rc ∧ (0 < nr → ra = some ⟨R, 0, none⟩ ∧ rc = cr) := by
    unfold rulesV
    by_cases h : nr = 0
    · exact ⟨none, 0, by simp [h], fun h => by omega⟩
    · exact ⟨some ⟨R, 0, none⟩, cr, by simp [h], fun _ => ⟨rfl, rfl⟩⟩
  rw [hrv] at k2
  have hnw : Hid (∀ w : World, Calls Ybad.prog 7 #[.int .i64 nr] w fun e w' => e = .returned (.slice (some ⟨w.heap.size, 0, none⟩) m m) ∧ SetAt w' w.heap.size (List.replicate m 0) ∧ w'.heap.size = w.heap.size + 1 ∧ Fr (fun _ => False) w w') := fun w => by
    have := new_any nr w (by omega)
    rw [← hm] at this
    exact this
  have HM : Hid _ := hm
  clear h5 hm
  go_wp2_with (first
    | (go_at_call 6; go_must (refine (held_any S C n cb vs fx _ ((H5.out _ _ _ _ _).cell (fun h => h) HH.out.rules.words) (by cases fx with | none => exact (H5.out _ _ _ _ _).cell (fun h => h) HH.out.fix | some p => exact ⟨(H5.out _ _ _ _ _).cell (fun h => h) HH.out.fix.1, HH.out.fix.2.keep (H5.out _ _ _ _ _) (fun h => h)⟩) (HH.out.cls.keep (H5.out _ _ _ _ _) (fun h => h) (fun _ _ h => h)) hn).mono ?_; rintro e w6 ⟨he, hs6, hf6⟩; rw [he]; clear he e; obtain ⟨c3, c4, c5, cS, c6, F6, z6⟩ := f5_start hf6; unfold setV; have k26 := F6.cell (fun h => h) k2; have d4 : ∀ o, (w6.alloc o).cell? ⟨w.heap.size + 1, 0, none⟩ = some (.slice (some ⟨C, 0, none⟩) n n) := (fun o => ((Fr.refl (fun _ => False) w6).alloc o).cell (fun h => h) c4); have d3 : ∀ o1 o2 o3, (((w6.alloc o1).alloc o2).alloc o3).cell? ⟨w.heap.size, 0, none⟩ = some (.pointer (some ⟨S, 0, none⟩)) := (fun o1 o2 o3 => ((((Fr.refl (fun _ => False) w6).alloc o1).alloc o2).alloc o3).cell (fun h => h) c3); have dS : ∀ o1 o2 o3, (((w6.alloc o1).alloc o2).alloc o3).cell? ⟨S, 2, none⟩ = some (.slice ra nr rc) := (fun o1 o2 o3 => ((((Fr.refl (fun _ => False) w6).alloc o1).alloc o2).alloc o3).cell (fun h => h) k26)))
    | (go_at_call 7; go_must (refine (hnw.out _).mono ?_; rintro e w10 ⟨he, hs10, hz10, hf10⟩; rw [he]; clear he e; obtain ⟨e7, eA, e8, F10⟩ := f5_mid hf10; have e4 := F10.cell (fun h => h) c4)))
  simp only [World.size_alloc] at hs6 hs10 hz10
  have F : Fr (fun _ => False) w w10 := F6.trans F10
  have e3 := F10.cell (fun h => h) c3
  have e5 := F10.cell (fun h => h) c5
  have eS : SetAt w10 (w.heap.size + 1 + 1 + 1) [0] := F10.heap (fun h => h) cS
  have e6 := F10.cell (fun h => h) c6
  have eH := hs6.keep F10 (fun h => h)
  clear hf6 hf10 H5 h3 d3 d4 dS hmk c3 c4 c5 cS c6 F6 F10 k26 hs6
  generalize eOb : w6.heap.size + 1 + 1 + 1 = ob at *
  generalize e8b : w6.heap.size + 1 + 1 = b8 at *
  generalize eAb : w6.heap.size + 1 = A at *
  generalize e7b : w6.heap.size = b7 at *
  generalize eHb : w.heap.size + 1 + 1 + 1 + 1 + 1 = hbk at *
  generalize e6b : w.heap.size + 1 + 1 + 1 + 1 = b6 at *
  generalize eSb : w.heap.size + 1 + 1 + 1 = sb at *
  generalize e5b : w.heap.size + 1 + 1 = b5 at *
  generalize e4b : w.heap.size + 1 = b4 at *
  generalize e3b : w.heap.size = b3 at *
  have Z : Hid (w.heap.size = b3 ∧ b4 = b3 + 1 ∧ b5 = b3 + 2 ∧ sb = b3 + 3 ∧ b6 = b3 + 4 ∧ hbk = b3 + 5 ∧ hbk ≤ b7 ∧ A = b7 + 1 ∧ b8 = b7 + 2 ∧ ob = b7 + 3 ∧ w10.heap.size = ob + 1) := ⟨e3b, by omega, by omega, by omega, by omega, by omega, z6, by omega, by omega, by omega, hz10⟩
  have HL0 : Hid _ := L1.start HH.out F eA hs10
  have HS10 : Hid _ := eS
  have HH10 : Hid _ := eH
  clear eOb e8b eAb e7b eHb e6b eSb e5b e4b e3b hz10 z6 w6 eA hs10 k1 eS eH hnw
  go_loopw [35] (fun t wr => ∃ (i cn : Nat) (f : Int → Option Nat) (ab : Nat → Nat), i ≤ n ∧ t = .int .i64 i ∧ cn ≤ i ∧ L1 w10 wr S R nr cr ru M m n vs A ob i i cn f ab) (fun t _ => n - (intOf t).toNat)
  case atStart => exact ⟨0, 0, _, _, Nat.zero_le _, rfl, Nat.le_refl _, HL0.out⟩
  case round =>
    obtain ⟨i, cn, f, ab, hi, rfl, hcn, hL⟩ := hrel
    by_cases hlt : i < n
    · obtain ⟨z1, z2, z3, z4, z5, z6, z7, z8, z9, z10, z11⟩ := Z.out
      obtain ⟨l1, l2, l3, l4, l5, l6, l7, l8, l9⟩ := HH.out.lts
      have hC := HH.out.cs
      have hcb := HH.out.cbs i hlt
      have hl4 := l4 i hlt
      have Fw : Fr (fun k => k = S ∨ k = M ∨ k = A ∨ k = ob) w wr := (F.mono (fun _ _ h => h.elim)).trans hL.fr
      have hltI : (i : Int) < n := by omega
      have c0 := Fw.cell (p := ⟨C, i * 2, none⟩) (by show ¬ (C = _ ∨ C = _ ∨ C = _ ∨ C = _); omega) (HH.out.cls.c0 i hlt)
      have c1 := Fw.cell (p := ⟨C, i * 2 + 1, none⟩) (by show ¬ (C = _ ∨ C = _ ∨ C = _ ∨ C = _); omega) (HH.out.cls.c1 i hlt)
      have hset : SetAt wr (cb i) [vs i] := (HH.out.cls.s i hlt).keep Fw (by omega)
      have q8 := hL.fr.cell (p := ⟨b8, 0, none⟩) (by show ¬ (b8 = _ ∨ b8 = _ ∨ b8 = _ ∨ b8 = _); omega) e8
      have q3 := hL.fr.cell (p := ⟨b3, 0, none⟩) (by show ¬ (b3 = _ ∨ b3 = _ ∨ b3 = _ ∨ b3 = _); omega) e3
      have q8a : ∀ o, (wr.alloc o).cell? ⟨b8, 0, none⟩ = some (.slice (some ⟨A, 0, none⟩) n n) := fun o => ((Fr.refl (fun _ => False) wr).alloc o).cell (fun h => h) q8
      have q3a : ∀ o, (wr.alloc o).cell? ⟨b3, 0, none⟩ = some (.pointer (some ⟨S, 0, none⟩)) := fun o => ((Fr.refl (fun _ => False) wr).alloc o).cell (fun h => h) q3
      have hw10 := hL.fr.size
      have hl8 : ∀ o, L1 w10 (wr.alloc o).drew S R nr cr ru M m n vs A ob i i cn f ab := fun o => hL.new ((Fr.refl (fun _ => False) wr).alloc o).drew (by omega)
      have hs8 : ∀ o, SetAt (wr.alloc o).drew (cb i) [vs i] := fun o => hset.keep ((Fr.refl (fun _ => False) wr).alloc o).drew (fun h => h)
      have hca : Hid (∀ o, Calls Ybad.prog 8 #[.pointer (some ⟨S, 0, none⟩), setV (cb i) 1] (wr.alloc o).drew fun e w' => ∃ b n' f', e = .returned (setV b m) ∧ n' ≤ cn + 1 ∧ w10.heap.size ≤ b ∧ SetAt w' b (appW m ru (vs i) nr) ∧ L1 w10 w' S R nr cr ru M m n vs A ob i i n' f' ab ∧ (∃ x, w'.cell? ⟨A, i, none⟩ = some x) ∧ w'.frozen? ⟨A, i, none⟩ = false ∧ w'.cell? ⟨b8, 0, none⟩ = some (.slice (some ⟨A, 0, none⟩) n n)) := fun o => by
        refine (appl_any S R nr cr ru M cn m w10.heap.size (cb i) f (vs i) _ (hl8 o).srch (HH.out.fast (by omega)) (HH.out.vs i hlt) (hs8 o) (by omega) (by omega) hnr HM.out (by omega)).mono fun e w' ⟨b, n', f', he, hn', hsr, hsb, hbb, hcs, hfr⟩ => ?_
        have hL' := (hl8 o).call hsr hfr hcs (by omega) (by omega) (by omega) (by omega)
        obtain ⟨cs, g1, g2, g3⟩ := hL'.row
        refine ⟨b, n', f', he, hn', hbb, hsb, hL', ⟨cs[i]'(by omega), ?_⟩, free_of_block g1 i, ?_⟩
        · rw [cells_of_block g1]; simp
        · exact hL'.fr.cell (p := ⟨b8, 0, none⟩) (by show ¬ (b8 = _ ∨ b8 = _ ∨ b8 = _ ∨ b8 = _); omega) e8
      have hpost : Hid (∀ w5 b n' f', w10.heap.size ≤ b → SetAt w5 b (appW m ru (vs i) nr) → L1 w10 w5 S R nr cr ru M m n vs A ob i i n' f' ab → w5.cell? ⟨b8, 0, none⟩ = some (.slice (some ⟨A, 0, none⟩) n n) → (∃ x, w5.cell? ⟨A, i, none⟩ = some x) →
          (w5.setCell ⟨A, i, none⟩ (setV b m)).cell? ⟨b8, 0, none⟩ = some (.slice (some ⟨A, 0, none⟩) n n) ∧ (w5.setCell ⟨A, i, none⟩ (setV b m)).cell? ⟨A, i, none⟩ = some (setV b m) ∧
          Calls Ybad.prog 9 #[setV ob m, setV b m] (w5.setCell ⟨A, i, none⟩ (setV b m)) fun e w7 => e = .returned (.tuple #[]) ∧ ∃ ab', L1 w10 w7 S R nr cr ru M m n vs A ob (i + 1) (i + 1) n' f' ab') := fun w5 b n' f' hbb hsb hL5 h85 ⟨x, hx⟩ => by
        have hput := hL5.put hsb hbb hlt (by omega) (by omega) (by omega) (by omega) (fun k hk => by have := l3 k hk; omega)
        refine ⟨?_, World.cell?_setCell_same _ _ _ hx, ?_⟩
        · rw [World.cell?_setCell_other _ _ _ _ (by intro e; have := congrArg Addr.block e; simp at this; omega)]; exact h85
        · have hin := include_any ob b (orAcc m ru vs nr i) (appW m ru (vs i) nr) (w5.setCell ⟨A, i, none⟩ (setV b m)) hput.some' (by have := (hput.sets i (by omega)).1; simpa using this) (by rw [orAcc_len, appW_len]; omega) (by rw [appW_len, HM.out]; omega) (by omega)
          rw [orAcc_len, appW_len] at hin
          refine hin.mono fun e w7 ⟨he, hso, hf7⟩ => ⟨he, _, hput.incl (by simpa [orAcc] using hso) hf7 (by omega) (by omega) (by omega) (fun k hk => by have := l3 k hk; omega)⟩
      unfold setV at c0 hca hpost
      clear hl8 hs8 hset q8 q3 hL Fw hC hcb hl4
      generalize cb i = ci at *
      clear l3 l4 z1 z2 z3 z4 z5 z6 z7 z8 z9 z10 z11 l1 l2 l5 l6 l7 l8 l9 hw10
      go_wp2
      go_region_with (go_at_call 8; go_must (refine (hca.out _).mono ?_; rintro e w5 ⟨b, n', f', he, hn', hbb, hsb, hL5, ⟨x5, hx5⟩, hfz5, h85⟩; rw [he]; clear he e; obtain ⟨p8, pA, hinc⟩ := hpost.out w5 b n' f' hbb hsb hL5 h85 ⟨x5, hx5⟩))
      all_goals go_wp2_with (go_at_call 9; go_must (refine hinc.mono ?_; rintro e w7 ⟨he, ab', hL7⟩; rw [he]; clear he e))
      all_goals go_roundw
      all_goals first | exact ⟨i + 1, n', f', ab', by omega, by go_num, by omega, hL7⟩ | (simp [intOf]; omega)
    · obtain rfl : n = i := by omega
      have hltI : ¬ (n : Int) < n := by omega
      have hal := fun w => all_any ob m w
      unfold setV at hal
      go_wp2_with (go_at_call 10; go_must (refine (hal _).mono ?_; rintro e w11 ⟨he, hw11⟩; rw [he]; clear he e))
      clear hw11 w11
      have HB : Hid (Fr (fun _ => False) wr (wr.alloc (.cells #[.slice (some ⟨ob, 0, none⟩) m m] 29))) := (Fr.refl _ wr).alloc _
      have hBx : (wr.alloc (.cells #[.slice (some ⟨ob, 0, none⟩) m m] 29)).cell? ⟨wr.heap.size, 0, none⟩ = some (.slice (some ⟨ob, 0, none⟩) m m) := cells_of_block (heap_alloc_new wr _) 0
      have hzB : (wr.alloc (.cells #[.slice (some ⟨ob, 0, none⟩) m m] 29)).heap.size = wr.heap.size + 1 := by simp
      generalize hwB : wr.alloc (.cells #[.slice (some ⟨ob, 0, none⟩) m m] 29) = wB at *
      generalize eBx : wr.heap.size = Bx at *
      obtain ⟨hE, hOk, hI0, hsome, htab, hFw⟩ := env_start HH.out F hL HB.out e3 e4 e5 e6 e7 e8 HS10.out HH10.out hnr hn HM.out hst Z.out
      obtain ⟨us, hus1, hus2, hus3, hus4⟩ := orAcc_bits m nr ru vs (by have := HM.out; omega) n
      rw [hus1] at hsome
      have hlts := HH.out.lts
      have hzw := hFw.size
      have hzL := hL.fr.size
      obtain ⟨hN, eN⟩ : ∃ N, N = nums S R nr cr m C n A hbk (heldW (fix0 fx) vs n) b3 b4 b5 b6 b7 b8 sb Bs Bb Bg Bc Bt stop := ⟨_, rfl⟩
      rw [← eN] at hE hOk hI0
      refine (wpIn_wide (n := 8)).1 ?_
      refine wpIn_rangeFunc_ownF rfl (by omega) (gf := 16) (lb := #[.pointer (some ⟨Bx, 0, none⟩)]) rfl trivial (enters_of Ybad.func16 (by kernel_rfl) rfl)
        (all_stops (8 - 1) (by omega) nr Bx ob us hus3 (by rw [hus2, HM.out]; omega) ?hbit wB (by omega) htab (by rw [hus2]; exact hBx) hsome) (fun h k => h.trans k) ?hKb (Below.refl _ _) (fun _ => rfl)
        (fun pre W => IP wB hN ru vs (pre.map (·.1)) W) (fun c pre W => c = Code.ret ∧ IX wB hN ru vs (pre.map (·.1)) W) (IP.own ?hg ?hc ?hs) (fun c => IX.own ?hg ?hc c) hI0
        (fun x => { tmps := #[.pointer (some ⟨S, 0, none⟩), .slice (some ⟨C, 0, none⟩) n n, .func (.func 4) #[] #[.pointer (some ⟨Bs, 0, none⟩), .pointer (some ⟨Bb, 0, none⟩), .pointer (some ⟨Bg, 0, none⟩), .pointer (some ⟨Bc, 0, none⟩), .pointer (some ⟨Bt, 0, none⟩)],
          .pointer (some ⟨b3, 0, none⟩), .pointer (some ⟨b4, 0, none⟩), .pointer (some ⟨b5, 0, none⟩), .pointer (some ⟨b6, 0, none⟩), .pointer (some ⟨b7, 0, none⟩), .pointer (some ⟨b8, 0, none⟩), .slice (some ⟨ob, 0, none⟩) m m, u10, u11, .int .i64 (x.1 : Nat), undef, undef, undef,
          .pointer (some ⟨S, 0, none⟩), .pointer (some ⟨S, 0, none⟩), .pointer (some ⟨S, 1, none⟩), .int .i64 1, .slice (some ⟨sb, 0, none⟩) 1 1, .pointer (some ⟨S, 0, none⟩), .slice (some ⟨C, 0, none⟩) n n, .slice (some ⟨hbk, 0, none⟩) 1 1, .slice (some ⟨C, 0, none⟩) n n, .int .i64 n,
          .slice (some ⟨A, 0, none⟩) n n, .pointer (some ⟨S, 0, none⟩), .pointer (some ⟨S, 0, none⟩), .pointer (some ⟨S, 2, none⟩), .slice ra nr rc, .int .i64 nr, .slice (some ⟨ob, 0, none⟩) m m, .slice (some ⟨C, 0, none⟩) n n, .int .i64 n, .int .i64 n,
          .bool false, u37, u38, u39, u40, u41, u42, u43, u44, u45, u46, u47, u48, u49, u50, u51, u52, u53, .slice (some ⟨ob, 0, none⟩) m m, .func (.func 16) #[] #[.pointer (some ⟨Bx, 0, none⟩)], .int .i64 (x.1 : Nat),
          undef, undef, undef, undef, undef, undef, undef, undef, undef, undef, undef, undef, undef, undef, undef, undef, undef, undef, undef, undef, undef, undef, undef, undef, undef, undef, undef, undef, undef, undef, undef, undef, undef, undef, undef, undef, undef, undef, undef, undef, undef, undef], defers := [] }) ?assign ?body ?done ?stop
      case assign =>
        intro l x W K hK
        gi_wp2
        exact hK
      case hbit =>
        intro k hb
        by_cases h : k < 64 * m
        · rw [hus4 k h] at hb
          simp at hb
          exact hb.1
        · unfold bitAt at hb
          have : us.getD (k / 64) 0 = 0 := by
            simp only [List.getD]
            rw [List.getElem?_eq_none (by omega)]
            rfl
          rw [this] at hb
          simp at hb
      case hKb =>
        intro W l o o' hl h _ _ k hk
        refine World.putObj_heap_other ?_
        simp at hk
        have := hsome.lt
        rcases hk with rfl | rfl | rfl <;> omega
      case hg => subst eN; show Bg < _; omega
      case hc => subst eN; show Bc < _; omega
      case hs => subst eN; have := Z.out; show sb < _; omega
      case body =>
        subst eN
        rintro l pre ⟨k, hk⟩ W ⟨hgot, hset, hfr, hun⟩ hlen
        have hEW := hE.keep hOk hfr
        obtain ⟨rfl, rfl⟩ := hra (by omega)
        have q3 : W.cell? ⟨b3, 0, none⟩ = some (.pointer (some ⟨S, 0, none⟩)) := hEW.c3
        have q2 : W.cell? ⟨S, 2, none⟩ = some (.slice (some ⟨R, 0, none⟩) nr rc) := by have := hEW.r2; rw [← hrv]; exact this
        have q7 : W.cell? ⟨b7, 0, none⟩ = some (.slice (some ⟨hbk, 0, none⟩) 1 1) := hEW.c7
        have qa : W.cell? ⟨R, k * 5 + 1, none⟩ = some (.int .i64 (ru k).adm) := (hEW.rule k hk).c1
        have hheld : SetAt W hbk [heldW (fix0 fx) vs n] := hEW.held
        have hadm := (hOk.adm k hk).1
        have hkI : (k : Int) < nr := by omega
        have hhas : ∀ W', SetAt W' hbk [heldW (fix0 fx) vs n] → Calls Ybad.prog 11 #[.slice (some ⟨hbk, 0, none⟩) 1 1, .int .i64 (ru k).adm] W' fun e w' => e = .returned (.bool (hasI (heldW (fix0 fx) vs n) (ru k).adm)) ∧ ∃ j, w' = W'.drewN j := fun W' h => by
          have := has_any hbk [heldW (fix0 fx) vs n] (ru k).adm W' h (by simp; omega) (by simp)
          rw [show (ru k).adm / 64 = 0 by omega] at this
          exact this
        have hfl : ruleSteps ru vs n (heldW (fix0 fx) vs n) k = if hasI (heldW (fix0 fx) vs n) (ru k).adm then rowSteps (ru k) k vs n else [] := rfl
        have HHAS : Hid _ := hhas
        have HFL : Hid _ := hfl
        have HHELD : Hid (SetAt W hbk [heldW (fix0 fx) vs n]) := hheld
        have HHEW : Hid _ := hEW
        have HPRE : Hid _ := hlen
        have hkps : Hid (∀ W', Fr (Out Bg Bc sb) wB W' → Kps [1, Bx, ob] W W') := fun W' hf' q hq => by
          have hz := Z.out
          have ht := HH.out.tx
          have ho := hsome.lt
          have hqn : q < wB.heap.size ∧ ¬ Out Bg Bc sb q := by
            simp at hq
            rcases hq with rfl | rfl | rfl
            · exact ⟨by omega, by rintro (e | e | e); exact ht.2.2.1 e; exact ht.2.2.2 e; omega⟩
            · exact ⟨by omega, by rintro (e | e | e) <;> omega⟩
            · exact ⟨by omega, by rintro (e | e | e) <;> omega⟩
          exact (hf'.block q hqn.1 hqn.2).trans (hfr.block q hqn.1 hqn.2).symm
        have hmap : Hid ((pre ++ [(⟨k, hk⟩ : { k : Nat // k < nr })]).map (·.1) = pre.map (·.1) ++ [k]) := by
          have : (pre ++ [(⟨k, hk⟩ : { k : Nat // k < nr })]).map (·.1) = pre.map (·.1) ++ [k] := by simp
          exact this
        have hmx : Ybad.prog.follows .mixedOrders = true := by kernel_rfl
        clear hhas hfl hheld
        cases hb : hasI (heldW (fix0 fx) vs n) (ru k).adm with
        | false =>
          rw [hb] at HHAS HFL
          have hend : Hid (∀ W', Fr (fun _ => False) W W' → KeepsOthers W W' ∧ Kps [1, Bx, ob] W W' ∧ IP wB (nums S R nr rc m C n A hbk (heldW (fix0 fx) vs n) b3 b4 b5 b6 b7 b8 sb Bs Bb Bg Bc Bt stop) ru vs ((pre ++ [(⟨k, hk⟩ : { k : Nat // k < nr })]).map (·.1)) W') := fun W' hf' => by
            have hff : Fr (Out Bg Bc sb) wB W' := hfr.trans (hf'.mono (fun _ _ h => h.elim))
            have e : flat ru vs n (heldW (fix0 fx) vs n) ((pre ++ [(⟨k, hk⟩ : { k : Nat // k < nr })]).map (·.1)) = flat ru vs n (heldW (fix0 fx) vs n) (pre.map (·.1)) := by
              rw [hmap.out, flat_snoc, HFL.out]; simp
            obtain ⟨x, hx⟩ := hset
            refine ⟨hf'.others (fun _ h => h.elim), hkps.out W' hff, ?_, ⟨x, hx.keep hf' (fun h => h)⟩, hff, ?_⟩
            · show GotAt W' _ _ _ (flat ru vs n (heldW (fix0 fx) vs n) _)
              rw [e]
              exact hgot.keep hf' (fun h => h) (fun h => h) (fun _ _ h => h)
            · show Unhit stop (flat ru vs n (heldW (fix0 fx) vs n) _)
              rw [e]
              exact hun
          have HG : Hid _ := hgot
          clear hgot hset hfr hun hb hlen
          gi_wp2
          gi_region_with_o (refine ⟨trivial, ?_⟩; gi_at_call 11; refine (CallsIn.inRound l (callsIn_wide.2 (HHAS.out _ ?_))).mono ?_; exact HHELD.out; rintro e w' ⟨he, j, hw⟩; rw [he, hw]; clear he hw e w')
          all_goals revert j
          refine ?keyfalse
          all_goals first | exact ?keyfalse | skip
          intro j
          gi_wp2
          all_goals exact hend.out _ ((Fr.refl _ W).drewN _)
        | true =>
          rw [hb] at HHAS HFL
          have q4 : W.cell? ⟨b4, 0, none⟩ = some (.slice (some ⟨C, 0, none⟩) n n) := hEW.c4
          have hIn : Hid (In2 wB W W (nums S R nr rc m C n A hbk (heldW (fix0 fx) vs n) b3 b4 b5 b6 b7 b8 sb Bs Bb Bg Bc Bt stop) (flat ru vs n (heldW (fix0 fx) vs n) (pre.map (·.1)))) := ⟨hgot, hset, hfr, KeepsOthers.refl W⟩
          have hpl : (flat ru vs n (heldW (fix0 fx) vs n) (pre.map (·.1))).length ≤ 255 * 256 := by
            refine Nat.le_trans (flat_len _ _ _ _ _) ?_
            rw [List.length_map]
            have := HM.out
            exact Nat.mul_le_mul (by omega) hn
          have hflat : Hid (flat ru vs n (heldW (fix0 fx) vs n) ((pre ++ [(⟨k, hk⟩ : { k : Nat // k < nr })]).map (·.1)) = flat ru vs n (heldW (fix0 fx) vs n) (pre.map (·.1)) ++ rowSteps (ru k) k vs n) := by
            have : flat ru vs n (heldW (fix0 fx) vs n) ((pre ++ [(⟨k, hk⟩ : { k : Nat // k < nr })]).map (·.1)) = flat ru vs n (heldW (fix0 fx) vs n) (pre.map (·.1)) ++ rowSteps (ru k) k vs n := by
              rw [hmap.out, flat_snoc, HFL.out]; simp
            exact this
          have HE : Hid _ := hE
          have HOK : Hid _ := hOk
          have HUN : Hid (Unhit stop (flat ru vs n (heldW (fix0 fx) vs n) (pre.map (·.1)))) := hun
          have HB3 : Hid (Bg < wB.heap.size ∧ Bc < wB.heap.size ∧ sb < wB.heap.size) := by have := Z.out; exact ⟨by omega, by omega, by omega⟩
          clear hgot hset hfr hun hb hlen hEW hE hOk
          generalize hF : flat ru vs n (heldW (fix0 fx) vs n) (pre.map (·.1)) = F0 at *
          gi_wp2
          gi_region_with_o (refine ⟨trivial, ?_⟩; gi_at_call 11; refine (CallsIn.inRound l (callsIn_wide.2 (HHAS.out _ ?_))).mono ?_; exact HHELD.out; rintro e w' ⟨he, j, hw⟩; rw [he, hw]; clear he hw e w')
          all_goals revert j
          refine ?keytrue
          all_goals first | exact ?keytrue | skip
          intro j
          gi_wp2
          obtain ⟨wo, hwo⟩ : ∃ x, x = W := ⟨_, rfl⟩; subst hwo
          gi_loopw [72] (fun t wq => ∃ i : Nat, i ≤ n ∧ t = .int .i64 i ∧ In2 wB wo wq (nums S R nr rc m C n A hbk (heldW (fix0 fx) vs n) b3 b4 b5 b6 b7 b8 sb Bs Bb Bg Bc Bt stop) (F0 ++ rowSteps (ru k) k vs i) ∧ Unhit stop (F0 ++ rowSteps (ru k) k vs i)) (fun t _ => n - (intOf t).toNat)
          case atStart => exact ⟨0, Nat.zero_le _, rfl, by simpa [rowSteps] using hIn.out.new ((Fr.refl _ wo).drewN _), by simpa [rowSteps] using HUN.out⟩
          case round =>
            obtain ⟨i, hi, rfl, hI2, hun⟩ := hrel
            by_cases hlt : i < n
            · have hltI : (i : Int) < n := by omega
              have hEq := HE.out.keep HOK.out hI2.fr
              have hEa : ∀ o, Env (wr.alloc o) (nums S R nr rc m C n A hbk (heldW (fix0 fx) vs n) b3 b4 b5 b6 b7 b8 sb Bs Bb Bg Bc Bt stop) ru cb vs ab := fun o => hEq.keep HOK.out (((Fr.refl (fun _ => False) wr).alloc o).mono (fun _ _ h => h.elim))
              have c0 : wr.cell? ⟨C, i * 2, none⟩ = some (.slice (some ⟨cb i, 0, none⟩) 1 1) := hEq.cls.c0 i hlt
              have c1 : wr.cell? ⟨C, i * 2 + 1, none⟩ = some (.int .i64 1) := hEq.cls.c1 i hlt
              have a8 : ∀ o, (wr.alloc o).cell? ⟨b8, 0, none⟩ = some (.slice (some ⟨A, 0, none⟩) n n) := fun o => (hEa o).c8
              have aA : ∀ o, (wr.alloc o).cell? ⟨A, i, none⟩ = some (.slice (some ⟨ab i, 0, none⟩) m m) := fun o => (hEa o).row i hlt
              have a6 : ∀ o, (wr.alloc o).cell? ⟨b6, 0, none⟩ = some (.slice (some ⟨sb, 0, none⟩) 1 1) := fun o => (hEa o).c6
              have hha : Hid (∀ o, Calls Ybad.prog 11 #[.slice (some ⟨ab i, 0, none⟩) m m, .int .i64 k] (wr.alloc o) fun e w' => e = .returned (.bool (okR (ru k) (vs i))) ∧ ∃ j, w' = (wr.alloc o).drewN j) := fun o => has_app (hEa o) HOK.out hk hlt
              have hrl := rowSteps_len (ru k) k vs i
              have hLl : (F0 ++ rowSteps (ru k) k vs i).length ≤ 65536 := by rw [List.length_append]; omega
              have HRS : Hid (rowSteps (ru k) k vs (i + 1) = rowSteps (ru k) k vs i ++ (if okR (ru k) (vs i) then [(k, i, nxI (ru k).rv (ru k).role (vs i))] else [])) := rfl
              have happ : Hid (okR (ru k) (vs i) = true → ∀ o j, Calls Ybad.prog 12 #[.pointer (some ⟨R, k * 5, none⟩), .slice (some ⟨sb, 0, none⟩) 1 1, .slice (some ⟨cb i, 0, none⟩) 1 1] ((wr.alloc o).drewN j) fun e w' => e = .returned (.bool true) ∧ w'.cell? ⟨b5, 0, none⟩ = some (.func (.func 4) #[] #[.pointer (some ⟨Bs, 0, none⟩), .pointer (some ⟨Bb, 0, none⟩), .pointer (some ⟨Bg, 0, none⟩), .pointer (some ⟨Bc, 0, none⟩), .pointer (some ⟨Bt, 0, none⟩)]) ∧
                  w'.cell? ⟨b6, 0, none⟩ = some (.slice (some ⟨sb, 0, none⟩) 1 1) ∧
                  Calls Ybad.prog 4 #[.pointer (some ⟨R, k * 5, none⟩), .int .i64 i, .slice (some ⟨sb, 0, none⟩) 1 1, .pointer (some ⟨Bs, 0, none⟩), .pointer (some ⟨Bb, 0, none⟩), .pointer (some ⟨Bg, 0, none⟩), .pointer (some ⟨Bc, 0, none⟩), .pointer (some ⟨Bt, 0, none⟩)] w' fun e w'' =>
                    e = .returned (.bool (decide (¬ (F0 ++ rowSteps (ru k) k vs i).length + 1 = stop))) ∧ In2 wB wo w'' (nums S R nr rc m C n A hbk (heldW (fix0 fx) vs n) b3 b4 b5 b6 b7 b8 sb Bs Bb Bg Bc Bt stop) (F0 ++ rowSteps (ru k) k vs i ++ [(k, i, nxI (ru k).rv (ru k).role (vs i))])) := fun hok o j => round_step HE.out HOK.out hk hlt (hI2.alloc o j) hLl HB3.out.1 HB3.out.2.1 HB3.out.2.2 hok
              have HI2 : Hid (∀ o j, In2 wB wo ((wr.alloc o).drewN j) (nums S R nr rc m C n A hbk (heldW (fix0 fx) vs n) b3 b4 b5 b6 b7 b8 sb Bs Bb Bg Bc Bt stop) (F0 ++ rowSteps (ru k) k vs i)) := fun o j => hI2.alloc o j
              clear hEa hEq
              generalize ab i = ai at *
              generalize cb i = ci at *
              cases hok : okR (ru k) (vs i) with
              | false =>
                rw [hok] at hha HRS
                clear happ hI2 hok
                gi_wp2_with (refine ⟨trivial, ?_⟩; gi_at_call 11; refine (CallsIn.inRound l (callsIn_wide.2 (hha.out _))).mono ?_; rintro e w' ⟨he, j', hw⟩; rw [he, hw]; clear he hw e w')
                refine ⟨trivial, ?_⟩
                gi_wp2
                refine ⟨fun _ h => (by cases h), ?_⟩
                gi_wp2
                refine ⟨⟨i + 1, by omega, by go_num, ?_, ?_⟩, by simp [intOf]; omega⟩
                · rw [HRS.out]
                  simpa using HI2.out _ _
                · rw [HRS.out]
                  simpa using hun
              | true =>
                rw [hok] at hha HRS
                have happ := happ.out hok
                by_cases hstop : (F0 ++ rowSteps (ru k) k vs i).length + 1 = stop
                · simp only [hstop, not_true, decide_false] at happ
                  have HAP : Hid _ := happ
                  clear happ hI2 hok
                  gi_wp2_with (first
                    | (refine ⟨trivial, ?_⟩; gi_at_call 11; refine (CallsIn.inRound l (callsIn_wide.2 (hha.out _))).mono ?_; rintro e w' ⟨he, j', hw⟩; rw [he, hw]; clear he hw e w')
                    | (refine ⟨trivial, ?_⟩; gi_at_call 12; refine (CallsIn.inRound l (callsIn_wide.2 (HAP.out _ _))).mono ?_; rintro e w2 ⟨he, p5, p6, hvis⟩; rw [he]; clear he e; have HV : Hid _ := hvis; clear hvis)
                    | (refine ⟨trivial, ?_⟩; gi_at_call 4; refine (CallsIn.inRound l (callsIn_wide.2 HV.out)).mono ?_; rintro e w3 ⟨he, hI3⟩; rw [he]; clear he e))
                  refine ⟨hI3.ko, rfl, _, hI3.got, hI3.fr, ?_, ?_, ?_⟩
                  · show _ <+: flat ru vs n (heldW (fix0 fx) vs n) _
                    rw [hflat.out, List.append_assoc]
                    refine (List.prefix_append_right_inj _).2 ?_
                    have h1 := rowSteps_prefix (ru k) k vs (i + 1) (n - (i + 1))
                    rw [HRS.out, show i + 1 + (n - (i + 1)) = n by omega] at h1
                    simpa using h1
                  · show _ = stop
                    rw [List.length_append]
                    exact hstop
                  · show 0 < stop
                    omega
                · simp only [hstop, not_false_iff, decide_true] at happ
                  have HAP : Hid _ := happ
                  clear happ hI2 hok
                  gi_wp2_with (first
                    | (refine ⟨trivial, ?_⟩; gi_at_call 11; refine (CallsIn.inRound l (callsIn_wide.2 (hha.out _))).mono ?_; rintro e w' ⟨he, j', hw⟩; rw [he, hw]; clear he hw e w')
                    | (refine ⟨trivial, ?_⟩; gi_at_call 12; refine (CallsIn.inRound l (callsIn_wide.2 (HAP.out _ _))).mono ?_; rintro e w2 ⟨he, p5, p6, hvis⟩; rw [he]; clear he e; have HV : Hid _ := hvis; clear hvis)
                    | (refine ⟨trivial, ?_⟩; gi_at_call 4; refine (CallsIn.inRound l (callsIn_wide.2 HV.out)).mono ?_; rintro e w3 ⟨he, hI3⟩; rw [he]; clear he e))
                  refine ⟨⟨i + 1, by omega, by go_num, ?_, ?_⟩, by simp [intOf]; omega⟩
                  · rw [HRS.out]
                    simpa using hI3
                  · rw [HRS.out]
                    rcases hun with h | h
                    · exact .inl h
                    · refine .inr ?_
                      simp at h hstop ⊢
                      omega
            · obtain rfl : n = i := by omega
              have hltI : ¬ (n : Int) < n := by omega
              have hend : Hid (KeepsOthers wo wr ∧ Kps [1, Bx, ob] wo wr ∧ IP wB (nums S R nr rc m C n A hbk (heldW (fix0 fx) vs n) b3 b4 b5 b6 b7 b8 sb Bs Bb Bg Bc Bt stop) ru vs ((pre ++ [(⟨k, hk⟩ : { k : Nat // k < nr })]).map (·.1)) wr) := by
                refine ⟨hI2.ko, hkps.out wr hI2.fr, ?_, hI2.set, hI2.fr, ?_⟩
                · show GotAt wr _ _ _ (flat ru vs n (heldW (fix0 fx) vs n) _)
                  rw [hflat.out]
                  exact hI2.got
                · show Unhit stop (flat ru vs n (heldW (fix0 fx) vs n) _)
                  rw [hflat.out]
                  exact hun
              clear hI2 hun
              gi_wp2
              exact hend.out
      case done =>
        subst eN
        rintro D ys W hD hys ⟨hgot, hset, hfr, hun⟩ hK
        have hfl := flat_bits ru vs n nr m (heldW (fix0 fx) vs n) us (by have := HM.out; omega) hus4
        have hfin := ch_end (o' := .deferred none) (S := S) (M := M) (stop := stop) (All := flat ru vs n (heldW (fix0 fx) vs n) (List.range nr)) hFw hgot hfr hD hK rfl (by show Bg < _; omega) (by show Bc < _; omega) (by have := Z.out; show _ ≤ sb; omega) (.inl ⟨by show flat ru vs n (heldW (fix0 fx) vs n) _ = _; rw [hys, hus2, hfl], hun⟩)
        gi_wp2
        refine ⟨by simp, .inl ⟨_, _, rfl, run_takeDeferred hK, ?_⟩⟩
        exact ⟨_, results_none rfl _ _ _, rfl, hfin⟩
      case stop =>
        subst eN
        rintro D c pre W hD hpre ⟨rfl, L, hgot, hfr, hpx, hlen, h0⟩ hK
        have hfl := flat_bits ru vs n nr m (heldW (fix0 fx) vs n) us (by have := HM.out; omega) hus4
        rw [hus2] at hpre
        have hfin := ch_end (o' := .deferred none) (S := S) (M := M) (stop := stop) (All := flat ru vs n (heldW (fix0 fx) vs n) (List.range nr)) hFw hgot hfr hD hK rfl (by show Bg < _; omega) (by show Bc < _; omega) (by have := Z.out; show _ ≤ sb; omega) (.inr ⟨by rw [← hfl]; exact hpx.trans (flat_prefix _ _ _ _ hpre), hlen, h0⟩)
        gi_wp2
        refine ⟨by simp, .inl ⟨_, _, rfl, run_takeDeferred hK, ?_⟩⟩
        exact ⟨_, results_none rfl _ _ _, rfl, hfin⟩
end Go.Proofs.YbulkdbsgDoor
