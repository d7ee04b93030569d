/-
  THE WALK of LawS5171AModel.
-/
import Derived.Test.YbulkdcbkParts
namespace Go.Proofs.Ybulkdcbk
open Go.RowKit
set_option linter.unusedVariables false
attribute [local go_sem] make7 make4 make4i neq25

def IsRow (k : IntKind) (w : World) (a : Option Addr) (len cap : Nat) (zs : List Int) : Prop :=
  (a = none ∧ len = 0 ∧ cap = 0 ∧ zs = []) ∨
  ∃ x, a = some x ∧ len ≤ cap ∧ cap ≤ maxLen ∧ zs.length = cap ∧ (∀ i, i < zs.length → w.cell? (x.add i) = some (.int k (zs.getD i 0))) ∧ ∀ n ∈ zs, (Lit.int k n).wf = true

theorem row_view {k : IntKind} {w : World} {a : Option Addr} {len cap : Nat} {zs : List Int} (h : IsRow k w a len cap zs) :
    len ≤ cap ∧ len ≤ zs.length ∧ ∃ x : Addr, (0 < len → a = some x) ∧ (∀ i, i < len → w.cell? (x.add i) = some (.int k (zs.getD i 0))) ∧ (∀ i, i < len → (Lit.int k (zs.getD i 0)).wf = true) := by
  rcases h with ⟨rfl, rfl, rfl, rfl⟩ | ⟨x, rfl, hle, hmx, hzl, hcell, hwf⟩
  · exact ⟨Nat.le_refl _, by simp, ⟨0, 0, none⟩, fun h => by omega, fun i h => by omega, fun i h => by omega⟩
  · refine ⟨hle, by omega, x, fun _ => rfl, fun i hi => hcell i (by omega), fun i hi => hwf _ ?_⟩
    rw [List.getD_eq_getElem?_getD, List.getElem?_eq_getElem (by omega)]
    simp

/-- The obligations that came in: at x, four cells each. -/
def ObsAt (w : World) (xb xo : Nat) (len : Nat) (oK oB : Nat → Int) (oS : Nat → Bool) (oT : Nat → Int) : Prop :=
  ∀ j, j < len → w.cell? ⟨xb, xo + j * 4, none⟩ = some (.int .u8 (oK j)) ∧ w.cell? ⟨xb, xo + j * 4 + 1, none⟩ = some (.int .i64 (oB j)) ∧ w.cell? ⟨xb, xo + j * 4 + 2, none⟩ = some (.bool (oS j)) ∧ w.cell? ⟨xb, xo + j * 4 + 3, none⟩ = some (.int .u8 (oT j)) ∧
    (Lit.int .u8 (oK j)).wf = true ∧ (Lit.int .i64 (oB j)).wf = true ∧ (Lit.int .u8 (oT j)).wf = true

set_option maxRecDepth 100000 in
set_option maxHeartbeats 40000000 in
theorem walk_short (a0 a1 : Option Addr) (len0 cap0 len1 cap1 : Nat) (v n : Int) (w : World) (zs : List Int) (h0 : IsRow .u8 w a0 len0 cap0 zs) (xb xo : Nat) (oK oB : Nat → Int) (oS : Nat → Bool) (oT : Nat → Int)
    (h1 : 0 < len1 → a1 = some ⟨xb, xo, none⟩) (ho : ObsAt w xb xo len1 oK oB oS oT) (hv : 0 ≤ v ∧ v ≤ 255) (hlen : len1 ≤ 1024) :
    Calls Yba.prog 3 #[.slice a0 len0 cap0, .slice a1 len1 cap1, .int .u8 v, .int .i64 n] w fun e w' => e = .returned (.bool true) ∧ Below w.heap.size w w' := by
  have hI : ¬ (1024 : Int) < len1 := by omega
  obtain ⟨_, _, x0, hx0, hz0, hzw⟩ := row_view h0
  have HZ : Hid _ := hz0
  have HW : Hid _ := hzw
  have HO : Hid (ObsAt w xb xo len1 oK oB oS oT) := ho
  obtain ⟨i40, hi40, hx40, hs40, hy40⟩ := info_parts info40
  clear h0 hz0 hzw ho
  obtain ⟨-, -, -, -, -, -, -, -, hbd, hvl, hsz⟩ := w10_at w ⟨#[102]⟩ ⟨#[]⟩ ⟨#[99]⟩
  have HT : Hid _ := w10_terms w ⟨#[102]⟩ ⟨#[]⟩ ⟨#[99]⟩
  have HF : Hid _ := w10_fr w ⟨#[102]⟩ ⟨#[]⟩ ⟨#[99]⟩
  have HBD : Hid _ := hbd
  have HVL : Hid _ := hvl
  have HSZ : Hid _ := hsz
  clear hbd hvl hsz
  go_enter Yba.func3, Yba.ntmps3
  go_wp2
  refine wp_loop_rounds 5 ?_
  rw [rounds_succ]; go_wp2
  rw [rounds_succ]; go_wp2
  rw [rounds_succ]; go_wp2
  rw [rounds_succ]; go_wp2
  rw [rounds_succ]; go_wp2
  obtain ⟨z, hz⟩ : ∃ z : Nat → Int, z = fun j => zs.getD j 0 := ⟨_, rfl⟩
  have HV : Hid _ := hz
  clear hz
  generalize hV : w.heap.size + 1 + 1 + 1 + 1 + 1 + 1 + 1 + 1 + 1 = V
  generalize hBd : w.heap.size + 1 + 1 + 1 + 1 + 1 + 1 + 1 + 1 = Bd
  go_loopw [13] (fun t wr => ∃ i : Nat, i ≤ 4 ∧ t = .int .i64 i ∧ (∀ j, j < 4 → wr.cell? ⟨Bd, j, none⟩ = some (if j < i then .int .i64 (Bf len0 z j) else .int .i64 0)) ∧ (∀ j, j < 4 → wr.cell? ⟨V, j, none⟩ = some (if j < i then vv (Bf len0 z) w.heap.size j else .pointer none)) ∧ (∀ j, wr.frozen? ⟨Bd, j, none⟩ = false) ∧ (∀ j, wr.frozen? ⟨V, j, none⟩ = false) ∧ Fr (fun b => b = Bd ∨ b = V) (w10 w ⟨#[102]⟩ ⟨#[]⟩ ⟨#[99]⟩) wr) (fun t _ => 4 - (intOf t).toNat)
  case atStart =>
    obtain rfl : V = w.heap.size + 9 := by omega
    obtain rfl : Bd = w.heap.size + 8 := by omega
    refine ⟨0, Nat.zero_le _, rfl, fun j hj => ?_, fun j hj => ?_, fun j => free_of_block HBD.out j, fun j => free_of_block HVL.out j, Fr.refl _ _⟩
    · refine (cells_of_block HBD.out j).trans ?_
      match j, hj with
      | 0, _ => rfl
      | 1, _ => rfl
      | 2, _ => rfl
      | 3, _ => rfl
    · refine (cells_of_block HVL.out j).trans ?_
      match j, hj with
      | 0, _ => rfl
      | 1, _ => rfl
      | 2, _ => rfl
      | 3, _ => rfl
  case round =>
    obtain ⟨i, hi, rfl, hbc, hvc, hbf, hvf, hfr⟩ := hrel
    by_cases h4 : i < 4
    · have hbi := hbc i h4
      have hvi := hvc i h4
      rw [if_neg (Nat.lt_irrefl _)] at hbi hvi
      have h4I : (i : Int) < 4 := by omega
      have HBC : Hid _ := hbc
      have HVC : Hid _ := hvc
      have HFZ : Hid _ := hbf
      have HVZ : Hid _ := hvf
      have hbfi := hbf i
      have hvfi := hvf i
      clear hbc hvc hbf hvf
      by_cases hl : i < len0
      · obtain rfl := hx0 (by omega)
        have hlI : (i : Int) < len0 := by omega
        have hcw := HZ.out i hl
        have hxb : x0.block < w.heap.size := by have := World.block_lt_of_cell? w _ hcw; rwa [addr_add_block] at this
        have hcz := hfr.cell (by rw [addr_add_block]; omega) (HF.out.cell (fun h => h) hcw)
        obtain ⟨b1, b2⟩ := bounds_u8 (HW.out i hl)
        have hzi : z i = zs.getD i 0 := by rw [HV.out]
        rw [← hzi] at hcz b1 b2
        have HZ0 : Hid (z i % 8 = 0 → Bf len0 z i = -1) := fun h => bf_zero h
        have HZ1 : Hid (¬ z i % 8 = 0 → Bf len0 z i = (i : Int) + 1 + (z i % 8 - 1) % (6 - (i : Int))) := fun h => bf_some hl h
        have hg := bf_good len0 z i h4
        clear hcw hzi
        generalize hbb : Bf len0 z i = bb at HZ0 HZ1 hg
        generalize z i = zi at HZ0 HZ1 hcz b1 b2
        have HBB : Hid _ := hbb
        clear hbb
        have hne : ¬ x0.block = Bd := by omega
        have hcz1 : ∀ v, (wr.setCell ⟨Bd, i, none⟩ v).cell? (x0.add i) = some (.int .u8 zi) := fun v => by rw [World.cell?_setCell_other _ _ _ _ (by intro e; have := congrArg Addr.block e; rw [addr_add_block] at this; exact hne this.symm)]; exact hcz
        by_cases h8 : (zi % 8 == 0) = true
        · have e8 : zi % 8 = 0 := by simpa using h8
          have e8b := HZ0.out e8
          clear HZ0 HZ1
          go_wp2
          go_roundw
          case rel => exact ⟨i + 1, by omega, by go_num, rows_next HBC.out h4 (by rw [HBB.out, e8b]), rows_skip (fun j hj => by rw [World.cell?_setCell_other _ _ _ _ (by intro e; cases e; omega)]; exact HVC.out j hj) (by rw [vv_none (by rw [HBB.out, e8b]; omega)]), fun j => by rw [World.frozen?_setCell]; exact HFZ.out j, fun j => by rw [World.frozen?_setCell]; exact HVZ.out j, hfr.setCell (.inl rfl) _⟩
          case measure => simp [intOf]; omega
        · have h8 : (zi % 8 == 0) = false := by simpa using h8
          have e8 : ¬ zi % 8 = 0 := by simpa using h8
          have e8b := HZ1.out e8
          clear HZ0 HZ1
          have z1 : 0 ≤ zi % 8 - 1 := by omega
          have z2 : zi % 8 - 1 ≤ 6 := by omega
          have z3 : (0 : Int) < 6 - (i : Int) := by omega
          obtain ⟨m, hm⟩ : ∃ m : Nat, (zi % 8 - 1) % (6 - (i : Int)) = (m : Int) := ⟨((zi % 8 - 1) % (6 - (i : Int))).toNat, by have := Int.emod_nonneg (zi % 8 - 1) (show (6 - (i : Int)) ≠ 0 by omega); omega⟩
          rw [hm] at e8b
          have hm6 : i + 1 + m < 7 := by rcases hg with h | h <;> omega
          have hp := ((HT.out.keep hfr (fun b hb h => by omega)).pool (i + 1 + m) hm6)
          unfold ptr at hp
          go_wp2
          go_roundw
          case rel =>
            refine ⟨i + 1, by omega, by go_num, fun j hj => ?_, ?_, fun j => by rw [World.frozen?_setCell, World.frozen?_setCell, World.frozen?_setCell]; exact HFZ.out j, fun j => by rw [World.frozen?_setCell, World.frozen?_setCell, World.frozen?_setCell]; exact HVZ.out j, ((hfr.setCell (.inl rfl) _).setCell (.inl rfl) _).setCell (.inr rfl) _⟩
            · rw [World.cell?_setCell_other _ _ _ _ (by intro e; cases e; omega)]
              exact rows_twice HBC.out h4 (by rw [HBB.out, e8b]) j hj
            · refine rows_next (fun j hj => ?_) h4 ?_
              · rw [World.cell?_setCell_other _ _ _ _ (by intro e; cases e; omega), World.cell?_setCell_other _ _ _ _ (by intro e; cases e; omega)]
                exact HVC.out j hj
              · rw [vv_some (by rw [HBB.out, e8b]; omega), HBB.out, e8b]
                unfold ptr
                congr 3
          case measure => simp [intOf]; omega
      · have hlI : ¬ (i : Int) < len0 := by omega
        go_wp2
        go_roundw
        case rel => exact ⟨i + 1, by omega, by go_num, rows_next HBC.out h4 (by rw [bf_none hl]), rows_skip (fun j hj => by rw [World.cell?_setCell_other _ _ _ _ (by intro e; cases e; omega)]; exact HVC.out j hj) (by rw [vv_none (by rw [bf_none hl]; omega)]), fun j => by rw [World.frozen?_setCell]; exact HFZ.out j, fun j => by rw [World.frozen?_setCell]; exact HVZ.out j, hfr.setCell (.inl rfl) _⟩
        case measure => simp [intOf]; omega
    · obtain rfl : i = 4 := by omega
      have hT4 : Hid _ := HT.out.keep hfr (fun b hb h => by omega)
      have hF4 : Hid _ := HF.out.transNew hfr (fun b hb h => by omega)
      have hs4 : Hid (w.heap.size + 10 ≤ wr.heap.size) := by have := hfr.size; rw [HSZ.out] at this; exact this
      have HBC : Hid (∀ j, j < 4 → wr.cell? ⟨Bd, j, none⟩ = some (.int .i64 (Bf len0 z j))) := fun j hj => by rw [hbc j hj, if_pos hj]
      have HVC : Hid (∀ j, j < 4 → wr.cell? ⟨V, j, none⟩ = some (vv (Bf len0 z) w.heap.size j)) := fun j hj => by rw [hvc j hj, if_pos hj]
      clear hbc hvc hbf hvf hfr HF HT HBD HVL HSZ hi h4
      obtain ⟨w4, hw4⟩ : ∃ x, x = wr := ⟨_, rfl⟩
      subst hw4
      go_wp2_with (at_make; go_must (refine wpList_make_full _ rfl _ _ 33 rfl 0 40 i40 _ 12 Yba.underlying33 hi40 hx40 hs40 .i64 .i64 _ _ len1 rfl rfl (by omega) (by omega) (by rw [hy40]; omega) (by unfold maxLen; omega) (by omega) ?_); intro w5 hown5 hgrow5)
      obtain ⟨cur0, hcur0, hcs0⟩ : ∃ cur, w5.heap[w4.heap.size]? = some (.cells cur 40 (0, 0)) ∧ cur.size = len1 * 12 := by
        rcases hown5.2 with ⟨e, _⟩ | ⟨g, cap, cur, e, _, hg, _, _, hcs, _⟩
        · cases e
        · cases e; exact ⟨cur, hg, hcs⟩
      have HF5 : Hid (Fr (fun b => b = w4.heap.size) w4 w5) := (Fr.refl _ _).grown hgrow5 (fun k h => by cases h)
      clear hown5 hgrow5
      generalize hO : w4.heap.size = O at hcur0 HF5
      go_loopw [17] (fun t wr => ∃ (i : Nat) (cur : Array Value), i ≤ len1 ∧ t = .int .i64 i ∧ wr.heap[O]? = some (.cells cur 40 (0, 0)) ∧ cur.size = len1 * 12 ∧ (∀ j, j < i → ∀ c, c < 12 → cur[j * 12 + c]? = (ocell w.heap.size (oK j % 6) (oB j) (oS j) (oT j % 7).toNat)[c]?) ∧ Fr (fun b => b = O) w4 wr) (fun t _ => len1 - (intOf t).toNat)
      case atStart => exact ⟨0, cur0, Nat.zero_le _, rfl, hcur0, hcs0, fun j hj => by omega, HF5.out⟩
      case round =>
        obtain ⟨i, cur, hi, rfl, hcur, hcs, hcd, hfr⟩ := hrel
        by_cases hlt : i < len1
        · obtain rfl := h1 (by omega)
          obtain ⟨o0, o1, o2, o3, ow0, ow1, ow2⟩ := HO.out i hlt
          have hxb : xb < w.heap.size := World.block_lt_of_cell? w _ o0
          have hne : ¬ xb = O := by have := hs4.out; omega
          have HK : Hid (Fr (fun b => b = O) w wr) := (hF4.out.mono (fun _ _ h => h.elim)).trans hfr
          have c0 := HK.out.cell hne o0
          have c1 := HK.out.cell hne o1
          have c2 := HK.out.cell hne o2
          have c3 := HK.out.cell hne o3
          obtain ⟨k1, k2⟩ := bounds_u8 ow0
          obtain ⟨t1, t2⟩ := bounds_u8 ow2
          have hltI : (i : Int) < len1 := by omega
          obtain ⟨tn, htn⟩ : ∃ tn : Nat, oT i % 7 = (tn : Int) := ⟨(oT i % 7).toNat, by omega⟩
          have htn7 : tn < 7 := by omega
          have hp := (hT4.out.keep hfr (fun b hb h => by have := hs4.out; omega)).pool tn htn7
          have hfz : ∀ c, wr.frozen? ⟨O, c, none⟩ = false := fun c => free_of_block hcur c
          have hcc : ∀ c, c < 12 → ∃ u, wr.cell? ⟨O, i * 12 + c, none⟩ = some u := fun c hc => by
            have hlt : i * 12 + c < cur.size := by rw [hcs]; omega
            exact ⟨cur[i * 12 + c], by rw [cells_of_block hcur]; exact Array.getElem?_eq_getElem hlt⟩
          obtain ⟨d0, e0⟩ := hcc 0 (by omega)
          obtain ⟨d1, e1⟩ := hcc 1 (by omega)
          obtain ⟨d2, e2⟩ := hcc 2 (by omega)
          obtain ⟨d3, e3⟩ := hcc 3 (by omega)
          obtain ⟨d4, e4⟩ := hcc 4 (by omega)
          obtain ⟨d5, e5⟩ := hcc 5 (by omega)
          obtain ⟨d6, e6⟩ := hcc 6 (by omega)
          obtain ⟨d7, e7⟩ := hcc 7 (by omega)
          obtain ⟨d8, e8⟩ := hcc 8 (by omega)
          obtain ⟨d9, e9⟩ := hcc 9 (by omega)
          obtain ⟨d10, e10⟩ := hcc 10 (by omega)
          obtain ⟨d11, e11⟩ := hcc 11 (by omega)
          rw [Nat.add_zero] at e0
          have HCD : Hid _ := hcd
          clear o0 o1 o2 o3 ow0 ow1 ow2 hcd hcc
          unfold ptr at hp
          go_wp2
          go_region
          go_wp2
          go_roundw
          case rel =>
            rw [chain12]
            have hfr' := setCells_fr (O := O) (P := fun b => b = O) rfl (ocell w.heap.size (oK i % 6) (oB i) (oS i) tn) (i * 12) wr hfr
            obtain ⟨cur', hc1, hc2, hc3, hc4⟩ := setCells_block (ocell w.heap.size (oK i % 6) (oB i) (oS i) tn) (i * 12) wr cur hcur (by rw [hcs]; show i * 12 + 12 ≤ len1 * 12; omega)
            generalize wr.setCells O (i * 12) (ocell w.heap.size (oK i % 6) (oB i) (oS i) tn) = wC at hc1 hfr' ⊢
            refine ⟨i + 1, cur', by omega, by go_num, hc1, by rw [hc2, hcs], fun j hj c hc => ?_, hfr'.drew⟩
            by_cases e : j = i
            · subst e
              rw [hc4 c hc, htn]
              simp only [Int.toNat_natCast]
            · rw [hc3 _ (by omega)]
              exact HCD.out j (by omega) c hc
          case measure => simp [intOf]; omega
        · obtain rfl : len1 = i := by omega
          obtain ⟨w6, hw6⟩ : ∃ x, x = wr := ⟨_, rfl⟩
          subst hw6
          obtain ⟨vn, hvn⟩ : ∃ vn : Nat, v % 7 = (vn : Int) := ⟨(v % 7).toNat, by omega⟩
          have hvn7 : vn < 7 := by omega
          have hv1 := hv.1
          have hv2 := hv.2
          have HW4 : Hid (∀ b, b < w.heap.size + 10 → ¬ b = O) := fun b hb => by have := hs4.out; omega
          have T6 := hT4.out.keep hfr (fun b hb => HW4.out b (by omega))
          have F6 : Hid (Fr (fun _ => False) w w6) := hF4.out.transNew hfr (fun b hb h => HW4.out b (by omega) h)
          have HB6 : Hid (∀ j, j < 4 → w6.cell? ⟨Bd, j, none⟩ = some (.int .i64 (Bf len0 z j))) := fun j hj => hfr.cell (HW4.out Bd (by omega)) (HBC.out j hj)
          have HV6 : Hid (∀ j, j < 4 → w6.cell? ⟨V, j, none⟩ = some (vv (Bf len0 z) w.heap.size j)) := fun j hj => hfr.cell (HW4.out V (by omega)) (HVC.out j hj)
          have HO6 : Hid (∀ j, j < len1 → ∀ c, c < 12 → w6.cell? ⟨O, j * 12 + c, none⟩ = (ocell w.heap.size (oK j % 6) (oB j) (oS j) (oT j % 7).toNat)[c]?) := fun j hj c hc => by rw [cells_of_block hcur]; exact hcd j hj c hc
          have hp := T6.pool vn hvn7
          have HT6 : Hid _ := T6
          have good := bf_good len0 z
          have HG : Hid _ := good
          generalize hB : Bf len0 z = B at HB6 HV6 HG
          clear hB good T6 hcd hcur hfr HBC HVC hT4 hF4 hs4 hi hlt hcs hcur0 HF5 hcs0 HZ HW
          unfold ptr at hp
          have E7 : Hid _ := env_of (O := O) (len := len1) HT6.out HG.out HV6.out
          have F7 : Hid (Fr (fun _ => False) w6 (w6.alloc (sobj V O len1))) := (Fr.refl _ _).alloc _
          have OM7 : Hid (OM (w6.alloc (sobj V O len1)) w.heap.size O len1 (fun j => oK j % 6) oB oS (fun j => (oT j % 7).toNat)) := fun j hj c hc => by
            have hlc : c < (ocell w.heap.size (oK j % 6) (oB j) (oS j) (oT j % 7).toNat).length := hc
            rw [List.getElem?_eq_getElem hlc]
            exact F7.out.cell (fun h => h) ((HO6.out j hj c hc).trans (List.getElem?_eq_getElem hlc))
          have S7 : Hid ((w6.alloc (sobj V O len1)).cell? ⟨w6.heap.size, 7, none⟩ = some (.slice (some ⟨O, 0, none⟩) len1 len1)) := cells_of_block (heap_alloc_new w6 (sobj V O len1)) 7
          have hsent := sent_any w.heap.size w6.heap.size V O B len1 len1 (fun j => oK j % 6) oB oS (fun j => (oT j % 7).toNat) vn n (w6.alloc (sobj V O len1)) E7.out hvn7 S7.out OM7.out (fun j hj => by have := bounds_u8 (HO.out j hj).2.2.2.2.2.2; omega) hlen
          obtain ⟨f, hf⟩ : ∃ f : Nat → Bool, f = fun j => (oK j % 6 == 3) && (oB j == n) && oS j && (root B (oT j % 7).toNat == root B vn) := ⟨_, rfl⟩
          rw [← hf] at hsent
          have HFF : Hid _ := hf
          clear hf
          unfold ptr sobj at hsent
          have hp7 : ∀ o, (w6.alloc o).cell? ⟨w.heap.size, vn, none⟩ = some (.pointer (some ⟨w.heap.size + 1 + vn, 0, none⟩)) := fun o => ((Fr.refl (fun _ => False) w6).alloc o).cell (fun h => h) hp
          go_wp2_with (first
            | (go_at_call 4; go_must (refine hsent.mono ?_; rintro e w8 ⟨he, hf8⟩; rw [he]; clear he e; have F8 : Hid (Fr (fun _ => False) w6 w8) := F7.out.trans hf8; have hrt := root_any Bd B vn w8 HG.out (fun j hj => F8.out.cell (fun h => h) (HB6.out j hj)) hvn7; have E8 : Hid _ := Env.keep E7.out hf8; have OM8 : Hid _ := OM7.out.keep hf8; have S8 : Hid _ := hf8.cell (fun h => h) S7.out; clear hf8 hsent E7 OM7 S7))
            | (go_at_call 5; go_must (refine hrt.mono ?_; rintro e w' ⟨he, hw⟩; rw [he, hw]; clear he hw e w')))
          clear hp7 hp
          have HX8 : Hid (∀ j, j < len1 → w8.cell? ⟨xb, xo + j * 4, none⟩ = some (.int .u8 (oK j)) ∧ w8.cell? ⟨xb, xo + j * 4 + 1, none⟩ = some (.int .i64 (oB j)) ∧ w8.cell? ⟨xb, xo + j * 4 + 2, none⟩ = some (.bool (oS j)) ∧ w8.cell? ⟨xb, xo + j * 4 + 3, none⟩ = some (.int .u8 (oT j)) ∧ 0 ≤ oK j ∧ oK j ≤ 255 ∧ 0 ≤ oT j ∧ oT j ≤ 255) := fun j hj => by
            obtain ⟨o0, o1, o2, o3, ow0, ow1, ow2⟩ := HO.out j hj
            have G := F6.out.trans F8.out
            obtain ⟨k1, k2⟩ := bounds_u8 ow0
            obtain ⟨t1, t2⟩ := bounds_u8 ow2
            exact ⟨G.cell (fun h => h) o0, G.cell (fun h => h) o1, G.cell (fun h => h) o2, G.cell (fun h => h) o3, k1, k2, t1, t2⟩
          have HB8 : Hid (∀ j, j < 4 → w8.cell? ⟨Bd, j, none⟩ = some (.int .i64 (B j))) := fun j hj => F8.out.cell (fun h => h) (HB6.out j hj)
          have HT8 : Hid _ := HT6.out.keep F8.out (fun _ _ h => h)
          have HBEL : Hid (Below w.heap.size w w8) := (F6.out.trans F8.out).below (Nat.le_refl _) (fun _ h => h.elim)
          clear HB6 HT6 F8 F6 HV6 HO6 HO F7
          generalize w6.heap.size = S at E8 S8 ⊢
          clear w6
          go_loopw [21, 23] (fun q t wr => ∃ j : Nat, j ≤ len1 ∧ q = .bool (hit f j) ∧ t = .int .i64 j ∧ Fr (fun _ => False) w8 wr) (fun _ t _ => len1 - (intOf t).toNat)
          case atStart => exact ⟨0, Nat.zero_le _, rfl, rfl, Fr.refl _ _⟩
          case round =>
            obtain ⟨j, hj, rfl, rfl, hfr⟩ := hrel
            by_cases hlt : j < len1
            · obtain rfl := h1 (by omega)
              obtain ⟨o0, o1, o2, o3, k1, k2, t1, t2⟩ := HX8.out j hlt
              have c0 := hfr.cell (fun h => h) o0
              have c1 := hfr.cell (fun h => h) o1
              have c2 := hfr.cell (fun h => h) o2
              have c3 := hfr.cell (fun h => h) o3
              clear o0 o1 o2 o3
              obtain ⟨tn, htn⟩ : ∃ tn : Nat, oT j % 7 = (tn : Int) := ⟨(oT j % 7).toNat, by omega⟩
              have htn7 : tn < 7 := by omega
              have HFJ : Hid (f j = ((oK j % 6 == 3) && (oB j == n) && oS j && (root B tn == root B vn))) := by
                show f j = _
                rw [HFF.out]
                simp only [htn, Int.toNat_natCast]
              have hltI : (j : Int) < len1 := by omega
              have hrt : ∀ o, Calls Yba.prog 5 #[.slice (some ⟨Bd, 0, none⟩) 4 4, .int .i64 tn] (wr.alloc o) fun e w' => e = .returned (.int .i64 (root B tn)) ∧ w' = wr.alloc o :=
                fun o => root_any Bd B tn (wr.alloc o) HG.out (fun i hi => (hfr.alloc o).cell (fun h => h) (HB8.out i hi)) htn7
              have HH : Hid (hit f (j + 1) = (hit f j || f j)) := rfl
              generalize hit f j = hb at HH ⊢
              by_cases g1 : (oK j % 6 == 3) = true
              · by_cases g2 : (oB j == n) = true
                · cases hS : oS j with
                  | true =>
                    rw [hS] at c2
                    rcases Nat.decEq (root B tn) (root B vn) with e | e
                    · have g3 : ((root B tn : Int) == (root B vn : Int)) = false := by simpa using fun h : (root B tn : Int) = (root B vn : Int) => e (by omega)
                      have gf : f j = false := by rw [HFJ.out, hS]; simp [e]
                      have HGF : Hid _ := gf
                      clear gf hS
                      generalize root B tn = r1 at hrt g3 HFJ
                      generalize root B vn = r2 at g3 HFJ ⊢
                      clear e HFJ
                      go_wp2_with (go_at_call 5; go_must (refine (hrt _).mono ?_; rintro e w' ⟨he, hw⟩; rw [he, hw]; clear he hw e w'))
                      go_roundw
                      case rel => exact ⟨j + 1, by omega, by rw [HH.out, HGF.out, Bool.or_false], by go_num, hfr.alloc _⟩
                      case measure => simp [intOf]; omega
                    · have g3 : ((root B tn : Int) == (root B vn : Int)) = true := by rw [e]; simp
                      have gf : f j = true := by rw [HFJ.out, hS, g1, g2, e]; simp
                      have HGF : Hid _ := gf
                      clear gf hS
                      generalize root B tn = r1 at hrt g3 HFJ
                      generalize root B vn = r2 at g3 HFJ ⊢
                      clear e HFJ
                      go_wp2_with (go_at_call 5; go_must (refine (hrt _).mono ?_; rintro e w' ⟨he, hw⟩; rw [he, hw]; clear he hw e w'))
                      go_roundw
                      case rel => exact ⟨j + 1, by omega, by rw [HH.out, HGF.out, Bool.or_true], by go_num, hfr.alloc _⟩
                      case measure => simp [intOf]; omega
                  | false =>
                    rw [hS] at c2
                    have gf : f j = false := by rw [HFJ.out, hS]; simp
                    have HGF : Hid _ := gf
                    clear gf hS HFJ
                    go_wp2
                    go_roundw
                    case rel => exact ⟨j + 1, by omega, by rw [HH.out, HGF.out, Bool.or_false], by go_num, hfr.alloc _⟩
                    case measure => simp [intOf]; omega
                · have g2 : (oB j == n) = false := by simpa using g2
                  have gf : f j = false := by rw [HFJ.out, g2]; simp
                  have HGF : Hid _ := gf
                  clear gf HFJ
                  go_wp2
                  go_roundw
                  case rel => exact ⟨j + 1, by omega, by rw [HH.out, HGF.out, Bool.or_false], by go_num, hfr.alloc _⟩
                  case measure => simp [intOf]; omega
              · have g1 : (oK j % 6 == 3) = false := by simpa using g1
                have gf : f j = false := by rw [HFJ.out, g1]; rfl
                have HGF : Hid _ := gf
                clear gf HFJ
                go_wp2
                go_roundw
                case rel => exact ⟨j + 1, by omega, by rw [HH.out, HGF.out, Bool.or_false], by go_num, hfr.alloc _⟩
                case measure => simp [intOf]; omega
            · obtain rfl : len1 = j := by omega
              have hltI : ¬ (len1 : Int) < len1 := by omega
              obtain ⟨w9, hw9⟩ : ∃ x, x = wr := ⟨_, rfl⟩
              subst hw9
              have E9 : Hid _ := Env.keep E8.out hfr
              have OM9 : Hid _ := OM.keep OM8.out hfr
              have S9 : Hid _ := hfr.cell (fun h => h) S8.out
              have HT9 : Hid _ := HT8.out.keep hfr (fun _ _ h => h)
              have HB9 : Hid (∀ j, j < 4 → w9.cell? ⟨Bd, j, none⟩ = some (.int .i64 (B j))) := fun j hj => hfr.cell (fun h => h) (HB8.out j hj)
              have HX9 : Hid (∀ j, j < len1 → w9.cell? ⟨xb, xo + j * 4 + 1, none⟩ = some (.int .i64 (oB j)) ∧ w9.cell? ⟨xb, xo + j * 4 + 3, none⟩ = some (.int .u8 (oT j)) ∧ 0 ≤ oT j ∧ oT j ≤ 255) := fun j hj => by
                obtain ⟨o0, o1, o2, o3, k1, k2, t1, t2⟩ := HX8.out j hj
                exact ⟨hfr.cell (fun h => h) o1, hfr.cell (fun h => h) o3, t1, t2⟩
              have HBEL9 : Hid (Below w.heap.size w w9) := HBEL.out.trans (hfr.below HBEL.out.size (fun _ h => h.elim))
              clear E8 OM8 S8 HT8 HB8 HX8 HBEL hfr hrt HFF
              generalize hit f len1 = hb
              have hbb : (hb != hb) = false := by cases hb <;> rfl
              go_wp2
              go_loopw [25] (fun t wr => ∃ i k : Nat, i ≤ 4 ∧ t = .int .i64 i ∧ wr = w9.drewN k) (fun t _ => 4 - (intOf t).toNat)
              case atStart => exact ⟨0, 0, Nat.zero_le _, rfl, rfl⟩
              case round =>
                obtain ⟨i, k, hi, rfl, rfl⟩ := hrel
                by_cases h4 : i < 4
                · have h4I : (i : Int) < 4 := by omega
                  have s3 := E9.out.sub
                  have cv := E9.out.val i h4
                  have cb := HB9.out i h4
                  have hg := HG.out i h4
                  by_cases h0 : B i < 0
                  · rw [vv_none h0] at cv
                    generalize B i = bi at cb h0 hg
                    go_wp2
                    go_roundw
                    case rel => exact ⟨i + 1, k, by omega, by go_num, rfl⟩
                    case measure => simp [intOf]; omega
                  · rw [vv_some h0] at cv
                    obtain ⟨m, hm⟩ : ∃ m : Nat, B i = (m : Int) := ⟨(B i).toNat, by omega⟩
                    have hm7 : m < 7 := by omega
                    have hp := HT9.out.pool m hm7
                    rw [hm] at cb h0 cv
                    rw [Int.toNat_natCast] at cv
                    unfold ptr at cv hp
                    have hmI : (m : Int) < 7 := by omega
                    clear hm hg
                    go_wp2
                    go_region
                    go_wp2
                    go_roundw
                    case rel => exact ⟨i + 1, k + 1, by omega, by go_num, rfl⟩
                    case measure => simp [intOf]; omega
                · have h4I : ¬ (i : Int) < 4 := by omega
                  have s7 := S9.out
                  go_wp2
                  go_loopw [26] (fun t wr => ∃ j k : Nat, j ≤ len1 ∧ t = .int .i64 j ∧ wr = w9.drewN k) (fun t _ => len1 - (intOf t).toNat)
                  case atStart => exact ⟨0, k, Nat.zero_le _, rfl, rfl⟩
                  case round =>
                    obtain ⟨j, k', hj', rfl, rfl⟩ := hrel
                    by_cases hlt' : j < len1
                    · obtain rfl := h1 (by omega)
                      have hlI : (j : Int) < len1 := by omega
                      obtain ⟨x1, x3, t1, t2⟩ := HX9.out j hlt'
                      obtain ⟨c0, c1, c2, c3, c4, c5, c6, c7, c8, c9, c10, c11⟩ := om_cells OM9.out (Fr.refl _ w9) hlt'
                      obtain ⟨tn, htn⟩ : ∃ tn : Nat, oT j % 7 = (tn : Int) := ⟨(oT j % 7).toNat, by omega⟩
                      have htn7 : tn < 7 := by omega
                      have hp := HT9.out.pool tn htn7
                      simp only [htn, Int.toNat_natCast] at c5
                      unfold ptr at hp
                      have hmI : (tn : Int) < 7 := by omega
                      clear c0 c1 c2 c3 c4 c6 c8 c9 c10
                      go_wp2
                      go_quiet (fail)
                      go_wp2
                      go_roundw
                      case rel => exact ⟨j + 1, _, by omega, by go_num, rfl⟩
                      case measure => simp [intOf]; omega
                    · have hlI : ¬ (j : Int) < len1 := by omega
                      go_wp2
                      go_ret
                      exact ⟨rfl, HBEL9.out.trans ((drewN_fr w9 k').below HBEL9.out.size (fun _ h => h.elim))⟩

set_option maxRecDepth 100000 in
theorem walk_long (a0 a1 : Option Addr) (len0 cap0 len1 cap1 : Nat) (v n : Int) (w : World) (hlen : ¬ len1 ≤ 1024) :
    Calls Yba.prog 3 #[.slice a0 len0 cap0, .slice a1 len1 cap1, .int .u8 v, .int .i64 n] w fun e w' => e = .returned (.bool true) ∧ Below w.heap.size w w' := by
  have hI : (1024 : Int) < len1 := by omega
  go_enter Yba.func3, Yba.ntmps3
  go_wp2
  go_ret
  exact ⟨rfl, Below.refl _ _⟩

theorem walk (a0 a1 : Option Addr) (len0 cap0 len1 cap1 : Nat) (v n : Int) (w : World) (zs : List Int) (h0 : IsRow .u8 w a0 len0 cap0 zs) (xb xo : Nat) (oK oB : Nat → Int) (oS : Nat → Bool) (oT : Nat → Int)
    (h1 : 0 < len1 → a1 = some ⟨xb, xo, none⟩) (ho : ObsAt w xb xo len1 oK oB oS oT) (hv : 0 ≤ v ∧ v ≤ 255) :
    Calls Yba.prog 3 #[.slice a0 len0 cap0, .slice a1 len1 cap1, .int .u8 v, .int .i64 n] w fun e w' => e = .returned (.bool true) ∧ Below w.heap.size w w' := by
  by_cases h : len1 ≤ 1024
  · exact walk_short a0 a1 len0 cap0 len1 cap1 v n w zs h0 xb xo oK oB oS oT h1 ho hv h
  · exact walk_long a0 a1 len0 cap0 len1 cap1 v n w h
end Go.Proofs.Ybulkdcbk
