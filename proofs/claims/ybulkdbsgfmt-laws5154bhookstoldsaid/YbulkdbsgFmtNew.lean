/-
  CONTRACT of NewScanner.
-/
import Derived.Test.YbulkdbsgFmtStore
import Derived.Laws.IdiomStrings
import Derived.Deep.RegionLaw
import Derived.Deep.RegionWith
namespace Go.Proofs.YbulkdbsgFmt
open Go.RowKit
set_option linter.unusedVariables false

theorem Ybaf.info29 : (Ybaf.prog.info? 29).map (fun i => (i.zero, i.size, i.bytes)) = some (some (.agg #[.int .i32 0, .int .i32 0]), 2, 8) := by kernel_rfl

section
set_option maxRecDepth 100000
theorem built57 (r : Value) : ∃ cs : Array Value, Ybaf.prog.built 57 [(1, .agg #[r, .nilIface, .slice none 0 0])] = some cs ∧ cs.size = 1053 ∧ cs[1048]? = some r ∧ cs[1049]? = some .nilIface ∧ cs[1050]? = some (.slice none 0 0) ∧ cs[1051]? = some (.slice none 0 0) ∧ cs[1052]? = some (.pointer none) := by
  have h : (Ybaf.prog.built 57 [(1, .agg #[r, .nilIface, .slice none 0 0])]).isSome = true := by kernel_rfl
  obtain ⟨cs, hcs⟩ := Option.isSome_iff_exists.1 h
  have e : (Ybaf.prog.built 57 [(1, .agg #[r, .nilIface, .slice none 0 0])]).getD #[] = cs := by rw [hcs]; rfl
  have h1 : ((Ybaf.prog.built 57 [(1, .agg #[r, .nilIface, .slice none 0 0])]).getD #[]).size = 1053 := by kernel_rfl
  have h2 : ((Ybaf.prog.built 57 [(1, .agg #[r, .nilIface, .slice none 0 0])]).getD #[])[1048]? = some r := by kernel_rfl
  have h3 : ((Ybaf.prog.built 57 [(1, .agg #[r, .nilIface, .slice none 0 0])]).getD #[])[1049]? = some .nilIface := by kernel_rfl
  have h4 : ((Ybaf.prog.built 57 [(1, .agg #[r, .nilIface, .slice none 0 0])]).getD #[])[1050]? = some (.slice none 0 0) := by kernel_rfl
  have h5 : ((Ybaf.prog.built 57 [(1, .agg #[r, .nilIface, .slice none 0 0])]).getD #[])[1051]? = some (.slice none 0 0) := by kernel_rfl
  have h6 : ((Ybaf.prog.built 57 [(1, .agg #[r, .nilIface, .slice none 0 0])]).getD #[])[1052]? = some (.pointer none) := by kernel_rfl
  rw [e] at h1 h2 h3 h4 h5 h6
  exact ⟨cs, hcs, h1, h2, h3, h4, h5, h6⟩
end

/-- The struct's first cells. -/
structure Fresh (f : Nat → Value) (r : Value) : Prop where
  rd : f 1048 = r
  serr : f 1049 = .nilIface
  head : f 1050 = .slice none 0 0
  ops : f 1051 = .slice none 0 0
  err : f 1052 = .pointer none

theorem wpList_build57 {ops : Array Oper} {rest : List Oper} {o : Oper} {a : Act} {Q : Exit → Act → World → Prop} {w : World} (hg : o.guard = none) (x : Operand) (hop : o.op = Op.build 57 #[(1, x)]) (r : Value) (hx : a.eval x = .agg #[r, .nilIface, .slice none 0 0])
    (hK : ∀ cs : Array Value, Ybaf.prog.built 57 [(1, .agg #[r, .nilIface, .slice none 0 0])] = some cs → wpList Ybaf.prog ops Q rest (a.put o.dst (.agg cs)) w) : wpList Ybaf.prog ops Q (o :: rest) a w := by
  obtain ⟨cs, hcs, _⟩ := built57 r
  refine wpList_plain hg fun K hK' => ?_
  refine wp_build 57 #[(1, x)] hop ?_ ?_
  · simp [hx, hcs]
  · simp [hx, hcs]; exact hK' _ _ (hK cs hcs)

theorem wpList_box57 {ops : Array Oper} {rest : List Oper} {o : Oper} {a : Act} {Q : Exit → Act → World → Prop} {w : World} (hg : o.guard = none) (x : Operand) (hop : o.op = Op.box 57 x) (r : Value) (cs : Array Value) (hx : a.eval x = .agg cs)
    (hcs : Ybaf.prog.built 57 [(1, .agg #[r, .nilIface, .slice none 0 0])] = some cs)
    (hK : ∀ w' f, Cf w' w.heap.size f ∧ Fr (fun b => b = w.heap.size) w w' → Fresh f r → wpList Ybaf.prog ops Q rest (a.put o.dst (.pointer (some ⟨w.heap.size, 0, none⟩))) w') : wpList Ybaf.prog ops Q (o :: rest) a w := by
  obtain ⟨cs', hcs', h1, h2, h3, h4, h5, h6⟩ := built57 r
  obtain rfl : cs = cs' := by rw [hcs] at hcs'; exact Option.some.inj hcs'
  refine wpList_plain hg fun K hK' => ?_
  have hheap := heap_alloc_new w (.cells cs 57)
  have hcell : ∀ i, i < 1053 → (w.alloc (.cells cs 57)).cell? ⟨w.heap.size, i, none⟩ = some (cs.getD i undef) := fun i hi => by
    rw [cells_of_block hheap i]
    simp [Array.getD, h1, hi]
  have hK2 := hK (w.alloc (.cells cs 57)) (fun i => cs.getD i undef) ⟨⟨hcell, fun i => free_of_block hheap i⟩, (Fr.refl _ _).alloc _⟩
    ⟨by simp [h2], by simp [h3], by simp [h4], by simp [h5], by simp [h6]⟩
  unfold Oper.wp
  simp [execOp, hop, hx, Instr.box, newVar, newRow, Value.cells, Result.andThen, Oper.upon]
  exact hK' _ _ hK2

/-- '[]rune(s)' where s holds two runes. -/
theorem wpList_runes {ops : Array Oper} {rest : List Oper} {o : Oper} {a : Act} {Q : Exit → Act → World → Prop} {w : World} (hg : o.guard = none) (x : Operand) (hop : o.op = Op.convert 9 23 x) (s : ByteArray) (hx : a.eval x = .string s)
    (A B : Int) (hr : Conv.runesFrom s s.size 0 #[] = #[.int .i32 A, .int .i32 B])
    (hK : ∀ w' c, 2 ≤ c → w'.cell? ⟨w.heap.size, 0, none⟩ = some (.int .i32 A) → w'.cell? ⟨w.heap.size, 1, none⟩ = some (.int .i32 B) → Fr (fun _ => False) w w' → w.heap.size < w'.heap.size → wpList Ybaf.prog ops Q rest (a.put o.dst (.slice (some ⟨w.heap.size, 0, none⟩) 2 c)) w') : wpList Ybaf.prog ops Q (o :: rest) a w := by
  refine wpList_plain hg fun K hK' => ?_
  have hrun := run_runes_of_string (P := Ybaf.prog) w 9 23 21 s Ybaf.underlying9 Ybaf.underlying23 Ybaf.underlying21 (by rw [hr]; show 2 ≤ 70368744177664; omega)
  rw [hr] at hrun
  have e2 : (#[Value.int .i32 A, Value.int .i32 B] : Array Value).size = 2 := rfl
  rw [e2] at hrun
  have hge := grownCap_ge w 2 0 21
  generalize grownCap w 2 0 21 = cap at hrun hge
  generalize hrep : Array.replicate (cap - 2) (Value.int .i32 0) = rep at hrun
  have hheap := heap_alloc_new w.drew (.cells (#[Value.int .i32 A, Value.int .i32 B] ++ rep) 21)
  have q0 : (#[Value.int .i32 A, Value.int .i32 B] ++ rep)[0]? = some (.int .i32 A) := by rw [Array.getElem?_append_left (by simp)]; rfl
  have q1 : (#[Value.int .i32 A, Value.int .i32 B] ++ rep)[1]? = some (.int .i32 B) := by rw [Array.getElem?_append_left (by simp)]; rfl
  have hK2 := hK (w.drew.alloc (.cells (#[Value.int .i32 A, Value.int .i32 B] ++ rep) 21)) cap hge
    ((cells_of_block hheap 0).trans q0) ((cells_of_block hheap 1).trans q1) ((Fr.refl _ _).drew.alloc _) (by simp)
  clear hheap q0 q1 hrep hK
  generalize w.drew.alloc (.cells (#[Value.int .i32 A, Value.int .i32 B] ++ rep) 21) = w' at hrun hK2
  unfold Oper.wp
  simp only [execOp, hop, hx, Sem.run_bind, hrun, Result.andThen_ok, Sem.run_pure, Oper.upon]
  exact hK' _ _ hK2

theorem step_append_own {P : Program} {ops : Array Oper} {o : Oper} {a : Act} {w : World} {K : Act → World → Prop} {Q : Exit → Act → World → Prop} {E : Prop} (hg : o.guard = none) (s x : Operand) (t : TypeId)
    (ho : o.op = .call { callee := .builtin .append, args := #[s, x], argTypes := #[t, t] })
    (base : Nat) (e : TypeId) (i : TypeInfo) (z : Value) (size bytes : Nat) (ht : P.underlying t = some (.slice e)) (hi : P.info? e = some i) (hz : i.zero = some z)
    (hsize : i.size = size) (hby : i.bytes = bytes) (hzs : z.cells.size = size) (hsz : 0 < size)
    (v : Value) (n : Nat) (xs : List Value) (hs : a.eval s = v) (hown : w.ownsRow base e size v n xs)
    (ad : Addr) (m c : Nat) (news : List Value) (hx : a.eval x = .slice (some ad) m c) (hl : news.length = m * size) (hnews : ∀ j u, news[j]? = some u → w.cell? (ad.add j) = some u) (h1 : ∀ u ∈ news, u.oneCell' = true)
    (h63 : n + m ≤ maxLen) (hbytes : (n + m) * bytes ≤ 140737488355328) (hbase : base ≤ w.heap.size)
    (h : ∀ v' w', w'.ownsRow base e size v' (n + m) (xs ++ news) → w.grownBy w' v.ownBlock → K (a.put o.dst v') w') :
    if Region.wanted o (yielded ops a.tmps) = true then Oper.wp P o a w K Q else E := by
  have hw : Region.wanted o (yielded ops a.tmps) = true := by simp [Region.wanted, hg]
  rw [if_pos hw]
  exact wp_append_own w s x t ho base e i z size bytes ht hi hz hsize hby hzs hsz v n xs hs hown ad m c news hx hl hnews h1 h63 hbytes hbase (fun v' w' h2 h3 _ => h v' w' h2 h3)

theorem two_news {w : World} {u v : Value} {e : TypeId} : ∀ j x, [u, v][j]? = some x → (w.alloc (.cells #[u, v] e)).drew.cell? ((⟨w.heap.size, 0, none⟩ : Addr).add j) = some x := by
  intro j x hj
  have hh := heap_alloc_new w (.cells #[u, v] e)
  match j, hj with
  | 0, hj => simp at hj; subst hj; exact (cells_of_block (w := (w.alloc (.cells #[u, v] e)).drew) hh 0)
  | 1, hj => simp at hj; subst hj; exact (cells_of_block (w := (w.alloc (.cells #[u, v] e)).drew) hh 1)

theorem afterAppendD {w w2 : World} {o : Obj} {row : Option Nat} (h : (w.alloc o).drew.grownBy w2 row) : Fr (fun b => row = some b) w w2 :=
  ((Fr.refl _ _).alloc o).drew.grown h (fun _ hk _ => hk)

theorem notOwn {w : World} {B : Nat} {e : TypeId} {size : Nat} {v : Value} {n : Nat} {xs : List Value} (h : w.ownsRow B e size v n xs) {b : Nat} (hb : b < B) : ¬ v.ownBlock = some b :=
  fun e => by have := (h.lt b e).1; omega

/-- The cells of the first k pairs. -/
def pcs (A B : Nat → Int) (k : Nat) : List Value := (List.range k).flatMap fun i => [.int .i32 (A i), .int .i32 (B i)]

theorem pcs_succ (A B : Nat → Int) (k : Nat) : pcs A B (k + 1) = pcs A B k ++ [.int .i32 (A k), .int .i32 (B k)] := by
  simp [pcs, List.range_succ]

theorem new_step {w wr w2 w3 : World} {f f' : Nat → Value} {A B : Nat → Int} {k n g3 c3 : Nat} {x y : Int} {ov : Value} (hkn : k < n) (hcf3 : Cf w3 w.heap.size f') (hfj : ∀ j, ¬ j = 1051 → f' j = f j) (HP : pcs A B (k + 1) = pcs A B k ++ [.int .i32 x, .int .i32 y])
    (hown3 : w3.ownsRow (w.heap.size + 1) 29 2 (.slice (some ⟨g3, 0, none⟩) (k + 1) c3) (k + 1) (pcs A B k ++ [.int .i32 x, .int .i32 y])) (hbel : Below w.heap.size w wr) (hfr2 : Fr (fun _ => False) wr w2) (hfr3 : Fr (fun b => ov.ownBlock = some b) w2 w3)
    (hown : wr.ownsRow (w.heap.size + 1) 29 2 ov k (pcs A B k)) (hsz : w.heap.size < wr.heap.size) :
    ∃ (k' : Nat) (f'' : Nat → Value) (ov' : Value), k' ≤ n ∧ Value.int .i64 ((k : Int) + 1) = .int .i64 (k' : Int) ∧ Cf (w3.setCell ⟨w.heap.size, 1051, none⟩ (.slice (some ⟨g3, 0, none⟩) (k + 1) c3)) w.heap.size f'' ∧ f'' 1051 = ov' ∧ (∀ j, ¬ j = 1051 → f'' j = f j) ∧
      (w3.setCell ⟨w.heap.size, 1051, none⟩ (.slice (some ⟨g3, 0, none⟩) (k + 1) c3)).ownsRow (w.heap.size + 1) 29 2 ov' k' (pcs A B k') ∧ Below w.heap.size w (w3.setCell ⟨w.heap.size, 1051, none⟩ (.slice (some ⟨g3, 0, none⟩) (k + 1) c3)) ∧ w.heap.size < (w3.setCell ⟨w.heap.size, 1051, none⟩ (.slice (some ⟨g3, 0, none⟩) (k + 1) c3)).heap.size := by
  have s2 := hfr2.size
  have s3 := hfr3.size
  refine ⟨k + 1, upd f' 1051 (.slice (some ⟨g3, 0, none⟩) (k + 1) c3), .slice (some ⟨g3, 0, none⟩) (k + 1) c3, by omega, by go_num, hcf3.set (by decide) _, by simp [upd], fun j hj => ?_, ?_, ?_, ?_⟩
  · simp only [upd, if_neg hj]; exact hfj j hj
  · rw [HP]; exact ownsRow_setCell_below hown3 (Nat.lt_succ_self _) _
  · refine Below.setCell (p := ⟨w.heap.size, 1051, none⟩) ?_ (Nat.le_refl _) _
    refine hbel.trans ((hfr2.below (by omega) (fun _ h => h.elim)).trans (hfr3.below (by omega) (fun q hq => ?_)))
    have := (hown.lt q hq).1
    omega
  · simp [World.setCell]; omega

/-- What NewScanner leaves in the struct. -/
structure Made (F : Nat → Value) (S : Nat) (r : Value) (path : ByteArray) (fv ov : Value) : Prop where
  rd : F 1048 = r
  serr : F 1049 = .nilIface
  head : F 1050 = .slice none 0 0
  ops : F 1051 = ov
  err : F 1052 = .pointer none
  path : F 1044 = .string path
  mode : F 1041 = .int .u64 4
  white : F 1042 = .int .u64 4294976000
  word : F 1043 = fv
  hook : F 1039 = .func (.func 10) #[.pointer (some ⟨S, 0, none⟩)] #[]
  srcPos : F 1026 = .int .i64 0
  bufOff : F 1028 = .int .i64 0
  column : F 1030 = .int .i64 0
  lastLine : F 1031 = .int .i64 0
  lastChar : F 1032 = .int .i64 0

theorem new_made {f f' : Nat → Value} {S : Nat} {r fv ov : Value} {path : ByteArray} (hfresh : Fresh f r) (hov : f' 1051 = ov) (hfj : ∀ j, ¬ j = 1051 → f' j = f j) :
    Made (upd (upd (upd (upd (upd (initF S f') 1044 (.string path)) 1041 (.int .u64 4)) 1043 fv) 1042 (.int .u64 4294976000)) 1039 (.func (.func 10) #[.pointer (some ⟨S, 0, none⟩)] #[])) S r path fv ov := by
  have e1 := (hfj 1048 (by decide)).trans hfresh.rd
  have e2 := (hfj 1049 (by decide)).trans hfresh.serr
  have e3 := (hfj 1050 (by decide)).trans hfresh.head
  have e5 := (hfj 1052 (by decide)).trans hfresh.err
  constructor <;> simp [upd, initF, e1, e2, e3, e5, hov]

set_option maxHeartbeats 1000000 in
theorem new_any (r0 : Value) (tr : TypeId) (path : ByteArray) (fv : Value) (ao : Option Addr) (n c gs : Nat) (T : Nat → ByteArray) (A B : Nat → Int) (w : World) (hn : n ≤ 1024)
    (hfv : fv.oneCell' = true) (hao : 0 < n → ao = some ⟨gs, 0, none⟩) (hs : ∀ i, i < n → w.cell? ⟨gs, i, none⟩ = some (.string (T i))) (hr : ∀ i, i < n → Conv.runesFrom (T i) (T i).size 0 #[] = #[.int .i32 (A i), .int .i32 (B i)]) :
  Calls Ybaf.prog 6 #[.iface tr r0, .string path, fv, .slice ao n c] w fun e w' => e = .returned (.pointer (some ⟨w.heap.size, 0, none⟩)) ∧ ∃ (F : Nat → Value) (ov : Value), Cf w' w.heap.size F ∧ Made F w.heap.size (.iface tr r0) path fv ov ∧ w'.ownsRow (w.heap.size + 1) 29 2 ov n (pcs A B n) ∧ Below w.heap.size w w' ∧ w.heap.size < w'.heap.size := by
  obtain ⟨i29, hi29, hy0, hy1, hy2⟩ := info_parts Ybaf.info29
  go_enter Ybaf.func6, Ybaf.ntmps6
  go_wp2_with (first
    | (refine wpList_build57 rfl _ rfl (.iface tr r0) rfl ?_; intro cs hcs)
    | (refine wpList_box57 rfl _ rfl (.iface tr r0) cs rfl hcs ?_; intro w1 f h0 hfresh; clear hcs))
  have hS1 : w.heap.size < w1.heap.size := World.block_lt_of_cell? w1 _ (h0.1.cell 0 (by decide))
  go_loopw [19] (fun t wr => ∃ (k : Nat) (f' : Nat → Value) (ov : Value), k ≤ n ∧ t = .int .i64 k ∧ Cf wr w.heap.size f' ∧ f' 1051 = ov ∧ (∀ j, ¬ j = 1051 → f' j = f j) ∧ wr.ownsRow (w.heap.size + 1) 29 2 ov k (pcs A B k) ∧ Below w.heap.size w wr ∧ w.heap.size < wr.heap.size) (fun i _ => n - (intOf i).toNat)
  case atStart => exact ⟨0, f, _, Nat.zero_le _, rfl, h0.1, rfl, fun _ _ => rfl, by rw [hfresh.ops]; exact World.ownsRow_nil _ _ _ _, h0.2.below (Nat.le_refl _) (fun _ h => Nat.le_of_eq h.symm), hS1⟩
  case round =>
    obtain ⟨k, f', ov, hk, rfl, hcf, hov, hfj, hown, hbel, hsz⟩ := hrel
    clear h0 hS1
    by_cases hkn : k < n
    · obtain rfl := hao (by omega)
      have hc0 := hs k hkn
      have hc : wr.cell? ⟨gs, k, none⟩ = some (.string (T k)) := (hbel.cell (World.block_lt_of_cell? w _ hc0)).trans hc0
      have hrk := hr k hkn
      have HP : Hid (pcs A B (k + 1) = pcs A B k ++ [.int .i32 (A k), .int .i32 (B k)]) := pcs_succ A B k
      generalize T k = s at hc hrk
      generalize A k = x at hrk HP
      generalize B k = y at hrk HP
      have HR : Hid (Conv.runesFrom s s.size 0 #[] = #[.int .i32 x, .int .i32 y]) := hrk
      clear hrk hr hs hc0 hao
      go_wp2_with (refine wpList_runes rfl _ rfl s rfl x y HR.out ?_; intro w2 c2 hc2 e0 e1 hfr2 hsz2)
      have hcf2 := hcf.keep hfr2 (fun h => h)
      have d1 := hcf2.cell 1051 (by decide)
      rw [hov] at d1
      have d1a : ∀ o, (w2.alloc o).cell? ⟨w.heap.size, 1051, none⟩ = some ov := fun o => (World.cell?_of_block (Below.heap_alloc _ _ _ (World.block_lt_of_cell? w2 _ d1))).trans d1
      have hown2 := hfr2.owns hown (fun _ _ h => h)
      have hkI : (k : Int) < n := by omega
      have hS2 : w.heap.size + 1 ≤ w2.heap.size := by omega
      have hnw : ∀ j u, [Value.int .i32 x, Value.int .i32 y][j]? = some u → (w2.alloc (.cells #[.int .i32 x, .int .i32 y] 29)).drew.cell? ((⟨w2.heap.size, 0, none⟩ : Addr).add j) = some u := two_news
      go_region_law (refine step_append_own rfl (.tmp 37) (.tmp 45) 26 rfl (w.heap.size + 1) 29 i29 (.agg #[.int .i32 0, .int .i32 0]) 2 8 Ybaf.underlying26 hi29 hy0 hy1 hy2 rfl (by decide) ov k (pcs A B k) (by simp [Act.eval]) (hown2.alloc _).drew ⟨w2.heap.size, 0, none⟩ 1 1 [.int .i32 x, .int .i32 y] (by simp [Act.eval]) rfl hnw (by intro u hu; simp at hu; rcases hu with rfl | rfl <;> rfl) (by unfold maxLen; omega) (by omega) (by simp; omega) ?_; intro v2 w3 hown3 hgrow3; obtain ⟨g3, c3, hv3, hg3, _, _⟩ := owns_pos hown3 (by omega); subst hv3; have hfr3 := afterAppendD hgrow3; clear hgrow3; have hcf3 := hcf2.keep hfr3 (notOwn hown2 (Nat.lt_succ_self _)); have d3 := hcf3.cell 1051 (by decide); have f3 := hcf3.free 1051)
      all_goals go_wp2
      all_goals go_roundw
      all_goals first | exact new_step hkn hcf3 hfj HP.out hown3 hbel hfr2 hfr3 hown hsz | (simp [intOf]; omega)
    · obtain rfl : k = n := by omega
      clear hr hs hao
      have hcfd : Cf wr.drew w.heap.size f' := hcf.keep (Fr.refl (fun _ => False) _).drew (fun h => h)
      go_wp2
      go_region_with (go_at_call 9; refine (init_any w.heap.size f' _ hcfd).mono ?_; rintro e w4 ⟨rfl, hcf4, hfr4⟩)
      have h0 : Cf w4 w.heap.size (initF w.heap.size f') ∧ Fr (fun b => b = w.heap.size) wr w4 := ⟨hcf4, (Fr.refl _ _).drew.trans hfr4⟩
      clear hcf4 hfr4 hcfd
      go_wp2_with (first
        | (refine wpList_storeS rfl _ _ _ rfl rfl w.heap.size _ rfl _ rfl rfl (by kernel_rfl) (by decide) _ wr (by assumption) ?_; clear h0; intro w' h0)
        | (refine wpList_storeS rfl _ _ _ rfl rfl w.heap.size _ rfl fv rfl hfv (by kernel_rfl) (by decide) _ wr (by assumption) ?_; clear h0; intro w' h0))
      go_ret
      refine ⟨rfl, _, ov, h0.1, new_made hfresh hov hfj, h0.2.owns hown (fun q hq h => ?_), hbel.trans (h0.2.below (by omega) (fun q hq => by omega)), by have := h0.2.size; omega⟩
      have := (hown.lt q hq).1
      omega
end Go.Proofs.YbulkdbsgFmt
