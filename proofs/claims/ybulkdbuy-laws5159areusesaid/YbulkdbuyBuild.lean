/-
  CONTRACT of zzs5159abuild.
-/
import Derived.Test.YbulkdbuyPop
import Derived.ArgAppend
namespace Go.Proofs.Ybulkdbuy
open Go.RowKit
set_option linter.unusedVariables false

theorem Yba.info29 : (Yba.prog.info? 29).map (fun i => (i.zero, i.size, i.bytes)) = some (some (.pointer none), 1, 8) := by kernel_rfl

/-- append to a row of the call's own: and where the new row lies. -/
theorem wpList_append_fresh {P : Program} (w : World) {ops : Array Oper} {rest : List Oper} {o : Oper} {a : Act} {Q : Exit → Act → World → Prop} (hgd : o.guard = none) (s x : Operand) (t : TypeId)
    (ho : o.op = .call { callee := .builtin .append, args := #[s, x], argTypes := #[t, t] })
    (base : Nat) (e : TypeId) (i : TypeInfo) (z : Value) (size bytes : Nat) (ht : P.underlying t = some (.slice e)) (hi : P.info? e = some i) (hz : i.zero = some z)
    (hsize : i.size = size) (hby : i.bytes = bytes) (hzs : z.cells.size = size) (hsz : 0 < size)
    (v : Value) (n : Nat) (xs : List Value) (hs : a.eval s = v) (hown : w.ownsRow base e size v n xs)
    (ad : Addr) (m c : Nat) (news : List Value) (hx : a.eval x = .slice (some ad) m c) (hl : news.length = m * size) (hnews : ∀ j u, news[j]? = some u → w.cell? (ad.add j) = some u) (h1 : ∀ u ∈ news, u.oneCell' = true)
    (hm : 0 < m) (h63 : n + m ≤ maxLen) (hbytes : (n + m) * bytes ≤ 140737488355328) (hbase : base ≤ w.heap.size)
    (h : ∀ v' w', w'.ownsRow base e size v' (n + m) (xs ++ news) → w.grownBy w' v.ownBlock → (v'.ownBlock = v.ownBlock ∨ ∀ g, v'.ownBlock = some g → w.heap.size ≤ g) → wpList P ops Q rest (a.put o.dst v') w') : wpList P ops Q (o :: rest) a w := by
  rcases hown.2 with ⟨rfl, rfl⟩ | ⟨g, cap, cur, rfl, hbg, hg, hnc, hcm, hcs, htake⟩
  · have hx0 : xs = [] := List.eq_nil_of_length_eq_zero (by simpa using hown.1)
    subst hx0
    refine wpList_append_own w hgd s x t ho w.heap.size e i z size bytes ht hi hz hsize hby hzs hsz (.slice none 0 0) 0 [] hs (World.ownsRow_nil _ _ _ _) ad m c news hx hl hnews h1 h63 hbytes (Nat.le_refl _) ?_
    intro v' w' hown' hgrow _
    exact h v' w' (owns_base hown' (fun q hq => Nat.le_trans hbase (hown'.lt q hq).1)) hgrow (.inr (fun q hq => (hown'.lt q hq).1))
  · by_cases hfit : n + m ≤ cap
    · refine wpList_append_fits w hgd s x t ho base e i size ht hi hsize g n cap xs hs hown ad m c news hx hl hnews h1 hfit ?_
      intro w' hown' hgrow
      exact h _ w' hown' hgrow (.inl rfl)
    · refine wpList_append_grows w hgd s x t ho e i z size bytes ht hi hz hsize hby hzs hsz (some ⟨g, 0, none⟩) n cap xs hs (fun h => by cases h) hown.1 (fun b hb => by cases hb; exact hown.cells rfl) ad m c news hx hl hnews h1 (by omega) h63 hbytes ?_
      intro v' w' hown' hgrow
      exact h v' w' (owns_base hown' (fun q hq => Nat.le_trans hbase (hown'.lt q hq).1)) ⟨hgrow.os, hgrow.tape, hgrow.output, hgrow.size, fun k hk _ => hgrow.block k hk (by simp)⟩ (.inr (fun q hq => (hown'.lt q hq).1))

def pcells (l : List Nat) : List Value := l.map ptr

theorem pcells_at {l : List Nat} {i : Nat} (h : i < l.length) : (pcells l)[i]? = some (ptr (l.getD i 0)) := by
  simp [pcells, List.getD, h]
theorem pcells_one (l : List Nat) : ∀ u ∈ pcells l, u.oneCell' = true := by
  intro u hu
  simp only [pcells, List.mem_map] at hu
  obtain ⟨b, _, rfl⟩ := hu
  rfl

/-- A row of pointers is no waiter, and no queue. -/
theorem row_not_node {w : World} {base n : Nat} {v : Value} {xs : List Value} (h : w.ownsRow base 29 1 v n xs) {b : Nat} {p q : Value} {f : Bool} (hb : Node w b p q f) : ¬ v.ownBlock = some b := by
  intro e
  rcases h.2 with ⟨rfl, _⟩ | ⟨g, cap, cur, rfl, _, hg, _⟩
  · simp [Value.ownBlock] at e
  · simp [Value.ownBlock] at e
    subst e
    obtain ⟨_, _, _, _, _, _, hb⟩ := hb
    rw [hg] at hb
    simp at hb
theorem row_not_q {w : World} {base n : Nat} {v : Value} {xs : List Value} (h : w.ownsRow base 29 1 v n xs) {Q : Nat} {a b : Value} (hq : Qh w Q a b) : ¬ v.ownBlock = some Q := by
  intro e
  rcases h.2 with ⟨rfl, _⟩ | ⟨g, cap, cur, rfl, _, hg, _⟩
  · simp [Value.ownBlock] at e
  · simp [Value.ownBlock] at e
    subst e
    obtain ⟨_, hq⟩ := hq
    rw [hg] at hq
    simp at hq

/-- What the script has made so far. -/
structure Scr (w : World) (B Q : Nat) (av mv : Value) (all model : List Nat) : Prop where
  ra : w.ownsRow B 29 1 av all.length (pcells all)
  rm : w.ownsRow B 29 1 mv model.length (pcells model)
  apart : ∀ k, av.ownBlock = some k → ¬ mv.ownBlock = some k
  dl : DL w Q model
  rest : ∀ b ∈ all, b ∈ model ∨ Node w b (.pointer none) (.pointer none) false

theorem Scr.a_off {w : World} {B Q : Nat} {av mv : Value} {all model : List Nat} (h : Scr w B Q av mv all model) : ∀ k, av.ownBlock = some k → ¬ (k = Q ∨ k ∈ model) := by
  rintro k hk (e | e)
  · subst e; exact row_not_q h.ra h.dl.q hk
  · obtain ⟨i, hi, rfl⟩ := List.getElem_of_mem e
    have := h.dl.node i hi
    rw [show model.getD i 0 = model[i] from by simp [List.getD, hi]] at this
    exact row_not_node h.ra this hk

theorem getD_get {l : List Nat} {i : Nat} (h : i < l.length) : l.getD i 0 = l[i] := by simp [List.getD, h]

theorem DL.mem {w : World} {Q : Nat} {l : List Nat} (h : DL w Q l) {b : Nat} (hb : b ∈ l) : ∃ p n, Node w b p n true := by
  obtain ⟨i, hi, rfl⟩ := List.getElem_of_mem hb
  have := h.node i hi
  rw [getD_get hi] at this
  exact ⟨_, _, this⟩

theorem Scr.m_off {w : World} {B Q : Nat} {av mv : Value} {all model : List Nat} (h : Scr w B Q av mv all model) : ∀ k, mv.ownBlock = some k → ¬ (k = Q ∨ k ∈ model) := by
  rintro k hk (e | e)
  · subst e; exact row_not_q h.rm h.dl.q hk
  · obtain ⟨p, n, hn⟩ := h.dl.mem e
    exact row_not_node h.rm hn hk

section
variable {wr w1 w2 w3 : World} {B Q : Nat} {av mv av' mv' : Value} {all model : List Nat} {o : Obj}

/-- Behind pushBack of a new waiter: the rows stand. -/
theorem push_rows (h : Scr wr B Q av mv all model) (hfr : Fr (fun x => x = Q ∨ x = wr.heap.size ∨ x ∈ model) (wr.alloc o) w1) :
    w1.ownsRow B 29 1 av all.length (pcells all) ∧ w1.ownsRow B 29 1 mv model.length (pcells model) := by
  refine ⟨hfr.owns (h.ra.alloc o) ?_, hfr.owns (h.rm.alloc o) ?_⟩
  · rintro k hk (e | e | e)
    · exact h.a_off k hk (.inl e)
    · have := (h.ra.lt k hk).2; omega
    · exact h.a_off k hk (.inr e)
  · rintro k hk (e | e | e)
    · exact h.m_off k hk (.inl e)
    · have := (h.rm.lt k hk).2; omega
    · exact h.m_off k hk (.inr e)

theorem push_row2 {u : Value} (h : Scr wr B Q av mv all model) (hm : w1.ownsRow B 29 1 mv model.length (pcells model)) (hg : (w1.alloc (.cells #[u] 29)).grownBy w2 av.ownBlock) : w2.ownsRow B 29 1 mv model.length (pcells model) :=
  (hm.alloc _).kept hg (by
    cases hv : mv.ownBlock with
    | none => exact .inl rfl
    | some k => exact .inr (fun e => h.apart k e.symm hv))

theorem scr_push {u1 u2 : Value} (h : Scr wr B Q av mv all model) (hfr : Fr (fun x => x = Q ∨ x = wr.heap.size ∨ x ∈ model) (wr.alloc o) w1) (hdl : DL w1 Q (model ++ [wr.heap.size])) (hra : w1.ownsRow B 29 1 av all.length (pcells all)) (hrm : w1.ownsRow B 29 1 mv model.length (pcells model))
    (ha : w2.ownsRow B 29 1 av' (all.length + 1) (pcells all ++ [ptr wr.heap.size])) (hg1 : (w1.alloc (.cells #[u1] 29)).grownBy w2 av.ownBlock) (hf1 : av'.ownBlock = av.ownBlock ∨ ∀ g, av'.ownBlock = some g → (w1.alloc (.cells #[u1] 29)).heap.size ≤ g)
    (hm : w3.ownsRow B 29 1 mv' (model.length + 1) (pcells model ++ [ptr wr.heap.size])) (hg2 : (w2.alloc (.cells #[u2] 29)).grownBy w3 mv.ownBlock) (hf2 : mv'.ownBlock = mv.ownBlock ∨ ∀ g, mv'.ownBlock = some g → (w2.alloc (.cells #[u2] 29)).heap.size ≤ g) :
    Scr w3 B Q av' mv' (all ++ [wr.heap.size]) (model ++ [wr.heap.size]) := by
  have hs1 : (w1.alloc (.cells #[u1] 29)).heap.size = w1.heap.size + 1 := by simp
  have hs2 : (w2.alloc (.cells #[u2] 29)).heap.size = w2.heap.size + 1 := by simp
  have z1 := hg1.size
  have hmlt : ∀ k, mv.ownBlock = some k → k < w1.heap.size := fun k hk => (hrm.lt k hk).2
  have hapart1 : ∀ k, av'.ownBlock = some k → ¬ mv.ownBlock = some k := fun k hk e => by
    rcases hf1 with h1 | h1
    · rw [h1] at hk; exact h.apart k hk e
    · have := h1 k hk; have := hmlt k e; omega
  have f1 : Fr (fun b => av.ownBlock = some b) w1 w2 := ((Fr.refl _ _).alloc _).grown hg1 (fun _ hk _ => hk)
  have f2 : Fr (fun b => mv.ownBlock = some b) w2 w3 := ((Fr.refl _ _).alloc _).grown hg2 (fun _ hk _ => hk)
  have hnode : ∀ {b p n q}, Node w1 b p n q → Node w3 b p n q := fun {b p n q} hn =>
    ((hn.keep f1 (row_not_node hra hn)).keep f2 (row_not_node hrm hn))
  have hdl3 : DL w3 Q (model ++ [wr.heap.size]) := ⟨(hdl.q.keep f1 (row_not_q hra hdl.q)).keep f2 (row_not_q hrm hdl.q), fun i hi => hnode (hdl.node i hi), hdl.nodup⟩
  have ha3 : w3.ownsRow B 29 1 av' (all.length + 1) (pcells all ++ [ptr wr.heap.size]) := f2.owns ha (fun k hk => hapart1 k hk)
  refine ⟨by rw [List.length_append]; simpa [pcells] using ha3, by rw [List.length_append]; simpa [pcells] using hm, fun k hk e => ?_, hdl3, fun b hb => ?_⟩
  · rcases hf2 with h2 | h2
    · rw [h2] at e; exact hapart1 k hk e
    · have := h2 k e; have := (ha.lt k hk).2; omega
  · rcases List.mem_append.1 hb with hb | hb
    · by_cases hbm : b ∈ model
      · exact .inl (List.mem_append.2 (.inl hbm))
      · rcases h.rest b hb with hr | hr
        · exact absurd hr hbm
        · refine .inr (hnode ((hr.keep ((Fr.refl (fun _ => False) wr).alloc o) (fun h => h)).keep hfr ?_))
          rintro (e | e | e)
          · exact h.dl.q.ne hr e.symm
          · have := hr.lt; omega
          · exact hbm e
    · exact .inl (List.mem_append.2 (.inr hb))

/-- Behind remove, and the new row of the rest. -/
theorem rem_rows (h : Scr wr B Q av mv all model) (hfr : Fr (fun x => x = Q ∨ x ∈ model) wr w1) :
    w1.ownsRow B 29 1 av all.length (pcells all) ∧ w1.ownsRow B 29 1 mv model.length (pcells model) :=
  ⟨hfr.owns h.ra h.a_off, hfr.owns h.rm h.m_off⟩

theorem scr_rem {k b g : Nat} {w4 : World} {c : Nat} (h : Scr wr B Q av mv all model) (hfr : Fr (fun x => x = Q ∨ x ∈ model) wr w1) (hk : k < model.length) (hbk : model.getD k 0 = b) (hdl : DL w1 Q (model.eraseIdx k)) (hb : Node w1 b (.pointer none) (.pointer none) false)
    (hg : g = w1.heap.size) (hf : Fr (fun _ => False) w1 w4) (hm : w4.ownsRow B 29 1 (.slice (some ⟨g, 0, none⟩) (model.length - 1) c) (model.length - 1) (pcells (model.eraseIdx k))) :
    Scr w4 B Q av (.slice (some ⟨g, 0, none⟩) (model.length - 1) c) all (model.eraseIdx k) := by
  have hra := (rem_rows h hfr).1
  refine ⟨hf.owns hra (fun _ _ h => h), by rw [len_erase hk]; exact hm, fun q hq e => ?_, hdl.keep hf (fun h => h) (fun _ _ h => h), fun x hx => ?_⟩
  · have := (hra.lt q hq).2
    simp [Value.ownBlock] at e
    omega
  · by_cases hxb : x = b
    · subst hxb; exact .inr (hb.keep hf (fun h => h))
    · rcases h.rest x hx with hr | hr
      · left
        obtain ⟨i, hi, rfl⟩ := List.getElem_of_mem hr
        have hik : ¬ i = k := by
          intro e; subst e; exact hxb (by rw [← hbk, getD_get hi])
        rw [List.mem_eraseIdx_iff_getElem]
        exact ⟨i, hi, hik, rfl⟩
      · by_cases hxm : x ∈ model
        · left
          obtain ⟨i, hi, rfl⟩ := List.getElem_of_mem hxm
          have hik : ¬ i = k := by
            intro e; subst e; exact hxb (by rw [← hbk, getD_get hi])
          rw [List.mem_eraseIdx_iff_getElem]
          exact ⟨i, hi, hik, rfl⟩
        · refine .inr ((hr.keep hfr ?_).keep hf (fun h => h))
          rintro (e | e)
          · exact h.dl.q.ne hr e.symm
          · exact hxm e
end
end Go.Proofs.Ybulkdbuy
