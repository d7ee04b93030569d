/-
  THE STEPS that changes is to visit, and the memory of its second loop. No walk.
-/
import Derived.Test.YbulkdbsgDoorWords
import Derived.Test.YbulkdbsgDoorVisit
namespace Go.Proofs.YbulkdbsgDoor
open Go.RowKit
set_option linter.unusedVariables false

/-- The steps of rule k (r), the first i classes looked at. -/
def rowSteps (r : Ru) (k : Nat) (vs : Nat → Int) : Nat → List Stp
  | 0 => []
  | i + 1 => rowSteps r k vs i ++ (if okR r (vs i) then [(k, i, nxI r.rv r.role (vs i))] else [])
def ruleSteps (ru : Nat → Ru) (vs : Nat → Int) (n : Nat) (hv : Int) (k : Nat) : List Stp := if hasI hv (ru k).adm then rowSteps (ru k) k vs n else []
def flat (ru : Nat → Ru) (vs : Nat → Int) (n : Nat) (hv : Int) (ks : List Nat) : List Stp := ks.flatMap (ruleSteps ru vs n hv)

theorem rowSteps_len (r : Ru) (k : Nat) (vs : Nat → Int) (i : Nat) : (rowSteps r k vs i).length ≤ i := by
  induction i with
  | zero => simp [rowSteps]
  | succ i ih => simp only [rowSteps, List.length_append]; split <;> simp <;> omega
theorem rowSteps_prefix (r : Ru) (k : Nat) (vs : Nat → Int) (i d : Nat) : rowSteps r k vs i <+: rowSteps r k vs (i + d) := by
  induction d with
  | zero => exact List.prefix_rfl
  | succ d ih => exact ih.trans (by rw [← Nat.add_assoc]; exact List.prefix_append _ _)
theorem rowSteps_none (r : Ru) (k : Nat) (vs : Nat → Int) (i : Nat) (h : ∀ j, j < i → okR r (vs j) = false) : rowSteps r k vs i = [] := by
  induction i with
  | zero => rfl
  | succ i ih => simp only [rowSteps]; rw [ih (fun j hj => h j (by omega)), h i (by omega)]; rfl
theorem flat_snoc (ru : Nat → Ru) (vs : Nat → Int) (n : Nat) (hv : Int) (ks : List Nat) (k : Nat) : flat ru vs n hv (ks ++ [k]) = flat ru vs n hv ks ++ ruleSteps ru vs n hv k := by simp [flat]
theorem flat_len (ru : Nat → Ru) (vs : Nat → Int) (n : Nat) (hv : Int) (ks : List Nat) : (flat ru vs n hv ks).length ≤ ks.length * n := by
  induction ks with
  | nil => simp [flat]
  | cons k ks ih =>
    have h1 : (ruleSteps ru vs n hv k).length ≤ n := by
      unfold ruleSteps
      split
      · exact rowSteps_len _ _ _ _
      · simp
    have h2 : flat ru vs n hv (k :: ks) = ruleSteps ru vs n hv k ++ flat ru vs n hv ks := by simp [flat]
    rw [h2, List.length_append, List.length_cons, Nat.succ_mul]
    omega
theorem flat_prefix (ru : Nat → Ru) (vs : Nat → Int) (n : Nat) (hv : Int) {ks js : List Nat} (h : ks <+: js) : flat ru vs n hv ks <+: flat ru vs n hv js := by
  obtain ⟨t, rfl⟩ := h
  simp [flat]

/-- The steps of all rules are those of the rules in 'some'. -/
theorem flat_bits (ru : Nat → Ru) (vs : Nat → Int) (n nr m : Nat) (hv : Int) (us : List Nat) (hm : nr ≤ 64 * m) (h : ∀ k, k < 64 * m → bitAt us k = (decide (k < nr) && (List.range n).any fun j => okR (ru k) (vs j))) :
    flat ru vs n hv (bitsTo us (64 * m)) = flat ru vs n hv (List.range nr) := by
  have key : ∀ j, j ≤ 64 * m → flat ru vs n hv (bitsTo us j) = flat ru vs n hv (List.range (if j < nr then j else nr)) := by
    intro j
    induction j with
    | zero => intro _; by_cases h : 0 < nr <;> simp [bitsTo, h]; have : nr = 0 := by omega
              simp [this]
    | succ j ih =>
      intro hj
      have ih := ih (by omega)
      have hb := h j (by omega)
      by_cases hjn : j < nr
      · have e1 : (if j < nr then j else nr) = j := if_pos hjn
        have e2 : (if j + 1 < nr then j + 1 else nr) = j + 1 := by split <;> omega
        rw [e1] at ih
        rw [e2, List.range_succ, flat_snoc, ← ih]
        by_cases ha : ((List.range n).any fun i => okR (ru j) (vs i)) = true
        · rw [ha] at hb
          rw [bitsTo_hit (by simpa [hjn] using hb), flat_snoc]
        · have ha : ((List.range n).any fun i => okR (ru j) (vs i)) = false := by simpa using ha
          rw [ha] at hb
          rw [bitsTo_miss (by simpa using hb)]
          have : ruleSteps ru vs n hv j = [] := by
            unfold ruleSteps
            split
            · refine rowSteps_none _ _ _ _ fun i hi => ?_
              rw [List.any_eq_false] at ha
              simpa using ha i (List.mem_range.2 hi)
            · rfl
          rw [this, List.append_nil]
      · have e1 : (if j < nr then j else nr) = nr := if_neg hjn
        have e2 : (if j + 1 < nr then j + 1 else nr) = nr := if_neg (by omega)
        rw [e1] at ih
        rw [e2, ← ih, bitsTo_miss (by rw [hb]; simp [hjn])]
  have := key (64 * m) (Nat.le_refl _)
  rw [this]
  congr 2
  split <;> omega

/-- Not yet stopped. -/
def Unhit (stop : Nat) (L : List Stp) : Prop := stop = 0 ∨ L.length < stop
/-- L is what is visited of All: all of it, or the first 'stop'. -/
def Cut (stop : Nat) (All L : List Stp) : Prop := (L = All ∧ Unhit stop L) ∨ (L <+: All ∧ L.length = stop ∧ 0 < stop)
theorem Cut.one {stop : Nat} {All L K : List Stp} (h : Cut stop All L) (g : Cut stop All K) : L = K := by
  rcases h with ⟨rfl, h⟩ | ⟨hp, hl, h0⟩ <;> rcases g with ⟨rfl, g⟩ | ⟨gp, gl, g0⟩
  · rfl
  · have := gp.length_le
    rcases h with h | h <;> omega
  · have := hp.length_le
    rcases g with h | h <;> omega
  · exact (List.prefix_of_prefix_length_le hp gp (by omega)).eq_of_length (by omega)

theorem GotAt.own {W W' : World} {base Bg Bc : Nat} {L : List Stp} (h : GotAt W base Bg Bc L) {P : Nat → Prop} (hf : Fr P W W') (h1 : Bg < base) (h2 : Bc < base) (h3 : ∀ q, P q → base ≤ q ∧ ∃ o : Obj, W.heap[q]? = some o ∧ o.isCells = false) : GotAt W' base Bg Bc L := by
  obtain ⟨gv, hg, ho⟩ := h.got
  have n1 : ¬ P Bg := fun e => by have := (h3 _ e).1; omega
  have n2 : ¬ P Bc := fun e => by have := (h3 _ e).1; omega
  refine ⟨⟨gv, hf.cell n1 hg, hf.owns ho (fun k hk e => ?_)⟩, (hf.frozen (p := ⟨Bg, 0, none⟩) n1 (World.block_lt_of_cell? W _ hg)).trans h.gf, hf.cell n2 h.calls, (hf.frozen (p := ⟨Bc, 0, none⟩) n2 (World.block_lt_of_cell? W _ h.calls)).trans h.cf⟩
  obtain ⟨_, o, ho1, ho2⟩ := h3 _ e
  rcases ho.2 with ⟨rfl, _⟩ | ⟨g, cap, cur, rfl, _, hgg, _⟩
  · simp [Value.ownBlock] at hk
  · simp [Value.ownBlock] at hk
    subst hk
    rw [hgg] at ho1
    cases ho1
    simp [Obj.isCells] at ho2

def Out (Bg Bc sb q : Nat) : Prop := q = Bg ∨ q = Bc ∨ q = sb

/-- The numbers of the blocks. -/
structure Nums where
  S : Nat
  R : Nat
  nr : Nat
  cr : Nat
  m : Nat
  C : Nat
  n : Nat
  A : Nat
  hbk : Nat
  hv : Int
  b3 : Nat
  b4 : Nat
  b5 : Nat
  b6 : Nat
  b7 : Nat
  b8 : Nat
  sb : Nat
  Bs : Nat
  Bb : Nat
  Bg : Nat
  Bc : Nat
  Bt : Nat
  stop : Nat

/-- What the second loop of changes reads. -/
structure Env (W : World) (N : Nums) (ru : Nat → Ru) (cb : Nat → Nat) (vs : Nat → Int) (ab : Nat → Nat) : Prop where
  r2 : W.cell? ⟨N.S, 2, none⟩ = some (rulesV N.R N.nr N.cr)
  rule : ∀ k, k < N.nr → RuleAt W N.R (k * 5) (ru k).rv (ru k).adm (ru k).hb (ru k).lb (ru k).role (ru k).h (ru k).l
  rows : ∀ k, k < N.nr → ∃ cs t, W.heap[N.R]? = some (.cells cs t (0, 0))
  c3 : W.cell? ⟨N.b3, 0, none⟩ = some (.pointer (some ⟨N.S, 0, none⟩))
  c4 : W.cell? ⟨N.b4, 0, none⟩ = some (.slice (some ⟨N.C, 0, none⟩) N.n N.n)
  c5 : W.cell? ⟨N.b5, 0, none⟩ = some (.func (.func 4) #[] #[.pointer (some ⟨N.Bs, 0, none⟩), .pointer (some ⟨N.Bb, 0, none⟩), .pointer (some ⟨N.Bg, 0, none⟩), .pointer (some ⟨N.Bc, 0, none⟩), .pointer (some ⟨N.Bt, 0, none⟩)])
  c6 : W.cell? ⟨N.b6, 0, none⟩ = some (.slice (some ⟨N.sb, 0, none⟩) 1 1)
  c7 : W.cell? ⟨N.b7, 0, none⟩ = some (.slice (some ⟨N.hbk, 0, none⟩) 1 1)
  c8 : W.cell? ⟨N.b8, 0, none⟩ = some (.slice (some ⟨N.A, 0, none⟩) N.n N.n)
  row : ∀ j, j < N.n → W.cell? ⟨N.A, j, none⟩ = some (setV (ab j) N.m)
  sets : ∀ j, j < N.n → SetAt W (ab j) (appW N.m ru (vs j) N.nr)
  cls : ClassAt W N.C N.n cb vs
  held : SetAt W N.hbk [N.hv]
  bs : W.cell? ⟨N.Bs, 0, none⟩ = some (.pointer (some ⟨N.S, 0, none⟩))
  bt : W.cell? ⟨N.Bt, 0, none⟩ = some (.int .u8 N.stop)

/-- The blocks that it reads are not those that it writes. -/
structure EnvOk (N : Nums) (ru : Nat → Ru) (cb : Nat → Nat) (ab : Nat → Nat) : Prop where
  s : ¬ Out N.Bg N.Bc N.sb N.S
  r : ∀ k, k < N.nr → ¬ Out N.Bg N.Bc N.sb N.R ∧ ¬ Out N.Bg N.Bc N.sb (ru k).hb ∧ ¬ Out N.Bg N.Bc N.sb (ru k).lb
  b3 : ¬ Out N.Bg N.Bc N.sb N.b3
  b4 : ¬ Out N.Bg N.Bc N.sb N.b4
  b5 : ¬ Out N.Bg N.Bc N.sb N.b5
  b6 : ¬ Out N.Bg N.Bc N.sb N.b6
  b7 : ¬ Out N.Bg N.Bc N.sb N.b7
  b8 : ¬ Out N.Bg N.Bc N.sb N.b8
  a : ¬ Out N.Bg N.Bc N.sb N.A
  ab : ∀ j, j < N.n → ¬ Out N.Bg N.Bc N.sb (ab j)
  c : ¬ Out N.Bg N.Bc N.sb N.C
  cb : ∀ j, j < N.n → ¬ Out N.Bg N.Bc N.sb (cb j)
  h : ¬ Out N.Bg N.Bc N.sb N.hbk
  bs : ¬ Out N.Bg N.Bc N.sb N.Bs
  bt : ¬ Out N.Bg N.Bc N.sb N.Bt
  gc : ¬ N.Bg = N.Bc
  gs : ¬ N.Bg = N.sb
  cs : ¬ N.Bc = N.sb
  adm : ∀ k, k < N.nr → (ru k).adm < 8 ∧ (ru k).role < 8
  nr : N.nr ≤ 256
  n : N.n ≤ 256
  m : N.m = (N.nr + 63) / 64
  st : N.stop ≤ 255

theorem Env.keep {W W' : World} {N : Nums} {ru : Nat → Ru} {cb : Nat → Nat} {vs : Nat → Int} {ab : Nat → Nat} (h : Env W N ru cb vs ab) (k : EnvOk N ru cb ab) (hf : Fr (Out N.Bg N.Bc N.sb) W W') : Env W' N ru cb vs ab where
  r2 := hf.cell k.s h.r2
  rule := fun j hj => (h.rule j hj).keep hf (k.r j hj).1 (k.r j hj).2.1 (k.r j hj).2.2
  rows := fun j hj => by obtain ⟨cs, t, e⟩ := h.rows j hj; exact ⟨cs, t, hf.heap (k.r j hj).1 e⟩
  c3 := hf.cell k.b3 h.c3
  c4 := hf.cell k.b4 h.c4
  c5 := hf.cell k.b5 h.c5
  c6 := hf.cell k.b6 h.c6
  c7 := hf.cell k.b7 h.c7
  c8 := hf.cell k.b8 h.c8
  row := fun j hj => hf.cell k.a (h.row j hj)
  sets := fun j hj => (h.sets j hj).keep hf (k.ab j hj)
  cls := h.cls.keep hf k.c k.cb
  held := h.held.keep hf k.h
  bs := hf.cell k.bs h.bs
  bt := hf.cell k.bt h.bt
end Go.Proofs.YbulkdbsgDoor
