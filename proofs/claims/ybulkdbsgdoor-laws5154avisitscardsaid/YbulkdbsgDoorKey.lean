/-
  CONTRACTS of AppendUint64, AppendKey.
-/
import Derived.Test.YbulkdbsgDoorHeld
import Derived.ArgAppend
namespace Go.Proofs.YbulkdbsgDoor
open Go.RowKit
set_option linter.unusedVariables false

theorem info5 : (Ybad.prog.info? 5).map (fun i => (i.zero, i.size, i.bytes)) = some (some (.int .u8 0), 1, 1) := by kernel_rfl

/-- The key's cells. -/
def keyc (v : Int) : List Value := [.int .u8 v, .int .u8 0, .int .u8 0, .int .u8 0, .int .u8 0, .int .u8 0, .int .u8 0, .int .u8 0]

set_option maxHeartbeats 2000000 in
theorem u64_any (bv : Value) (v : Int) (hv : 0 ≤ v ∧ v ≤ 255) (base : Nat) (w : World) (hown : w.ownsRow base 5 1 bv 0 []) (hbase : base ≤ w.heap.size) :
    Calls Ybad.prog 20 #[.agg #[], bv, .int .u64 v] w fun e w' => ∃ v', e = .returned v' ∧ w'.ownsRow base 5 1 v' 8 (keyc v) ∧ Fr (fun k => bv.ownBlock = some k) w w' := by
  obtain ⟨i5, hi5, hx0, hx1, hx2⟩ := info_parts info5
  obtain ⟨v1, v2⟩ := hv
  have e1 : v / 256 = 0 := by omega
  have e2 : v / 65536 = 0 := by omega
  have e3 : v / 16777216 = 0 := by omega
  have e4 : v / 4294967296 = 0 := by omega
  have e5 : v / 1099511627776 = 0 := by omega
  have e6 : v / 281474976710656 = 0 := by omega
  have e7 : v / 72057594037927936 = 0 := by omega
  go_enter Ybad.func20, Ybad.ntmps20
  have hnews : ∀ (o : Obj) (j : Nat) (u : Value), (keyc v)[j]? = some u → ((w.alloc o).alloc (.cells #[.int .u8 v, .int .u8 0, .int .u8 0, .int .u8 0, .int .u8 0, .int .u8 0, .int .u8 0, .int .u8 0] 5)).cell? ((⟨w.heap.size + 1, 0, none⟩ : Addr).add j) = some u := fun o j u hj => by
    have hb : ((w.alloc o).alloc (.cells #[.int .u8 v, .int .u8 0, .int .u8 0, .int .u8 0, .int .u8 0, .int .u8 0, .int .u8 0, .int .u8 0] 5)).heap[w.heap.size + 1]? = some (.cells #[.int .u8 v, .int .u8 0, .int .u8 0, .int .u8 0, .int .u8 0, .int .u8 0, .int .u8 0, .int .u8 0] 5) := by
      have := heap_alloc_new (w.alloc o) (.cells #[.int .u8 v, .int .u8 0, .int .u8 0, .int .u8 0, .int .u8 0, .int .u8 0, .int .u8 0, .int .u8 0] 5)
      rwa [World.size_alloc] at this
    rw [Addr.add_lit, Nat.zero_add, cells_of_block hb]
    simpa [keyc] using hj
  have hone : ∀ u ∈ keyc v, u.oneCell' = true := fun u hu => by
    simp only [keyc, List.mem_cons, List.not_mem_nil, or_false] at hu
    rcases hu with rfl | rfl | rfl | rfl | rfl | rfl | rfl | rfl <;> rfl
  have HN : Hid _ := hnews
  clear hnews
  go_wp2_with (at_builtin; go_must (refine wpList_append_own _ rfl (.tmp 7) (.tmp 31) 23 rfl base 5 i5 _ 1 1 Ybad.underlying23 hi5 hx0 hx1 hx2 rfl (by omega) bv 0 [] rfl ((hown.alloc _).alloc _) ⟨w.heap.size + 1, 0, none⟩ 8 8 (keyc v) rfl rfl (HN.out _) hone (by unfold maxLen; omega) (by omega) (by simp; omega) ?_); intro v' w1 ho hg _)
  go_ret
  exact ⟨_, rfl, ho, (((Fr.refl _ w).alloc _).alloc _).grown hg (fun k h _ => h)⟩

set_option maxHeartbeats 2000000 in
theorem key_any (sb : Nat) (bv : Value) (v : Int) (hv : 0 ≤ v ∧ v ≤ 255) (base : Nat) (w : World) (hs : SetAt w sb [v]) (hown : w.ownsRow base 5 1 bv 0 []) (hbase : base ≤ w.heap.size) :
    Calls Ybad.prog 14 #[setV sb 1, bv] w fun e w' => ∃ v', e = .returned v' ∧ w'.ownsRow base 5 1 v' 8 (keyc v) ∧ Fr (fun k => bv.ownBlock = some k) w w' := by
  have c := hs.one
  have hu := u64_any bv v hv base w hown hbase
  unfold setV
  go_enter Ybad.func14, Ybad.ntmps14
  go_wp2
  refine wp_loop_rounds 2 ?_
  rw [rounds_succ]
  go_wp2_with (go_at_call 20; go_must (refine hu.mono ?_; rintro e w1 ⟨v', he, ho, hf⟩; rw [he]; clear he e))
  rw [rounds_succ]; go_wp2
  go_ret
  exact ⟨_, rfl, ho, hf⟩
end Go.Proofs.YbulkdbsgDoor
