/-
  CONTRACT of TrailingZeros64.
-/
import Derived.Test.YbulkdbsgDoorKey
import Derived.Test.YbulkdbsgDoorBits
import Derived.Laws.BitsAllLaws
namespace Go.Proofs.YbulkdbsgDoor
open Go.RowKit
set_option linter.unusedVariables false

def tab : List Nat := [0, 1, 56, 2, 57, 49, 28, 3, 61, 58, 42, 50, 38, 29, 17, 4, 62, 47, 59, 36, 45, 43, 51, 22, 53, 39, 33, 30, 24, 18, 12, 5, 63, 55, 48, 27, 60, 41, 37, 16, 46, 35, 44, 21, 52, 32, 23, 11, 54, 26, 40, 15, 34, 20, 31, 10, 25, 14, 19, 9, 13, 8, 7, 6]

theorem tab_at : ∀ p, p < 64 → tab.getD (2 ^ p * 285870213051353865 % 18446744073709551616 / 288230376151711744) 0 = p := by decide

set_option maxHeartbeats 1000000 in
theorem tz_any (p m : Nat) (hp : p < 64) (h : 2 ^ p * (2 * m + 1) < 18446744073709551616) (w : World) (hT : ∀ j, j < 64 → w.cell? ⟨1, j, none⟩ = some (.int .u8 (tab.getD j 0 : Nat))) :
    Calls Ybad.prog 17 #[.int .u64 (2 ^ p * (2 * m + 1) : Nat)] w fun e w' => e = .returned (.int .i64 p) ∧ w' = w := by
  have hb := low_bit p m hp h
  have hpos : 0 < 2 ^ p * (2 * m + 1) := Nat.mul_pos (Nat.two_pow_pos p) (by omega)
  have ht := tab_at p hp
  generalize 2 ^ p * (2 * m + 1) = x at h hb hpos ⊢
  have hx0 : ((x : Int) == 0) = false := by simp; omega
  have hneg : IntKind.u64.wrap (-(x : Int)) = ((18446744073709551616 - x : Nat) : Int) := by rw [IntKind.wrap_u64]; omega
  have hand : bits BinOp.and IntKind.u64 (x : Int) (IntKind.u64.wrap (-(x : Int))) = ((2 ^ p : Nat) : Int) := by
    rw [hneg, u64_and_nat x _ h (by omega), ← hb]
  obtain ⟨q, hq⟩ : ∃ q, q = 2 ^ p * 285870213051353865 % 18446744073709551616 / 288230376151711744 := ⟨_, rfl⟩
  have hq64 : q < 64 := by omega
  have heq : IntKind.u64.wrap (bits BinOp.and IntKind.u64 (x : Int) (IntKind.u64.wrap (-(x : Int))) * 285870213051353865) / 288230376151711744 = (q : Int) := by
    rw [hand, IntKind.wrap_u64, hq]
    clear hand hq hb ht hneg
    generalize 2 ^ p = t
    omega
  rw [← hq] at ht
  have hc := hT q hq64
  rw [ht] at hc
  have hqI : (q : Int) < 64 := by omega
  clear hT ht hq hb hand hneg
  go_enter Ybad.func17, Ybad.ntmps17
  go_wp2
  go_ret
  exact ⟨rfl, rfl⟩
end Go.Proofs.YbulkdbsgDoor
