/-
  THE WALK of the law.
-/
import Derived.Test.YbulkdbsgDoorLawF
import Derived.Test.YbulkdbsgDoorLawT
namespace Go.Proofs.YbulkdbsgDoor
open Go.RowKit

theorem walk (a0 a1 : Option Addr) (nr c0 n c1 fixed stop : Nat) (hf : Bool) (w : World) (xb xo yb yo : Nat) (x : Nat → InR) (v : Nat → Nat) (ha0 : 0 < nr → a0 = some ⟨xb, xo, none⟩) (ha1 : 0 < n → a1 = some ⟨yb, yo, none⟩)
    (hR : RIn w xb xo nr x) (hV : ∀ j, j < n → w.cell? ⟨yb, yo + j, none⟩ = some (.int .u8 (v j)) ∧ v j ≤ 255) (hT : ∀ j, j < 64 → w.cell? ⟨1, j, none⟩ = some (.int .u8 (tab.getD j 0 : Nat))) (hfx : fixed ≤ 255) (hst : stop ≤ 255) :
    Calls Ybad.prog 3 #[.slice a0 nr c0, .slice a1 n c1, .int .u8 fixed, .bool hf, .int .u8 stop] w fun e w' => e = .returned (.bool true) ∧ Below w.heap.size w w' := by
  cases hf with
  | false => exact walkF a0 a1 nr c0 n c1 fixed stop false rfl w xb xo yb yo x v ha0 ha1 hR hV hT hfx hst
  | true => exact walkT a0 a1 nr c0 n c1 fixed stop true rfl w xb xo yb yo x v ha0 ha1 hR hV hT hfx hst
end Go.Proofs.YbulkdbsgDoor
