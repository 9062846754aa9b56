/-
  THE WALK OF subBorrow (function 6) of seat b6630407a.
-/
import Derived.Test.Qxb6630407aRows
import Derived.Test.Qxb6630407aBits
import Derived.WalkKit
import Derived.WalkSpells
import Derived.WalkLawsBesides
import Derived.RowKit3
namespace Go.Proofs.Qxb6630407a
open Go.RowKit

set_option maxHeartbeats 400000 in
theorem sub_any (x y b : Int) (hx : 0 ≤ x) (hx' : x ≤ 18446744073709551615) (hy : 0 ≤ y) (hy' : y ≤ 18446744073709551615) (hb : 0 ≤ b) (hb' : b ≤ 1) (w : World) :
    Calls Try.prog 6 #[.int .u64 x, .int .u64 y, .int .u64 b] w fun e w' =>
      e = .returned (.tuple #[.int .u64 ((x - y - b) % 18446744073709551616), .int .u64 (bor x y b)]) ∧ w' = w := by
  have e1 := diff_eq x y b
  have e2 := borrow_int x y b hx hx' hy hy' hb hb'
  rw [← e1, ← e2]
  clear e1 e2
  have hsg : ¬ IntKind.u64.signed = true := by decide
  go_enter Try.func6, Try.ntmps6
  go_wp2
  go_ret2
  exact ⟨rfl, rfl⟩

end Go.Proofs.Qxb6630407a
