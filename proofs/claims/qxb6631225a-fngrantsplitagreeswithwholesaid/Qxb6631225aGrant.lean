/-
  SEAT b6631225a: the walks of ZZNewCredit (5), Credit.Grant (6) at a credit that the law itself has made, ZZCreditN (7).
-/
import Derived.Test.Qxb6631225aRows
import Derived.WalkKit
import Derived.WalkSpells
import Derived.WalkLawsBesides
import Derived.RowKit3
namespace Go.Proofs.Qxb6631225a
open Go.RowKit

theorem new_any (n : Int) (w : World) :
    Calls Try.prog 5 #[.int .i64 n] w fun e w' => e = .returned (.pointer (some ⟨w.heap.size, 0, none⟩)) ∧ w' = w.alloc (.cells #[.int .i64 n] 29) := by
  go_enter Try.func5, Try.ntmps5
  go_wp2
  go_ret
  exact ⟨rfl, rfl⟩

set_option maxHeartbeats 400000 in
/-- Grant within the headroom. -/
theorem grant_yes (q : Nat) (n a : Int) (w : World) (hq : q = w.heap.size) (h0 : 0 ≤ n) (h1 : 0 ≤ a) (h2 : n + a ≤ 2147483648) :
    Calls Try.prog 6 #[.pointer (some ⟨q, 0, none⟩), .int .u64 a] (w.alloc (.cells #[.int .i64 n] 29)) fun e w' => e = .returned (.bool true) ∧ w' = w.alloc (.cells #[.int .i64 (n + a)] 29) := by
  subst hq
  go_enter Try.func6, Try.ntmps6
  go_wp2
  go_ret
  exact ⟨rfl, rfl⟩

set_option maxHeartbeats 400000 in
/-- Grant beyond it. -/
theorem grant_no (q : Nat) (n a : Int) (w : World) (hq : q = w.heap.size) (h0 : 0 ≤ n) (h0' : n ≤ 2147483648) (h1 : 0 ≤ a) (h1' : a ≤ 18446744073709551615) (h2 : 2147483648 < n + a) :
    Calls Try.prog 6 #[.pointer (some ⟨q, 0, none⟩), .int .u64 a] (w.alloc (.cells #[.int .i64 n] 29)) fun e w' => e = .returned (.bool false) ∧ w' = w.alloc (.cells #[.int .i64 2147483648] 29) := by
  subst hq
  by_cases hb : 2147483648 < a
  · go_enter Try.func6, Try.ntmps6
    go_wp2
    go_ret
    exact ⟨rfl, rfl⟩
  · go_enter Try.func6, Try.ntmps6
    go_wp2
    go_ret
    exact ⟨rfl, rfl⟩

theorem credit_any (q : Nat) (n : Int) (w : World) (hc : w.cell? ⟨q, 0, none⟩ = some (.int .i64 n)) :
    Calls Try.prog 7 #[.pointer (some ⟨q, 0, none⟩)] w fun e w' => e = .returned (.int .i64 n) ∧ w' = w := by
  go_enter Try.func7, Try.ntmps7
  go_wp2
  go_ret
  exact ⟨rfl, rfl⟩

end Go.Proofs.Qxb6631225a
