/-
  THE WALK OF stream.ID.Compare (function 5) of seat b6630407a, and its three answers as contracts.
-/
import Derived.Test.Qxb6630407aRows
import Derived.WalkKit
import Derived.WalkSpells
import Derived.WalkLawsBesides
import Derived.Laws.StructEq
import Derived.RowKit3
namespace Go.Proofs.Qxb6630407a
open Go.RowKit

/-- What Compare answers. -/
def cmp (a b c d : Int) : Int := if a < c then -1 else if c < a then 1 else if b < d then -1 else if d < b then 1 else 0

set_option maxHeartbeats 400000 in
theorem cmp_any (a b c d : Int) (w : World) :
    Calls Try.prog 5 #[.agg #[.int .u64 a, .int .u64 b], .agg #[.int .u64 c, .int .u64 d]] w fun e w' =>
      e = .returned (.int .i64 (cmp a b c d)) ∧ ∃ c1 c2 : Array Value, w' = (w.alloc (.cells c1 24)).alloc (.cells c2 24) := by
  by_cases h1 : a < c
  · have hd : cmp a b c d = -1 := by unfold cmp; rw [if_pos h1]
    rw [hd]; clear hd
    go_enter Try.func5, Try.ntmps5
    go_wp2
    go_ret
    exact ⟨rfl, _, _, rfl⟩
  by_cases h2 : c < a
  · have hd : cmp a b c d = 1 := by unfold cmp; rw [if_neg h1, if_pos h2]
    rw [hd]; clear hd
    have hq : (a == c) = false := by simp; omega
    go_enter Try.func5, Try.ntmps5
    go_wp2
    go_ret
    exact ⟨rfl, _, _, rfl⟩
  obtain rfl : a = c := by omega
  by_cases h3 : b < d
  · have hd : cmp a b a d = -1 := by unfold cmp; rw [if_neg h1, if_neg h1, if_pos h3]
    rw [hd]; clear hd
    go_enter Try.func5, Try.ntmps5
    go_wp2
    go_ret
    exact ⟨rfl, _, _, rfl⟩
  by_cases h4 : d < b
  · have hd : cmp a b a d = 1 := by unfold cmp; rw [if_neg h1, if_neg h1, if_neg h3, if_pos h4]
    rw [hd]; clear hd
    have hq : (b == d) = false := by simp; omega
    go_enter Try.func5, Try.ntmps5
    go_wp2
    go_ret
    exact ⟨rfl, _, _, rfl⟩
  obtain rfl : b = d := by omega
  · have hd : cmp a b a b = 0 := by unfold cmp; rw [if_neg h1, if_neg h1, if_neg h3, if_neg h3]
    rw [hd]; clear hd
    go_enter Try.func5, Try.ntmps5
    go_wp2
    go_ret
    exact ⟨rfl, _, _, rfl⟩

theorem cmp_lt (a b c d : Int) (h : a < c ∨ (a = c ∧ b < d)) (w : World) :
    Calls Try.prog 5 #[.agg #[.int .u64 a, .int .u64 b], .agg #[.int .u64 c, .int .u64 d]] w fun e w' =>
      e = .returned (.int .i64 (-1)) ∧ ∃ c1 c2 : Array Value, w' = (w.alloc (.cells c1 24)).alloc (.cells c2 24) := by
  have hd : cmp a b c d = -1 := by
    unfold cmp
    by_cases h1 : a < c
    · rw [if_pos h1]
    · rw [if_neg h1, if_neg (by omega), if_pos (by omega)]
  have := cmp_any a b c d w
  rwa [hd] at this

theorem cmp_gt (a b c d : Int) (h : c < a ∨ (a = c ∧ d < b)) (w : World) :
    Calls Try.prog 5 #[.agg #[.int .u64 a, .int .u64 b], .agg #[.int .u64 c, .int .u64 d]] w fun e w' =>
      e = .returned (.int .i64 1) ∧ ∃ c1 c2 : Array Value, w' = (w.alloc (.cells c1 24)).alloc (.cells c2 24) := by
  have hd : cmp a b c d = 1 := by
    unfold cmp
    by_cases h1 : c < a
    · rw [if_neg (by omega), if_pos h1]
    · rw [if_neg (by omega), if_neg (by omega), if_neg (by omega), if_pos (by omega)]
  have := cmp_any a b c d w
  rwa [hd] at this

theorem cmp_eq (a b c d : Int) (h : a = c ∧ b = d) (w : World) :
    Calls Try.prog 5 #[.agg #[.int .u64 a, .int .u64 b], .agg #[.int .u64 c, .int .u64 d]] w fun e w' =>
      e = .returned (.int .i64 0) ∧ ∃ c1 c2 : Array Value, w' = (w.alloc (.cells c1 24)).alloc (.cells c2 24) := by
  have hd : cmp a b c d = 0 := by
    unfold cmp
    rw [if_neg (by omega), if_neg (by omega), if_neg (by omega), if_neg (by omega)]
  have := cmp_any a b c d w
  rwa [hd] at this

end Go.Proofs.Qxb6630407a
