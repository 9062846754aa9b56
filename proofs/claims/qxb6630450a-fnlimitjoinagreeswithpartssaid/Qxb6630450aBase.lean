/-
  SEAT b6630450a: what is known of a slice of strings, and the laws that all walks share.
-/
import Derived.Test.Qxb6630450aRows
import Derived.WalkKit
import Derived.WalkSpells
import Derived.WalkLawsBesides
import Derived.RowKit3
import Derived.Below
import Derived.BigQuiet
import Derived.Deep.QuietTactic
namespace Go.Proofs.Qxb6630450a
open Go.RowKit

/-- The strings xs lie behind the address ao in the world w (of an empty list nothing is said). -/
def Lies (w : World) (ao : Option Addr) (xs : List ByteArray) : Prop :=
  0 < xs.length → ∃ b off, ao = some ⟨b, off, none⟩ ∧ b < w.heap.size ∧ ∀ i, i < xs.length → w.cell? ⟨b, off + i, none⟩ = some (.string (xs.getD i ByteArray.empty))

theorem Lies.below {w w' : World} {ao : Option Addr} {xs : List ByteArray} (h : Lies w ao xs) (hb : Below w.heap.size w w') : Lies w' ao xs := by
  intro hp
  obtain ⟨b, off, hao, hlt, hc⟩ := h hp
  exact ⟨b, off, hao, Nat.lt_of_lt_of_le hlt hb.size, fun i hi => (hb.cell (p := ⟨b, off + i, none⟩) hlt).trans (hc i hi)⟩

/-- The address of element k: an equation that the walk takes, and the cell that lies there. -/
theorem Lies.at {w : World} {ao : Option Addr} {xs : List ByteArray} (h : Lies w ao xs) (cap k : Nat) (hk : k < xs.length) :
    ∃ b off, b < w.heap.size ∧ (∀ w', (Instr.indexAt 22 (.slice ao xs.length cap) (.int .i64 (k : Int))).run Try.prog w' = .ok (.pointer (some ⟨b, off + k, none⟩)) w') ∧
      w.cell? ⟨b, off + k, none⟩ = some (.string (xs.getD k ByteArray.empty)) := by
  obtain ⟨b, off, rfl, hlt, hc⟩ := h (by omega)
  refine ⟨b, off, hlt, fun w' => ?_, hc k hk⟩
  have h0 : (k : Int) < (xs.length : Int) := by omega
  go_simp

theorem take_snoc (xs : List ByteArray) (k : Nat) (h : k < xs.length) : xs.take (k + 1) = xs.take k ++ [xs[k]] := List.take_succ_eq_append_getElem h

/-- Is it the text TRACE? -/
def isTr (s : ByteArray) : Bool := s.toList == [84, 82, 65, 67, 69]

theorem any_yes {xs : List ByteArray} {k : Nat} (h : k < xs.length) (hs : (xs[k].toList == [84, 82, 65, 67, 69]) = true) : xs.any isTr = true :=
  List.any_eq_true.2 ⟨xs[k], List.getElem_mem h, hs⟩
theorem any_step {xs : List ByteArray} {k : Nat} (h : k < xs.length) (hs : (xs[k].toList == [84, 82, 65, 67, 69]) = false) (hn : (xs.take k).any isTr = false) : (xs.take (k + 1)).any isTr = false := by
  rw [take_snoc xs k h, List.any_append, hn, Bool.false_or, List.any_cons, List.any_nil, Bool.or_false]
  exact hs

theorem ret_bool {a b : Bool} (h : a = b) : Ending.returned (.bool a) = .returned (.bool b) := by rw [h]

set_option maxHeartbeats 400000 in
/-- zzb1NamesTRACE. -/
theorem names_any (ao : Option Addr) (cap : Nat) (xs : List ByteArray) (w : World) (hL : Lies w ao xs) (hn : xs.length ≤ 140737488351232) :
    Calls Try.prog 9 #[.slice ao xs.length cap] w fun e w' => e = .returned (.bool (xs.any isTr)) ∧ w' = w := by
  go_enter Try.func9, Try.ntmps9
  go_wp2
  go_loop [3] (fun i => ∃ k : Nat, k ≤ xs.length ∧ i = .int .i64 k ∧ (xs.take k).any isTr = false) (fun i => xs.length - (intOf i).toNat)
  case atStart => exact ⟨0, Nat.zero_le _, rfl, by simp⟩
  case round =>
    obtain ⟨k, hk, rfl, hno⟩ := hrel
    have HN : Hid ((xs.take k).any isTr = false) := hno
    clear hno
    by_cases hlt : k < xs.length
    · obtain ⟨b, off, hb, hix, hc⟩ := hL.at cap k hlt
      clear hL
      go_wp2
      · have hs : (xs[k].toList == [84, 82, 65, 67, 69]) = true := by assumption
        go_ret
        exact ⟨ret_bool (any_yes hlt hs).symm, rfl⟩
      · have hs : (xs[k].toList == [84, 82, 65, 67, 69]) = false := by assumption
        go_round
        case rel => exact ⟨k + 1, by omega, by go_num, any_step hlt hs HN.out⟩
        case measure => simp [intOf]; omega
    · go_wp2
      go_ret
      refine ⟨ret_bool ?_, rfl⟩
      have := HN.out
      rw [List.take_of_length_le (by omega)] at this
      exact this.symm

/-! ### the small readers of a Methods, and zzb1Zero -/
theorem lim_any (l e : Bool) (ao : Option Addr) (n cap : Nat) (w : World) :
    Calls Try.prog 10 #[.agg #[.bool l, .bool e, .slice ao n cap]] w fun r w' => r = .returned (.bool l) ∧ ∃ c : Array Value, w' = w.alloc (.cells c 26) := by
  go_enter Try.func10, Try.ntmps10
  go_wp2
  go_ret
  exact ⟨rfl, _, rfl⟩
theorem exc_any (l e : Bool) (ao : Option Addr) (n cap : Nat) (w : World) :
    Calls Try.prog 11 #[.agg #[.bool l, .bool e, .slice ao n cap]] w fun r w' => r = .returned (.bool e) ∧ ∃ c : Array Value, w' = w.alloc (.cells c 26) := by
  go_enter Try.func11, Try.ntmps11
  go_wp2
  go_ret
  exact ⟨rfl, _, rfl⟩
theorem nam_any (l e : Bool) (ao : Option Addr) (n cap : Nat) (w : World) :
    Calls Try.prog 12 #[.agg #[.bool l, .bool e, .slice ao n cap]] w fun r w' => r = .returned (.slice ao n cap) ∧ ∃ c : Array Value, w' = w.alloc (.cells c 26) := by
  go_enter Try.func12, Try.ntmps12
  go_wp2
  go_ret
  exact ⟨rfl, _, rfl⟩

set_option maxHeartbeats 400000 in
/-- zzb1Zero at the zero Methods. -/
theorem zero_yes (w : World) :
    Calls Try.prog 8 #[.agg #[.bool false, .bool false, .slice none 0 0]] w fun r w' => r = .returned (.bool true) ∧ Below w.heap.size w w' := by
  have he := fun w => Lib.run_eql_slice_nil (P := Try.prog) w 22 9 none 0 0 0 0 Try.underlying22
  go_enter Try.func8, Try.ntmps8
  go_wp2
  go_ret
  refine ⟨rfl, ?_⟩
  repeat (first | exact Below.refl _ _ | (refine Below.alloc ?_ (by simp <;> omega) _))

/-- errors.New -/
theorem new_any (s : ByteArray) (w : World) :
    Calls Try.prog 15 #[.string s] w fun r w' => r = .returned (.iface 37 (.pointer (some ⟨w.heap.size, 0, none⟩))) ∧ ∃ c : Array Value, w' = w.alloc (.cells c 39) := by
  go_enter Try.func15, Try.ntmps15
  go_wp2
  go_ret
  exact ⟨rfl, _, rfl⟩


set_option maxHeartbeats 400000 in
/-- Limit refuses. -/
theorem limit_yes (ao : Option Addr) (cap : Nat) (xs : List ByteArray) (ex : Bool) (w : World) (hL : Lies w ao xs) (hn : xs.length ≤ 140737488351232) (hy : xs.any isTr = true) :
    Calls Try.prog 7 #[.slice ao xs.length cap, .bool ex] w fun r w' => (∃ a, r = .returned (.tuple #[.agg #[.bool false, .bool false, .slice none 0 0], .iface 37 (.pointer (some a))])) ∧ Below w.heap.size w w' := by
  have HY : Hid (xs.any isTr = true) := hy
  clear hy
  go_enter Try.func7, Try.ntmps7
  go_wp2
  go_loop [10] (fun i => ∃ k : Nat, k ≤ xs.length ∧ i = .int .i64 k ∧ (xs.take k).any isTr = false) (fun i => xs.length - (intOf i).toNat)
  case atStart => exact ⟨0, Nat.zero_le _, rfl, by simp⟩
  case round =>
    obtain ⟨k, hk, rfl, hno⟩ := hrel
    have HN : Hid ((xs.take k).any isTr = false) := hno
    clear hno
    by_cases hlt : k < xs.length
    · obtain ⟨b, off, hb, hix, hc⟩ := hL.at cap k hlt
      clear hL
      go_wp2_with (go_at_call 15; refine (new_any _ _).mono ?_; rintro e w1 ⟨rfl, c1, rfl⟩)
      · refine bodyPost_ret (v := .tuple #[.agg #[.bool false, .bool false, .slice none 0 0], .iface 37 (.pointer (some ⟨w.heap.size + 1, 0, none⟩))]) (by simp [results, Try.results7, go_sem]) rfl ⟨⟨_, rfl⟩, ?_⟩
        repeat (first | exact Below.refl _ _ | (refine Below.alloc ?_ (by simp <;> omega) _))
      · have hs : (xs[k].toList == [84, 82, 65, 67, 69]) = false := by assumption
        go_round
        case rel => exact ⟨k + 1, by omega, by go_num, any_step hlt hs HN.out⟩
        case measure => simp [intOf]; omega
    · have := HN.out
      rw [List.take_of_length_le (by omega), HY.out] at this
      cases this


set_option maxHeartbeats 400000 in
/-- Limit accepts. -/
theorem limit_no (ao : Option Addr) (cap : Nat) (xs : List ByteArray) (ex : Bool) (w : World) (hL : Lies w ao xs) (hn : xs.length ≤ 140737488351232) (hy : xs.any isTr = false) :
    Calls Try.prog 7 #[.slice ao xs.length cap, .bool ex] w fun r w' => r = .returned (.tuple #[.agg #[.bool true, .bool ex, .slice ao xs.length cap], .nilIface]) ∧ Below w.heap.size w w' := by
  have HY : Hid (xs.any isTr = false) := hy
  clear hy
  go_enter Try.func7, Try.ntmps7
  go_wp2
  go_loop [10] (fun i => ∃ k : Nat, k ≤ xs.length ∧ i = .int .i64 k) (fun i => xs.length - (intOf i).toNat)
  case atStart => exact ⟨0, Nat.zero_le _, rfl⟩
  case round =>
    obtain ⟨k, hk, rfl⟩ := hrel
    by_cases hlt : k < xs.length
    · obtain ⟨b, off, hb, hix, hc⟩ := hL.at cap k hlt
      clear hL
      have hs : (xs[k].toList == [84, 82, 65, 67, 69]) = false := by
        cases h : (xs[k].toList == [84, 82, 65, 67, 69])
        · rfl
        · have := any_yes hlt h
          rw [HY.out] at this
          cases this
      go_wp2
      go_round
      case rel => exact ⟨k + 1, by omega, by go_num⟩
      case measure => simp [intOf]; omega
    · go_wp2
      refine bodyPost_ret (v := .tuple #[.agg #[.bool true, .bool ex, .slice ao xs.length cap], .nilIface]) (by simp [results, Try.results7, go_sem]) rfl ⟨rfl, ?_⟩
      repeat (first | exact Below.refl _ _ | (refine Below.alloc ?_ (by simp <;> omega) _))

end Go.Proofs.Qxb6630450a
