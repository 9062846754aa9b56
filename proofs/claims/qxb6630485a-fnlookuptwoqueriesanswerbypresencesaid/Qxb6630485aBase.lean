/-
  SEAT b6630485a: what is known of a slice of entries, and the walks of the functions that only read it.
-/
import Derived.Test.Qxb6630485aRows
import Derived.WalkKit
import Derived.WalkSpells
import Derived.WalkLawsBesides
import Derived.RowKit3
import Derived.Below
import Derived.BigQuiet
import Derived.Deep.QuietTactic
namespace Go.Proofs.Qxb6630485a
open Go.RowKit

/-- One entry. -/
structure Ent where
  id : ByteArray
  name : ByteArray
  cls : Int
  tok : ByteArray

def Ent.zero : Ent := ⟨ByteArray.empty, ByteArray.empty, 0, ByteArray.empty⟩

/-- Entry i of the list. -/
def ent (es : List Ent) (i : Nat) : Ent := es.getD i Ent.zero

/-- The entries lie behind the address ao in the world w (of an empty list nothing is said). -/
def Lies (w : World) (ao : Option Addr) (es : List Ent) : Prop :=
  0 < es.length → ∃ b off, ao = some ⟨b, off, none⟩ ∧ b < w.heap.size ∧ ∀ i, i < es.length →
    w.cell? ⟨b, off + i * 4, none⟩ = some (.string (ent es i).id) ∧ w.cell? ⟨b, off + i * 4 + 1, none⟩ = some (.string (ent es i).name) ∧
    w.cell? ⟨b, off + i * 4 + 2, none⟩ = some (.int .i64 (ent es i).cls) ∧ w.cell? ⟨b, off + i * 4 + 3, none⟩ = some (.string (ent es i).tok)

theorem Lies.below {w w' : World} {ao : Option Addr} {es : List Ent} (h : Lies w ao es) (hb : Below w.heap.size w w') : Lies w' ao es := by
  intro hp
  obtain ⟨b, off, hao, hlt, hc⟩ := h hp
  exact ⟨b, off, hao, Nat.lt_of_lt_of_le hlt hb.size, fun i hi => by
    obtain ⟨h0, h1, h2, h3⟩ := hc i hi
    exact ⟨(hb.cell (p := ⟨b, _, none⟩) hlt).trans h0, (hb.cell (p := ⟨b, _, none⟩) hlt).trans h1, (hb.cell (p := ⟨b, _, none⟩) hlt).trans h2, (hb.cell (p := ⟨b, _, none⟩) hlt).trans h3⟩⟩

/-- The address of entry k: an equation that the walk takes, and the cells that lie there. -/
theorem Lies.at {w : World} {ao : Option Addr} {es : List Ent} (h : Lies w ao es) (cap k : Nat) (hk : k < es.length) :
    ∃ b off, b < w.heap.size ∧ (∀ w', (Instr.indexAt 22 (.slice ao es.length cap) (.int .i64 (k : Int))).run Try.prog w' = .ok (.pointer (some ⟨b, off, none⟩)) w') ∧
      w.cell? ⟨b, off, none⟩ = some (.string (ent es k).id) ∧ w.cell? ⟨b, off + 1, none⟩ = some (.string (ent es k).name) ∧
      w.cell? ⟨b, off + 2, none⟩ = some (.int .i64 (ent es k).cls) ∧ w.cell? ⟨b, off + 3, none⟩ = some (.string (ent es k).tok) := by
  obtain ⟨b, off, rfl, hlt, hc⟩ := h (by omega)
  refine ⟨b, off + k * 4, hlt, fun w' => ?_, hc k hk⟩
  have h0 : (k : Int) < (es.length : Int) := by omega
  go_simp

/-- .. where what they hold is of no concern. -/
theorem Lies.some {w : World} {ao : Option Addr} {es : List Ent} (h : Lies w ao es) (cap k : Nat) (hk : k < es.length) :
    ∃ (b off : Nat) (s0 s1 : ByteArray) (c2 : Int) (s3 : ByteArray), (∀ w', (Instr.indexAt 22 (.slice ao es.length cap) (.int .i64 (k : Int))).run Try.prog w' = .ok (.pointer (some ⟨b, off, none⟩)) w') ∧
      w.cell? ⟨b, off, none⟩ = some (.string s0) ∧ w.cell? ⟨b, off + 1, none⟩ = some (.string s1) ∧
      w.cell? ⟨b, off + 2, none⟩ = some (.int .i64 c2) ∧ w.cell? ⟨b, off + 3, none⟩ = some (.string s3) := by
  obtain ⟨b, off, _, h1, h2⟩ := h.at cap k hk
  exact ⟨b, off, _, _, _, _, h1, h2⟩

/-- It returns some small int. -/
def RetSmall (e : Ending) : Prop := ∃ r : Int, 0 ≤ r ∧ r ≤ 4194304 ∧ e = .returned (.int .i64 r)
theorem retSmall {r : Int} (h0 : 0 ≤ r) (h1 : r ≤ 4194304) : RetSmall (.returned (.int .i64 r)) := ⟨r, h0, h1, rfl⟩

set_option maxHeartbeats 1000000 in
set_option maxRecDepth 100000 in
theorem entryBytes_any (ao : Option Addr) (cap : Nat) (es : List Ent) (w : World) (hL : Lies w ao es) (hn : es.length ≤ 9223372036854775807) :
    Calls Try.prog 6 #[.slice ao es.length cap] w fun e w' => RetSmall e ∧ w' = w := by
  go_enter Try.func6, Try.ntmps6
  go_wp2
  go_loop [3, 4] (fun z i => ∃ (k : Nat) (n : Int), k ≤ es.length ∧ i = .int .i64 k ∧ z = .int .i64 n ∧ 0 ≤ n ∧ n ≤ 1048576) (fun _ i => es.length - (intOf i).toNat)
  case atStart => exact ⟨0, 0, Nat.zero_le _, rfl, rfl, by omega, by omega⟩
  case round =>
    obtain ⟨k, n, hk, rfl, rfl, hn0, hn1⟩ := hrel
    by_cases hlt : k < es.length
    · obtain ⟨b, off, s0, s1, c2, s3, hix, h0, h1, h2, h3⟩ := hL.some cap k hlt
      clear hL
      go_wp2_with fail
      iterate 7
        · go_ret
          exact ⟨retSmall (by omega) (by omega), rfl⟩
      · go_round
        case rel => exact ⟨k + 1, _, by omega, by go_num, rfl, by omega, by omega⟩
        case measure => simp [intOf]; omega
    · go_wp2
      go_ret
      exact ⟨retSmall (by omega) (by omega), rfl⟩


/-- It returns some bool. -/
def RetBool (e : Ending) : Prop := ∃ r : Bool, e = .returned (.bool r)
theorem retBool (r : Bool) : RetBool (.returned (.bool r)) := ⟨r, rfl⟩

set_option maxHeartbeats 1000000 in
set_option maxRecDepth 100000 in
/-- zzBytes of the first law. -/
theorem bytes5_any (ao : Option Addr) (cap : Nat) (es : List Ent) (w : World) (hL : Lies w ao es) (hn : es.length ≤ 9223372036854775807) :
    Calls Try.prog 5 #[.slice ao es.length cap] w fun e w' => RetBool e ∧ w' = w := by
  go_enter Try.func5, Try.ntmps5
  go_wp2
  · go_ret
    exact ⟨retBool _, rfl⟩
  go_loop [3, 4] (fun z i => ∃ (k : Nat) (n : Int), k ≤ es.length ∧ i = .int .i64 k ∧ z = .int .i64 n ∧ 0 ≤ n ∧ n ≤ 1048576) (fun _ i => es.length - (intOf i).toNat)
  case atStart => exact ⟨0, es.length, Nat.zero_le _, rfl, rfl, by omega, by omega⟩
  case round =>
    obtain ⟨k, n, hk, rfl, rfl, hn0, hn1⟩ := hrel
    by_cases hlt : k < es.length
    · obtain ⟨b, off, s0, s1, c2, s3, hix, h0, h1, h2, h3⟩ := hL.some cap k hlt
      clear hL
      go_wp2_with fail
      iterate 6
        · go_ret
          exact ⟨retBool _, rfl⟩
      · go_round
        case rel => exact ⟨k + 1, _, by omega, by go_num, rfl, by omega, by omega⟩
        case measure => simp [intOf]; omega
    · go_wp2
      go_ret
      exact ⟨retBool _, rfl⟩

set_option maxHeartbeats 1000000 in
set_option maxRecDepth 100000 in
/-- zzBytes of the second law. -/
theorem bytes11_any (ao : Option Addr) (cap : Nat) (es : List Ent) (a b : ByteArray) (w : World) (hL : Lies w ao es) (hn : es.length ≤ 9223372036854775807) (ha : a.size ≤ 9223372036854775807) (hb : b.size ≤ 9223372036854775807) :
    Calls Try.prog 11 #[.slice ao es.length cap, .string a, .string b] w fun e w' => RetBool e ∧ w' = w := by
  go_enter Try.func11, Try.ntmps11
  go_wp2
  · go_ret
    exact ⟨retBool _, rfl⟩
  go_loop [7, 8] (fun z i => ∃ (k : Nat) (n : Int), k ≤ es.length ∧ i = .int .i64 k ∧ z = .int .i64 n ∧ 0 ≤ n ∧ n ≤ 1048576) (fun _ i => es.length - (intOf i).toNat)
  case atStart => exact ⟨0, es.length, Nat.zero_le _, rfl, rfl, by omega, by omega⟩
  case round =>
    obtain ⟨k, n, hk, rfl, rfl, hn0, hn1⟩ := hrel
    by_cases hlt : k < es.length
    · obtain ⟨b, off, s0, s1, c2, s3, hix, h0, h1, h2, h3⟩ := hL.some cap k hlt
      clear hL
      go_wp2_with fail
      iterate 6
        · go_ret
          exact ⟨retBool _, rfl⟩
      · go_round
        case rel => exact ⟨k + 1, _, by omega, by go_num, rfl, by omega, by omega⟩
        case measure => simp [intOf]; omega
    · go_wp2
      all_goals
        go_ret
        exact ⟨retBool _, rfl⟩

end Go.Proofs.Qxb6630485a
