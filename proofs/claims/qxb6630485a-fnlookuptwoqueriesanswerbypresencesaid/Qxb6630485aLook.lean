/-
  SEAT b6630485a: zzIndexOf, ZZnewCatalogue, Lookup, zzSame.
-/
import Derived.Test.Qxb6630485aBase
import Derived.Maps.Own
import Derived.Maps.OwnOps
import Derived.Maps.OwnSet
namespace Go.Proofs.Qxb6630485a
open Go.RowKit Go.WideMaps Go.Maps

theorem law : Keyed Try.prog 9 := string_keyed Try.underlying9
theorem zeroE (w : World) : (zeroValue 3).run Try.prog w = .ok (.int .i64 0) w := by kernel_rfl

/-- The key of a text. -/
def key (s : ByteArray) : Lit := .string s.data.toList

theorem data_inj {a b : ByteArray} (h : a.data.toList = b.data.toList) : a = b := by
  cases a; cases b
  simp at h
  simp [h]
theorem key_inj {a b : ByteArray} (h : key a = key b) : a = b := data_inj (by simpa [key] using h)
theorem key_ne {a b : ByteArray} (h : a ≠ b) : key a ≠ key b := fun e => h (key_inj e)
theorem str_yes {a b : ByteArray} (h : (a.toList == b.toList) = true) : a = b := by
  rw [ByteArray.toList_eq, ByteArray.toList_eq] at h
  exact data_inj (by simpa using h)
theorem str_no {a b : ByteArray} (h : (a.toList == b.toList) = false) : a ≠ b := by
  rintro rfl
  simp at h

set_option maxHeartbeats 400000 in
theorem new_any (a : Option Addr) (n cap : Nat) (m : Option Nat) (w : World) :
    Calls Try.prog 8 #[.slice a n cap, .map m] w fun e w' => e = .returned (.pointer (some ⟨w.heap.size, 0, none⟩)) ∧ w' = w.alloc (.cells #[.slice a n cap, .map m] 44) := by
  go_enter Try.func8, Try.ntmps8
  go_wp2
  go_ret
  exact ⟨rfl, rfl⟩

set_option maxHeartbeats 400000 in
theorem lookup_miss (pb B k : Nat) (D : DataW Unit) (s : ByteArray) (w : World) (c1 : w.cell? ⟨pb, 1, none⟩ = some (.map (some B)))
    (hown : w.ownsMap Try.prog 9 (plainElem Try.prog 3) B k D) (hs : s.size ≤ maxLen) (hh : Maps.has D (key s) = false) :
    Calls Try.prog 9 #[.pointer (some ⟨pb, 0, none⟩), .string s] w fun e w' => e = .returned (.pointer none) ∧ w' = w := by
  have hkey : keyOf Try.prog 9 (.string s) = some (key s) := keyOf_string_mk Try.underlying9 hs
  go_enter Try.func9, Try.ntmps9
  go_wp2_with (at_lookup; refine wpList_lookup_own_ok_int _ rfl _ _ 26 rfl 9 3 .i64 law Try.underlying26 Try.underlying3 (zeroE _) B k D rfl hown _ _ rfl hkey ?_; intro c hat hwc)
  go_ret
  exact ⟨rfl, rfl⟩

set_option maxHeartbeats 400000 in
theorem lookup_hit (pb N n B k i : Nat) (D : DataW Unit) (s : ByteArray) (w : World) (c0 : w.cell? ⟨pb, 0, none⟩ = some (.slice (some ⟨N, 0, none⟩) n n)) (c1 : w.cell? ⟨pb, 1, none⟩ = some (.map (some B)))
    (hown : w.ownsMap Try.prog 9 (plainElem Try.prog 3) B k D) (hs : s.size ≤ maxLen) (hh : Maps.has D (key s) = true) (hi : i < n) (hat0 : D.atKey (key s) (.lit (.int .i64 0)) = .lit (.int .i64 i)) :
    Calls Try.prog 9 #[.pointer (some ⟨pb, 0, none⟩), .string s] w fun e w' => e = .returned (.pointer (some ⟨N, i * 5, none⟩)) ∧ w' = w := by
  have hkey : keyOf Try.prog 9 (.string s) = some (key s) := keyOf_string_mk Try.underlying9 hs
  have Hat : Hid (D.atKey (key s) (.lit (.int .i64 0)) = .lit (.int .i64 i)) := hat0
  clear hat0
  go_enter Try.func9, Try.ntmps9
  go_wp2_with (at_lookup; refine wpList_lookup_own_ok_int _ rfl _ _ 26 rfl 9 3 .i64 law Try.underlying26 Try.underlying3 (zeroE _) B k D rfl hown _ _ rfl hkey ?_; intro c hat hwc; obtain rfl : c = (i : Int) := (by rw [Hat.out] at hat; simpa using hat.symm); clear hat hwc)
  go_ret
  exact ⟨rfl, rfl⟩


/-- What zzIndexOf answers. -/
def IxOf (es : List Ent) (s : ByteArray) (e : Ending) : Prop :=
  (e = .returned (.int .i64 (-1)) ∧ ∀ i, i < es.length → (ent es i).id ≠ s) ∨ ∃ i : Nat, i < es.length ∧ (ent es i).id = s ∧ e = .returned (.int .i64 i)

set_option maxHeartbeats 400000 in
theorem indexOf_any (ao : Option Addr) (cap : Nat) (es : List Ent) (s : ByteArray) (w : World) (hL : Lies w ao es) (hn : es.length ≤ 9223372036854775807) :
    Calls Try.prog 12 #[.slice ao es.length cap, .string s] w fun e w' => IxOf es s e ∧ w' = w := by
  go_enter Try.func12, Try.ntmps12
  go_wp2
  go_loop [5] (fun i => ∃ k : Nat, k ≤ es.length ∧ i = .int .i64 k ∧ ∀ j, j < k → (ent es j).id ≠ s) (fun i => es.length - (intOf i).toNat)
  case atStart => exact ⟨0, Nat.zero_le _, rfl, fun j hj => by omega⟩
  case round =>
    obtain ⟨k, hk, rfl, hno⟩ := hrel
    have HN : Hid (∀ j, j < k → (ent es j).id ≠ s) := hno
    clear hno
    by_cases hlt : k < es.length
    · obtain ⟨b, off, hb, hix, h0, h1, h2, h3⟩ := hL.at cap k hlt
      clear hL h1 h2 h3
      go_wp2
      · have hs : ((ent es k).id.toList == s.toList) = true := by assumption
        go_ret
        exact ⟨.inr ⟨k, hlt, str_yes hs, rfl⟩, rfl⟩
      · have hs : ((ent es k).id.toList == s.toList) = false := by assumption
        go_round
        case rel =>
          refine ⟨k + 1, by omega, by go_num, fun j hj => ?_⟩
          by_cases e : j = k
          · subst e; exact str_no hs
          · exact HN.out j (by omega)
        case measure => simp [intOf]; omega
    · go_wp2
      go_ret
      exact ⟨.inl ⟨rfl, fun i hi => HN.out i (by omega)⟩, rfl⟩

set_option maxHeartbeats 1000000 in
theorem same_yes (b off : Nat) (x : Ent) (w : World) (hb : b < w.heap.size) (h0 : w.cell? ⟨b, off, none⟩ = some (.string x.id)) (h1 : w.cell? ⟨b, off + 1, none⟩ = some (.string x.name)) (h2 : w.cell? ⟨b, off + 2, none⟩ = some (.int .i64 x.cls))
    (h3 : w.cell? ⟨b, off + 3, none⟩ = some (.slice none 0 0)) (h4 : w.cell? ⟨b, off + 4, none⟩ = some (.string x.tok)) :
    Calls Try.prog 10 #[.pointer (some ⟨b, off, none⟩), .agg #[.string x.id, .string x.name, .int .i64 x.cls, .string x.tok]] w fun e w' => e = .returned (.bool true) ∧ ∃ (c : Array Value) (m : Nat), w' = (w.alloc (.cells c 34)).drewN m := by
  go_enter Try.func10, Try.ntmps10
  go_wp2
  go_quiet (fail)
  go_wp2
  go_ret
  exact ⟨rfl, _, _, rfl⟩

end Go.Proofs.Qxb6630485a
