/-
  SEAT b6630450a: zzb1Same, zzb1Clone, the two zzBytes.
-/
import Derived.Test.Qxb6630450aBase
import Derived.Deep.OwnRows
namespace Go.Proofs.Qxb6630450a
open Go.RowKit

theorem Lies.drewN {w : World} {ao : Option Addr} {xs : List ByteArray} (h : Lies w ao xs) (n : Nat) : Lies (w.drewN n) ao xs := h

set_option maxHeartbeats 400000 in
/-- zzb1Same at two slices that hold the same strings. -/
theorem same_yes (ao bo : Option Addr) (ca cb : Nat) (xs : List ByteArray) (w : World) (hA : Lies w ao xs) (hB : Lies w bo xs) (hn : xs.length ≤ 140737488351232) :
    Calls Try.prog 13 #[.slice ao xs.length ca, .slice bo xs.length cb] w fun e w' => e = .returned (.bool true) ∧ ∃ m, w' = w.drewN m := by
  go_enter Try.func13, Try.ntmps13
  go_wp2
  go_loopw [5] (fun i wr => ∃ k m : Nat, k ≤ xs.length ∧ i = .int .i64 k ∧ wr = w.drewN m) (fun i _ => xs.length - (intOf i).toNat)
  case atStart => exact ⟨0, 0, Nat.zero_le _, rfl, rfl⟩
  case round =>
    obtain ⟨k, m, hk, rfl, rfl⟩ := hrel
    by_cases hlt : k < xs.length
    · obtain ⟨b, off, hb, hix, hc⟩ := hA.at ca k hlt
      obtain ⟨b', off', hb', hix', hc'⟩ := hB.at cb k hlt
      clear hA hB
      go_wp2
      go_quiet (fail)
      go_wp2
      go_roundw
      case rel => exact ⟨k + 1, m + nq, by omega, by go_num, rfl⟩
      case measure => simp [intOf]; omega
    · go_wp2
      go_ret
      exact ⟨rfl, _, rfl⟩


theorem Try.info9 : (Try.prog.info? 9).map (fun i => (i.zero, i.size, i.bytes)) = some (some (.string ByteArray.empty), 1, 16) := by kernel_rfl

/-- What zzb1Clone has laid after k rounds. -/
def clo (xs : List ByteArray) (k i : Nat) : Value := if i < k then .string (xs.getD i ByteArray.empty) else .string ByteArray.empty

theorem clo_step (xs : List ByteArray) (k i : Nat) (hk : k < xs.length) : (if i = k then .string xs[k] else clo xs k i) = clo xs (k + 1) i := by
  unfold clo
  by_cases h : i = k
  · subst h; simp [hk]
  · by_cases h2 : i < k
    · rw [if_neg h, if_pos h2, if_pos (by omega)]
    · rw [if_neg h, if_neg h2, if_neg (by omega)]

theorem clone_nil (w : World) : Calls Try.prog 6 #[.slice none 0 0] w fun e w' => e = .returned (.slice none 0 0) ∧ w' = w := by
  have he := fun w => Lib.run_eql_slice_nil (P := Try.prog) w 22 9 none 0 0 0 0 Try.underlying22
  go_enter Try.func6, Try.ntmps6
  go_wp2
  go_ret
  exact ⟨rfl, rfl⟩

set_option maxHeartbeats 400000 in
theorem clone_some (a : Addr) (cap : Nat) (xs : List ByteArray) (w : World) (hL : Lies w (some a) xs) (hn : xs.length ≤ 8796093022208) :
    Calls Try.prog 6 #[.slice (some a) xs.length cap] w fun e w' => e = .returned (.slice (some ⟨w.heap.size, 0, none⟩) xs.length xs.length) ∧ Lies w' (some ⟨w.heap.size, 0, none⟩) xs ∧ Below w.heap.size w w' := by
  have he := fun w => Lib.run_eql_slice_nil (P := Try.prog) w 22 9 (some a) xs.length cap 0 0 Try.underlying22
  have hmk := run_make_row' (P := Try.prog) 22 9 (.string ByteArray.empty) 16 Try.underlying22 Try.info9 rfl .i64 .i64 xs.length (by omega) (by omega)
  go_enter Try.func6, Try.ntmps6
  go_wp2
  clear he hmk
  go_loopw [4] (fun i wr => ∃ k : Nat, k ≤ xs.length ∧ i = .int .i64 k ∧ wr.rowIs w.heap.size 9 xs.length (clo xs k) ∧ Below w.heap.size w wr) (fun i _ => xs.length - (intOf i).toNat)
  case atStart => exact ⟨0, Nat.zero_le _, rfl, (World.rowIs_made w _ _ 9).congr (fun i _ => by simp [clo]), (Below.refl _ _).alloc (Nat.le_refl _) _⟩
  case round =>
    obtain ⟨k, hk, rfl, hrow, hbel⟩ := hrel
    by_cases hlt : k < xs.length
    · obtain ⟨b, off, hb, hix, hc⟩ := (hL.below hbel).at cap k hlt
      have hcell := hrow.cell hlt
      have hfz := hrow.frozen k
      have HR : Hid (wr.rowIs w.heap.size 9 xs.length (clo xs k)) := hrow
      clear hrow hL
      go_wp2
      go_roundw
      case rel => exact ⟨k + 1, by omega, by go_num, (HR.out.set k _).congr (fun i _ => clo_step xs k i hlt), hbel.setCell (Nat.le_refl _) _⟩
      case measure => simp [intOf]; omega
    · go_wp2
      go_ret
      refine ⟨rfl, fun hp => ⟨_, _, rfl, hrow.lt, fun i hi => ?_⟩, hbel⟩
      rw [Nat.zero_add, hrow.cell hi]
      simp only [clo]
      rw [if_pos (by omega)]


/-- zzb1Clone. -/
theorem clone_any (ao : Option Addr) (cap : Nat) (xs : List ByteArray) (w : World) (hL : Lies w ao xs) (hnil : ao = none → xs.length = 0 ∧ cap = 0) (hn : xs.length ≤ 8796093022208) :
    Calls Try.prog 6 #[.slice ao xs.length cap] w fun e w' => ∃ co, e = .returned (.slice co xs.length xs.length) ∧ co.isNone = ao.isNone ∧ Lies w' co xs ∧ Below w.heap.size w w' := by
  cases ao with
  | none =>
    obtain ⟨h0, rfl⟩ := hnil rfl
    rw [h0]
    refine (clone_nil w).mono ?_
    rintro e w' ⟨rfl, rfl⟩
    exact ⟨none, rfl, rfl, fun h => by omega, Below.refl _ _⟩
  | some a =>
    refine (clone_some a cap xs w hL hn).mono ?_
    rintro e w' ⟨rfl, h1, h2⟩
    exact ⟨_, rfl, rfl, h1, h2⟩

/-- All strings of the list are small. -/
def Small (xs : List ByteArray) (k : Nat) : Prop := ∀ j, j < k → (xs.getD j ByteArray.empty).size ≤ 1048576

theorem Small.succ {xs : List ByteArray} {k : Nat} (h : Small xs k) (hk : k < xs.length) (hs : (xs[k].size : Int) ≤ 1048576) : Small xs (k + 1) := by
  intro j hj
  by_cases e : j = k
  · subst e
    simp [hk]
    omega
  · exact h j (by omega)

/-- A list that zzBytes lets by. -/
def Fits (xs : List ByteArray) : Prop := xs.length ≤ 1048576 ∧ Small xs xs.length
/-- What a zzBytes answers of one list. -/
def Told (p : Prop) (e : Ending) : Prop := ∃ r, e = .returned (.bool r) ∧ (r = true → p)
theorem told_no (p : Prop) : Told p (.returned (.bool false)) := ⟨false, rfl, fun h => by cases h⟩
theorem told_yes {p : Prop} (h : p) : Told p (.returned (.bool true)) := ⟨true, rfl, fun _ => h⟩

set_option maxHeartbeats 400000 in
/-- zzBytes of the first law. -/
theorem bytes5_any (ao : Option Addr) (cap : Nat) (xs : List ByteArray) (ex : Bool) (p : Int) (w : World) (hL : Lies w ao xs) (hn : xs.length ≤ 9223372036854775807) :
    Calls Try.prog 5 #[.slice ao xs.length cap, .bool ex, .int .i64 p] w fun e w' => Told (Fits xs) e ∧ w' = w := by
  go_enter Try.func5, Try.ntmps5
  go_wp2
  · go_ret
    exact ⟨told_no _, rfl⟩
  have hx : xs.length ≤ 1048576 := by omega
  go_loop [7, 8] (fun z i => ∃ k n : Nat, k ≤ xs.length ∧ i = .int .i64 k ∧ z = .int .i64 n ∧ n ≤ 1048576 ∧ Small xs k) (fun _ i => xs.length - (intOf i).toNat)
  case atStart => exact ⟨0, xs.length, Nat.zero_le _, rfl, rfl, by omega, fun j hj => by omega⟩
  case round =>
    obtain ⟨k, n, hk, rfl, rfl, hn1, hsm⟩ := hrel
    have HS : Hid (Small xs k) := hsm
    clear hsm
    by_cases hlt : k < xs.length
    · obtain ⟨b, off, hb, hix, hc⟩ := hL.at cap k hlt
      clear hL
      go_wp2
      · go_ret
        exact ⟨told_no _, rfl⟩
      · go_ret
        exact ⟨told_no _, rfl⟩
      · have h1 : (xs[k].size : Int) ≤ 1048576 := by assumption
        have h2 : (n : Int) + xs[k].size ≤ 1048576 := by assumption
        go_round
        case rel => exact ⟨k + 1, n + xs[k].size, by omega, by go_num, by go_num, by omega, HS.out.succ hlt h1⟩
        case measure => simp [intOf]; omega
    · go_wp2
      go_ret
      obtain rfl : k = xs.length := by omega
      exact ⟨told_yes ⟨hx, HS.out⟩, rfl⟩

set_option maxHeartbeats 800000 in
/-- zzBytes of the second law. -/
theorem bytes14_any (ao bo : Option Addr) (ca cb : Nat) (xs ys : List ByteArray) (ex : Bool) (w : World) (hL : Lies w ao xs) (hM : Lies w bo ys) (hn : xs.length ≤ 9223372036854775807) (hm : ys.length ≤ 9223372036854775807) :
    Calls Try.prog 14 #[.slice ao xs.length ca, .slice bo ys.length cb, .bool ex] w fun e w' => Told (Fits xs ∧ Fits ys) e ∧ w' = w := by
  go_enter Try.func14, Try.ntmps14
  go_wp2
  · go_ret
    exact ⟨told_no _, rfl⟩
  have hx : xs.length ≤ 1048576 := by omega
  go_loop [7, 8] (fun z i => ∃ k n : Nat, k ≤ xs.length ∧ i = .int .i64 k ∧ z = .int .i64 n ∧ n ≤ 1048576 ∧ Small xs k) (fun _ i => xs.length - (intOf i).toNat)
  case atStart => exact ⟨0, xs.length, Nat.zero_le _, rfl, rfl, by omega, fun j hj => by omega⟩
  case round =>
    obtain ⟨k, n, hk, rfl, rfl, hn1, hsm⟩ := hrel
    have HS : Hid (Small xs k) := hsm
    clear hsm
    by_cases hlt : k < xs.length
    · obtain ⟨b, off, hb, hix, hc⟩ := hL.at ca k hlt
      clear hL
      go_wp2
      · go_ret
        exact ⟨told_no _, rfl⟩
      · go_ret
        exact ⟨told_no _, rfl⟩
      · have h1 : (xs[k].size : Int) ≤ 1048576 := by assumption
        have h2 : (n : Int) + xs[k].size ≤ 1048576 := by assumption
        go_round
        case rel => exact ⟨k + 1, n + xs[k].size, by omega, by go_num, by go_num, by omega, HS.out.succ hlt h1⟩
        case measure => simp [intOf]; omega
    · obtain rfl : k = xs.length := by omega
      go_wp2
      · go_ret
        exact ⟨told_no _, rfl⟩
      · go_ret
        exact ⟨told_no _, rfl⟩
      have hy : ys.length ≤ 1048576 := by omega
      go_loop [7, 9] (fun z i => ∃ k n : Nat, k ≤ ys.length ∧ i = .int .i64 k ∧ z = .int .i64 n ∧ n ≤ 1048576 ∧ Small ys k) (fun _ i => ys.length - (intOf i).toNat)
      case atStart => exact ⟨0, n + ys.length, Nat.zero_le _, rfl, by go_num, by omega, fun j hj => by omega⟩
      case round =>
        obtain ⟨k, n, hk, rfl, rfl, hn1, hsm⟩ := hrel
        have HS2 : Hid (Small ys k) := hsm
        clear hsm
        by_cases hlt : k < ys.length
        · obtain ⟨b, off, hb, hix, hc⟩ := hM.at cb k hlt
          clear hM
          go_wp2
          · go_ret
            exact ⟨told_no _, rfl⟩
          · go_ret
            exact ⟨told_no _, rfl⟩
          · have h1 : (ys[k].size : Int) ≤ 1048576 := by assumption
            have h2 : (n : Int) + ys[k].size ≤ 1048576 := by assumption
            go_round
            case rel => exact ⟨k + 1, n + ys[k].size, by omega, by go_num, by go_num, by omega, HS2.out.succ hlt h1⟩
            case measure => simp [intOf]; omega
        · go_wp2
          go_ret
          obtain rfl : k = ys.length := by omega
          exact ⟨told_yes ⟨⟨hx, HS.out⟩, ⟨hy, HS2.out⟩⟩, rfl⟩


/-! ### a slice that the call itself appends to -/
theorem tk_snoc (xs : List ByteArray) (k : Nat) (h : k < xs.length) : List.take k (xs.map Value.string) ++ [Value.string xs[k]] = List.take (k + 1) (xs.map Value.string) := by
  rw [List.take_succ_eq_append_getElem (by simpa using h)]; simp

theorem new_cell (w : World) (s : ByteArray) : ∀ (j : Nat) (u : Value), [Value.string s][j]? = some u → (w.alloc (Obj.cells #[Value.string s] 9)).cell? ((⟨w.heap.size, 0, none⟩ : Addr).add j) = some u := by
  intro j u hj
  match j, hj with
  | 0, hj => simp at hj; subst hj; simp [Addr.add]

theorem str_oneCell (s : ByteArray) : ∀ u ∈ [Value.string s], u.oneCell' = true := by
  intro u hu; simp at hu; subst hu; rfl

theorem lies_of_own {w : World} {base g n cap : Nat} {zs : List ByteArray} (h : w.ownsRow base 9 1 (.slice (some ⟨g, 0, none⟩) n cap) n (zs.map Value.string)) : Lies w (some ⟨g, 0, none⟩) zs := by
  intro _
  refine ⟨g, 0, rfl, (h.lt g rfl).2, fun i hi => ?_⟩
  have := h.cells (g := g) rfl i (.string (zs.getD i ByteArray.empty)) (by simp [hi])
  rw [Addr.add_lit] at this
  exact this

end Go.Proofs.Qxb6630450a
