/-
  SEAT b6630485a: the walk of FnLookupTwoQueriesAnswerByPresence (function 4).
-/
import Derived.Test.Qxb6630485aCat
namespace Go.Proofs.Qxb6630485a
open Go.RowKit Go.WideMaps Go.Maps

namespace TwoLaw
theorem ptr_eql_nil_left (a : Addr) (w : World) : (binOp .eql 31 (.pointer none) (.pointer (some a))).run Try.prog w = .ok (.bool false) w := by
  have h : ∀ d : Nat, (Op.equalIn (d + 1) 31 (.pointer none) (.pointer (some a))).run Try.prog w = .ok false w := fun d => by simp [Op.equalIn, run_underlying Try.underlying31]
  simp only [binOp]
  simp [Op.equal, Op.maxDepth, h 9999]

/-- The text is no entry's id. -/
def Absent (es : List Ent) (s : ByteArray) : Prop := ∀ i, i < es.length → (ent es i).id ≠ s

theorem str_false {a b : ByteArray} (h : a ≠ b) : (a.toList == b.toList) = false := by
  cases e : (a.toList == b.toList)
  · rfl
  · exact absurd (str_yes e) h

theorem indexOf_miss (ao : Option Addr) (cap : Nat) (es : List Ent) (s : ByteArray) (w : World) (hL : Lies w ao es) (hn : es.length ≤ 9223372036854775807) (h : Absent es s) :
    Calls Try.prog 12 #[.slice ao es.length cap, .string s] w fun e w' => e = .returned (.int .i64 (-1)) ∧ w' = w :=
  (indexOf_any ao cap es s w hL hn).mono fun e w' ⟨hx, hw⟩ => by
    rcases hx with ⟨rfl, _⟩ | ⟨i, hi, hid, _⟩
    · exact ⟨rfl, hw⟩
    · exact absurd hid (h i hi)

theorem indexOf_hit (ao : Option Addr) (cap : Nat) (es : List Ent) (s : ByteArray) (w : World) (hL : Lies w ao es) (hn : es.length ≤ 9223372036854775807) (h : ¬ Absent es s) :
    Calls Try.prog 12 #[.slice ao es.length cap, .string s] w fun e w' => ∃ i : Nat, i < es.length ∧ (ent es i).id = s ∧ e = .returned (.int .i64 i) ∧ w' = w :=
  (indexOf_any ao cap es s w hL hn).mono fun e w' ⟨hx, hw⟩ => by
    rcases hx with ⟨rfl, h'⟩ | ⟨i, hi, hid, rfl⟩
    · exact absurd h' h
    · exact ⟨i, hi, hid, rfl, hw⟩

theorem miss {es : List Ent} {w : World} {N Q : Nat} {D : DataW Unit} (h : Cat es w N Q D) (hm : MapOk es es.length D) {s : ByteArray} (hs : s.size ≤ maxLen) (ha : Absent es s) :
    Calls Try.prog 9 #[.pointer (some ⟨Q, 0, none⟩), .string s] w fun e w' => e = .returned (.pointer none) ∧ w' = w :=
  lookup_miss Q (N + 1) es.length D s w h.c1 h.map hs (by
    cases e : Maps.has D (key s)
    · rfl
    · obtain ⟨i, hi, hid⟩ := (hm.has s).1 e
      exact absurd hid (ha i hi))

theorem hit {es : List Ent} {w : World} {N Q : Nat} {D : DataW Unit} (h : Cat es w N Q D) (hm : MapOk es es.length D) {s : ByteArray} (hs : s.size ≤ maxLen) {i : Nat} (hi : i < es.length) (hid : (ent es i).id = s) :
    Calls Try.prog 9 #[.pointer (some ⟨Q, 0, none⟩), .string s] w fun e w' => e = .returned (.pointer (some ⟨N, i * 5, none⟩)) ∧ w' = w := by
  subst hid
  exact h.hit hm hi hs

theorem same {es : List Ent} {w : World} {N Q : Nat} {D : DataW Unit} (h : Cat es w N Q D) {k : Nat} (hk : k < es.length) :
    Calls Try.prog 10 #[.pointer (some ⟨N, k * 5, none⟩), .agg #[.string (ent es k).id, .string (ent es k).name, .int .i64 (ent es k).cls, .string (ent es k).tok]] w fun e w' => e = .returned (.bool true) ∧ Below w.heap.size w w' :=
  (h.same hk).mono fun e w' ⟨he, c, m, hw⟩ => ⟨he, by rw [hw]; exact same_below _ _ _⟩

/-- Two entries of one id are one entry. -/
theorem one_place {es : List Ent} {D : DataW Unit} (hm : MapOk es es.length D) {i j : Nat} (hi : i < es.length) (hj : j < es.length) (h : (ent es i).id = (ent es j).id) : i = j := by
  have h1 := hm.at' i hi
  rw [h, hm.at' j hj] at h1
  simp at h1
  omega

set_option maxHeartbeats 4000000 in
set_option maxRecDepth 100000 in
theorem two_any (ao : Option Addr) (cap : Nat) (es : List Ent) (a b : ByteArray) (w : World) (hL : Lies w ao es) (hn : es.length ≤ 9223372036854775807) (hsz : ∀ i, i < es.length → (ent es i).id.size ≤ maxLen) (ha : a.size ≤ maxLen) (hb : b.size ≤ maxLen) :
    Calls Try.prog 4 #[.slice ao es.length cap, .string a, .string b] w fun e w' => e = .returned (.bool true) ∧ Below w.heap.size w w' := by
  have pn := ptr_neq_same
  have pe := ptr_eql_same
  have pl := ptr_eql_nil_left
  have ha' : a.size ≤ 9223372036854775807 := ha
  have hb' : b.size ≤ 9223372036854775807 := hb
  go_enter Try.func4, Try.ntmps4
  go_wp2_with fail
  refine (bytes11_any ao cap es a b w hL hn ha' hb').mono ?_
  rintro e w' ⟨⟨r, rfl⟩, rfl⟩
  cases r with
  | false =>
    go_wp2
    go_ret
    exact ⟨rfl, Below.refl _ _⟩
  | true =>
    by_cases h16 : (65536 : Int) < (es.length : Int)
    · go_wp2
      go_ret
      exact ⟨rfl, Below.refl _ _⟩
    have hn16 : es.length ≤ 65536 := by omega
    by_cases hla : (1048576 : Int) < (a.size : Int)
    · go_wp2
      go_ret
      exact ⟨rfl, Below.refl _ _⟩
    by_cases hlb : (1048576 : Int) < (b.size : Int)
    · go_wp2
      go_ret
      exact ⟨rfl, Below.refl _ _⟩
    go_wp2_with fail
    refine (entryBytes_any ao cap es _ hL hn).mono ?_
    rintro e w' ⟨⟨r, hr0, hr1, rfl⟩, rfl⟩
    by_cases hb1 : (1048576 : Int) < r
    · go_wp2
      go_ret
      exact ⟨rfl, Below.refl _ _⟩
    by_cases hb2 : (1048576 : Int) < r + a.size
    · go_wp2
      go_ret
      exact ⟨rfl, Below.refl _ _⟩
    by_cases hb3 : (1048576 : Int) < r + a.size + b.size
    · go_wp2
      go_ret
      exact ⟨rfl, Below.refl _ _⟩
    go_wp2_with fail
    refine (build_any ao cap es _ hL hn16 hsz).mono ?_
    rintro e w1 hB
    rcases hB with ⟨rfl, hb1⟩ | ⟨rfl, hrow, ⟨D, hown, hmap⟩, hb1⟩
    · go_wp2
      go_ret
      exact ⟨rfl, hb1⟩
    have hL1 := hL.below hb1
    by_cases hA : Absent es a <;> by_cases hB : Absent es b
    · skip
      go_wp2_with fail
      refine (indexOf_miss ao cap es a w1 hL1 hn hA).mono ?_
      rintro e w2 ⟨rfl, rfl⟩
      go_wp2_with fail
      refine (indexOf_miss ao cap es b _ hL1 hn hB).mono ?_
      rintro e w3 ⟨rfl, rfl⟩
      go_wp2_with fail
      refine (new_any _ _ _ _ _).mono ?_
      rintro e w4 ⟨rfl, hw4⟩
      have hcat := Cat.made hrow hown
      rw [← hw4] at hcat
      have hbz : Below w'.heap.size w' w4 := by rw [hw4]; exact hb1.alloc hb1.size _
      have hL4 := hL.below hbz
      clear hrow hown hw4 hL1 hL
      go_wp2_with fail
      refine (miss hcat hmap ha hA).mono ?_
      rintro e w5 ⟨rfl, rfl⟩
      go_wp2_with fail
      refine (miss hcat hmap hb hB).mono ?_
      rintro e w6 ⟨rfl, rfl⟩
      go_wp2
      all_goals
        go_ret
        exact ⟨rfl, hbz⟩
    · have hab : (a.toList == b.toList) = false := str_false (fun e => hB (e ▸ hA))
      go_wp2_with fail
      refine (indexOf_miss ao cap es a w1 hL1 hn hA).mono ?_
      rintro e w2 ⟨rfl, rfl⟩
      go_wp2_with fail
      refine (indexOf_hit ao cap es b _ hL1 hn hB).mono ?_
      rintro e w3 ⟨j, hj, hidj, rfl, rfl⟩
      have IDj : Hid ((ent es j).id = b) := hidj
      clear hidj
      go_wp2_with fail
      refine (new_any _ _ _ _ _).mono ?_
      rintro e w4 ⟨rfl, hw4⟩
      have hcat := Cat.made hrow hown
      rw [← hw4] at hcat
      have hbz : Below w'.heap.size w' w4 := by rw [hw4]; exact hb1.alloc hb1.size _
      have hL4 := hL.below hbz
      clear hrow hown hw4 hL1 hL
      go_wp2_with fail
      refine (miss hcat hmap ha hA).mono ?_
      rintro e w5 ⟨rfl, rfl⟩
      go_wp2_with fail
      refine (hit hcat hmap hb hj IDj.out).mono ?_
      rintro e w6 ⟨rfl, rfl⟩
      obtain ⟨bbj, ofj, hbbj, hixj, e0j, e1j, e2j, e3j⟩ := hL4.at cap j hj
      have kj : (j : Int) < (es.length : Int) := by omega
      go_wp2_with fail
      refine (same hcat hj).mono ?_
      rintro e w7 ⟨rfl, hbs7⟩
      have hcat := hcat.below hbs7
      have hL4 := hL4.below hbs7
      have hbz := bnext hbz hbs7
      clear hbs7
      go_wp2
      all_goals
        go_ret
        exact ⟨rfl, hbz⟩
    · have hab : (a.toList == b.toList) = false := str_false (fun e => hA (e ▸ hB))
      go_wp2_with fail
      refine (indexOf_hit ao cap es a w1 hL1 hn hA).mono ?_
      rintro e w2 ⟨i, hi, hidi, rfl, rfl⟩
      have IDi : Hid ((ent es i).id = a) := hidi
      clear hidi
      go_wp2_with fail
      refine (indexOf_miss ao cap es b _ hL1 hn hB).mono ?_
      rintro e w3 ⟨rfl, rfl⟩
      go_wp2_with fail
      refine (new_any _ _ _ _ _).mono ?_
      rintro e w4 ⟨rfl, hw4⟩
      have hcat := Cat.made hrow hown
      rw [← hw4] at hcat
      have hbz : Below w'.heap.size w' w4 := by rw [hw4]; exact hb1.alloc hb1.size _
      have hL4 := hL.below hbz
      clear hrow hown hw4 hL1 hL
      go_wp2_with fail
      refine (hit hcat hmap ha hi IDi.out).mono ?_
      rintro e w5 ⟨rfl, rfl⟩
      go_wp2_with fail
      refine (miss hcat hmap hb hB).mono ?_
      rintro e w6 ⟨rfl, rfl⟩
      obtain ⟨bbi, ofi, hbbi, hixi, e0i, e1i, e2i, e3i⟩ := hL4.at cap i hi
      have ki : (i : Int) < (es.length : Int) := by omega
      go_wp2_with fail
      refine (same hcat hi).mono ?_
      rintro e w7 ⟨rfl, hbs7⟩
      have hcat := hcat.below hbs7
      have hL4 := hL4.below hbs7
      have hbz := bnext hbz hbs7
      clear hbs7
      go_wp2
      all_goals
        go_ret
        exact ⟨rfl, hbz⟩
    · skip
      go_wp2_with fail
      refine (indexOf_hit ao cap es a w1 hL1 hn hA).mono ?_
      rintro e w2 ⟨i, hi, hidi, rfl, rfl⟩
      have IDi : Hid ((ent es i).id = a) := hidi
      clear hidi
      go_wp2_with fail
      refine (indexOf_hit ao cap es b _ hL1 hn hB).mono ?_
      rintro e w3 ⟨j, hj, hidj, rfl, rfl⟩
      have IDj : Hid ((ent es j).id = b) := hidj
      clear hidj
      go_wp2_with fail
      refine (new_any _ _ _ _ _).mono ?_
      rintro e w4 ⟨rfl, hw4⟩
      have hcat := Cat.made hrow hown
      rw [← hw4] at hcat
      have hbz : Below w'.heap.size w' w4 := by rw [hw4]; exact hb1.alloc hb1.size _
      have hL4 := hL.below hbz
      clear hrow hown hw4 hL1 hL
      go_wp2_with fail
      refine (hit hcat hmap ha hi IDi.out).mono ?_
      rintro e w5 ⟨rfl, rfl⟩
      go_wp2_with fail
      refine (hit hcat hmap hb hj IDj.out).mono ?_
      rintro e w6 ⟨rfl, rfl⟩
      by_cases hij : i = j
      · have hab : (a.toList == b.toList) = true := by rw [← IDi.out, ← IDj.out, hij]; simp
        have po : ∀ w, (binOp .eql 31 (.pointer (some ⟨w'.heap.size, i * 5, none⟩)) (.pointer (some ⟨w'.heap.size, j * 5, none⟩))).run Try.prog w = .ok (.bool true) w := fun w => by rw [hij]; exact ptr_eql_same _ w
        clear hij
        obtain ⟨bbi, ofi, hbbi, hixi, e0i, e1i, e2i, e3i⟩ := hL4.at cap i hi
        have ki : (i : Int) < (es.length : Int) := by omega
        go_wp2_with fail
        refine (same hcat hi).mono ?_
        rintro e w7 ⟨rfl, hbs7⟩
        have hcat := hcat.below hbs7
        have hL4 := hL4.below hbs7
        have hbz := bnext hbz hbs7
        clear hbs7
        obtain ⟨bbj, ofj, hbbj, hixj, e0j, e1j, e2j, e3j⟩ := hL4.at cap j hj
        have kj : (j : Int) < (es.length : Int) := by omega
        go_wp2_with fail
        refine (same hcat hj).mono ?_
        rintro e w8 ⟨rfl, hbs8⟩
        have hcat := hcat.below hbs8
        have hL4 := hL4.below hbs8
        have hbz := bnext hbz hbs8
        clear hbs8
        go_wp2
        all_goals
          go_ret
          exact ⟨rfl, hbz⟩
      · have hab : (a.toList == b.toList) = false := str_false (fun e => hij (one_place hmap hi hj (by rw [IDi.out, IDj.out, e])))
        have po := fun w => ptr_eql_other w'.heap.size (i * 5) (j * 5) (by omega) w
        obtain ⟨bbi, ofi, hbbi, hixi, e0i, e1i, e2i, e3i⟩ := hL4.at cap i hi
        have ki : (i : Int) < (es.length : Int) := by omega
        go_wp2_with fail
        refine (same hcat hi).mono ?_
        rintro e w7 ⟨rfl, hbs7⟩
        have hcat := hcat.below hbs7
        have hL4 := hL4.below hbs7
        have hbz := bnext hbz hbs7
        clear hbs7
        obtain ⟨bbj, ofj, hbbj, hixj, e0j, e1j, e2j, e3j⟩ := hL4.at cap j hj
        have kj : (j : Int) < (es.length : Int) := by omega
        go_wp2_with fail
        refine (same hcat hj).mono ?_
        rintro e w8 ⟨rfl, hbs8⟩
        have hcat := hcat.below hbs8
        have hL4 := hL4.below hbs8
        have hbz := bnext hbz hbs8
        clear hbs8
        go_wp2
        all_goals
          go_ret
          exact ⟨rfl, hbz⟩
end TwoLaw

end Go.Proofs.Qxb6630485a
