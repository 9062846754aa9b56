/-
  SEAT b6630450a: the walk of FnLimitTRACEInsertedAnywhereIsRefused (function 3).
-/
import Derived.Test.Qxb6630450aMore
import Derived.Deep.DeepCutAuto
namespace Go.Proofs.Qxb6630450a
open Go.RowKit

namespace TraceLaw
/-- The list with the text put in at place q. -/
def ins (xs : List ByteArray) (q : Nat) : List ByteArray := xs.take q ++ ⟨#[84, 82, 65, 67, 69]⟩ :: xs.drop q

theorem ins_length (xs : List ByteArray) (q : Nat) (h : q ≤ xs.length) : (ins xs q).length = xs.length + 1 := by
  unfold ins; simp; omega
theorem ins_any (xs : List ByteArray) (q : Nat) : (ins xs q).any isTr = true := by
  unfold ins
  rw [List.any_append, List.any_cons]
  have : isTr ⟨#[84, 82, 65, 67, 69]⟩ = true := by decide +kernel
  rw [this]; simp

/-- What the row holds in the third loop at counter k. -/
def row (xs : List ByteArray) (q k : Nat) : List Value := List.take q (xs.map Value.string) ++ [Value.string ⟨#[84, 82, 65, 67, 69]⟩] ++ List.take (k - q) ((xs.map Value.string).drop q)
theorem row_start (xs : List ByteArray) (q : Nat) : row xs q q = List.take q (xs.map Value.string) ++ [Value.string ⟨#[84, 82, 65, 67, 69]⟩] := by
  unfold row; simp
theorem row_step (xs : List ByteArray) (q k : Nat) (h1 : q ≤ k) (h2 : k < xs.length) : row xs q k ++ [Value.string xs[k]] = row xs q (k + 1) := by
  unfold row
  rw [List.append_assoc _ (List.take (k - q) _)]
  congr 1
  have e : k + 1 - q = (k - q) + 1 := by omega
  rw [e, List.take_succ_eq_append_getElem (by simp; omega)]
  congr 1
  simp
  congr 1
  omega
theorem row_end (xs : List ByteArray) (q : Nat) : row xs q xs.length = (ins xs q).map Value.string := by
  unfold row ins
  rw [List.take_of_length_le (l := (xs.map Value.string).drop q) (by simp)]
  simp

theorem bnext {w a b : World} (h : Below w.heap.size w a) (h2 : Below a.heap.size a b) : Below w.heap.size w b := h.trans (h2.mono h.size)
theorem blay {w a : World} (h : Below w.heap.size w a) (o : Obj) : Below w.heap.size w (a.alloc o) := h.alloc h.size o
theorem lay {w : World} {ao : Option Addr} {xs : List ByteArray} (h : Lies w ao xs) (o : Obj) : Lies (w.alloc o) ao xs := h.below ((Below.refl _ _).alloc (Nat.le_refl _) _)
theorem three {w w' : World} {c0 c1 c2 : Value} (hb : Below (w.alloc (.cells #[c0, c1, c2] 26)).heap.size (w.alloc (.cells #[c0, c1, c2] 26)) w') :
    w'.cell? ⟨w.heap.size, 0, none⟩ = some c0 ∧ w'.cell? ⟨w.heap.size, 1, none⟩ = some c1 ∧ w'.cell? ⟨w.heap.size, 2, none⟩ = some c2 := by
  refine ⟨(hb.cell (p := ⟨w.heap.size, 0, none⟩) (by simp)).trans ?_, (hb.cell (p := ⟨w.heap.size, 1, none⟩) (by simp)).trans ?_, (hb.cell (p := ⟨w.heap.size, 2, none⟩) (by simp)).trans ?_⟩ <;> simp [go_sem]

set_option maxHeartbeats 4000000 in
set_option maxRecDepth 100000 in
theorem trace_any (ao : Option Addr) (ca : Nat) (xs : List ByteArray) (ex : Bool) (p : Int) (w : World) (hL : Lies w ao xs) (hnA : ao = none → xs.length = 0 ∧ ca = 0) (hn : xs.length ≤ 9223372036854775807) :
    Calls Try.prog 3 #[.slice ao xs.length ca, .bool ex, .int .i64 p] w fun e w' => e = .returned (.bool true) ∧ Below w.heap.size w w' := by
  go_enter Try.func3, Try.ntmps3
  go_wp2_with fail
  refine (bytes5_any ao ca xs ex p w hL hn).mono ?_
  rintro e w' ⟨⟨r, rfl, hr⟩, rfl⟩
  cases r with
  | false =>
    go_wp2
    go_ret
    exact ⟨rfl, Below.refl _ _⟩
  | true =>
    obtain ⟨hx, hsx⟩ := hr rfl
    have HX : Hid (Small xs xs.length) := hsx
    clear hr hsx hn
    go_wp2
    go_loop [7, 8] (fun z i => ∃ k n : Nat, k ≤ xs.length ∧ i = .int .i64 k ∧ z = .int .i64 n ∧ n ≤ 1048576) (fun _ i => xs.length - (intOf i).toNat)
    case atStart => exact ⟨0, 0, Nat.zero_le _, rfl, rfl, by omega⟩
    case round =>
      obtain ⟨k, n, hk, rfl, rfl, hn1⟩ := hrel
      by_cases hlt : k < xs.length
      · obtain ⟨b, off, hb, hix, hc⟩ := hL.at ca k hlt
        have hsz := HX.out k hlt
        simp [hlt] at hsz
        clear hL hnA
        go_wp2
        · go_ret
          exact ⟨rfl, Below.refl _ _⟩
        · have h2 : (n : Int) + (16 + xs[k].size) ≤ 1048576 := by assumption
          go_round
          case rel => exact ⟨k + 1, n + (16 + xs[k].size), by omega, by go_num, by go_num, by omega⟩
          case measure => simp [intOf]; omega
      · by_cases hp0 : p < 0
        · go_wp2
          go_ret
          exact ⟨rfl, Below.refl _ _⟩
        by_cases hp1 : (xs.length : Int) < p
        · go_wp2
          go_ret
          exact ⟨rfl, Below.refl _ _⟩
        obtain ⟨q, rfl⟩ := Int.eq_ofNat_of_zero_le (Int.not_lt.1 hp0)
        have hq : q ≤ xs.length := by omega
        clear hp0 hp1
        go_wp2_with fail
        refine (clone_any ao ca xs _ hL hnA (by omega)).mono ?_
        rintro e w1 ⟨co, rfl, hco, hLc, hb1⟩
        have hnc : co = none → xs.length = 0 ∧ xs.length = 0 := fun h => by subst h; cases ao with | none => exact ⟨(hnA rfl).1, (hnA rfl).1⟩ | some a => cases hco
        clear hL hnA hco
        go_wp2_with fail
        refine (clone_any co xs.length xs w1 hLc hnc (by omega)).mono ?_
        rintro e w2 ⟨eo, rfl, heo, hLe, hb2⟩
        have hLc := hLc.below hb2
        have hb := bnext hb1 hb2
        have HE : Hid (eo.isNone = co.isNone) := heo
        clear hnc hb1 hb2 heo
        obtain ⟨i0, hi, hz0, hz1, hz2⟩ := info_parts Try.info9
        go_wp2_with (at_make; refine wpList_make_own _ rfl _ _ 22 rfl w2.heap.size 9 i0 (.string ByteArray.empty) 1 Try.underlying22 hi hz0 hz1 _ _ _ (xs.length + 1) rfl rfl (by omega) ?b2 ?b3 (Nat.le_refl _) ?_)
        case b2 => rw [hz2]; omega
        case b3 => unfold maxLen; omega
        intro w3 hown0 hgrow0
        have hbel0 : Below w2.heap.size w2 w3 := (Below.refl _ _).grown hgrow0 (Nat.le_refl _) (fun k h => by cases h)
        clear hgrow0
        go_wp2
        go_loopw [10, 11] (fun j i wr => ∃ k : Nat, k ≤ q ∧ i = .int .i64 k ∧ j = .slice (some ⟨w2.heap.size, 0, none⟩) k (xs.length + 1) ∧ wr.ownsRow w2.heap.size 9 1 (.slice (some ⟨w2.heap.size, 0, none⟩) k (xs.length + 1)) k (List.take k (xs.map Value.string)) ∧ Below w2.heap.size w2 wr) (fun _ i _ => q - (intOf i).toNat)
        case atStart => exact ⟨0, Nat.zero_le _, rfl, rfl, by simpa using hown0, hbel0⟩
        case round =>
          clear hown0 hbel0
          obtain ⟨k, hk, rfl, rfl, hown, hbel⟩ := hrel
          by_cases hlt : k < q
          · have hltx : k < xs.length := by omega
            obtain ⟨b, off, hb', hix, hc⟩ := (hLc.below hbel).at xs.length k hltx
            go_wp2_with (at_builtin; refine wpList_append_fits _ rfl (.tmp 60) (.tmp 65) 22 rfl w2.heap.size 9 i0 1 Try.underlying22 hi hz1 w2.heap.size k (xs.length + 1) _ rfl (hown.alloc _) ⟨wr.heap.size, 0, none⟩ 1 1 [.string xs[k]] rfl rfl (new_cell _ _) (str_oneCell _) (by omega) ?_; intro w6 hown6 hgrow6)
            rw [tk_snoc xs k hltx] at hown6
            go_roundw
            case rel => exact ⟨k + 1, by omega, by go_num, rfl, hown6, (hbel.alloc hbel.size _).grown hgrow6 (by have := hbel.size; simp; omega) (fun k hk => by cases hk; exact Nat.le_refl _)⟩
            case measure => simp [intOf]; omega
          · obtain rfl : k = q := by omega
            go_wp2_with (at_builtin; refine wpList_append_fits _ rfl (.tmp 67) (.tmp 68) 22 rfl w2.heap.size 9 i0 1 Try.underlying22 hi hz1 w2.heap.size k (xs.length + 1) _ rfl (hown.alloc _) ⟨wr.heap.size, 0, none⟩ 1 1 [.string ⟨#[84, 82, 65, 67, 69]⟩] rfl rfl (new_cell _ _) (str_oneCell _) (by omega) ?_; intro w6 hown6 hgrow6)
            have hbel6 : Below w2.heap.size w2 w6 := (hbel.alloc hbel.size _).grown hgrow6 (by have := hbel.size; simp; omega) (fun k hk => by cases hk; exact Nat.le_refl _)
            rw [← row_start] at hown6
            clear hown hbel hgrow6
            go_loopw [10, 12] (fun j i wr => ∃ m : Nat, k ≤ m ∧ m ≤ xs.length ∧ i = .int .i64 m ∧ j = .slice (some ⟨w2.heap.size, 0, none⟩) (m + 1) (xs.length + 1) ∧ wr.ownsRow w2.heap.size 9 1 (.slice (some ⟨w2.heap.size, 0, none⟩) (m + 1) (xs.length + 1)) (m + 1) (row xs k m) ∧ Below w2.heap.size w2 wr) (fun _ i _ => xs.length - (intOf i).toNat)
            case atStart => exact ⟨k, Nat.le_refl _, hq, rfl, rfl, hown6, hbel6⟩
            case round =>
              clear hown6 hbel6
              obtain ⟨m, hm1, hm2, rfl, rfl, hown, hbel⟩ := hrel
              by_cases hlt : m < xs.length
              · obtain ⟨b, off, hb', hix, hc⟩ := (hLc.below hbel).at xs.length m hlt
                go_wp2_with (at_builtin; refine wpList_append_fits _ rfl (.tmp 77) (.tmp 82) 22 rfl w2.heap.size 9 i0 1 Try.underlying22 hi hz1 w2.heap.size (m + 1) (xs.length + 1) _ rfl (hown.alloc _) ⟨wr.heap.size, 0, none⟩ 1 1 [.string xs[m]] rfl rfl (new_cell _ _) (str_oneCell _) (by omega) ?_; intro w7 hown7 hgrow7)
                rw [row_step xs k m hm1 hlt] at hown7
                go_roundw
                case rel => exact ⟨m + 1, by omega, by omega, by go_num, rfl, hown7, (hbel.alloc hbel.size _).grown hgrow7 (by have := hbel.size; simp; omega) (fun k hk => by cases hk; exact Nat.le_refl _)⟩
                case measure => simp [intOf]; omega
              · obtain rfl : m = xs.length := by omega
                rw [row_end] at hown
                have hlz := ins_length xs k hq
                have hLz := lies_of_own hown
                obtain ⟨zs, hzs⟩ : ∃ zs, zs = ins xs k := ⟨_, rfl⟩
                have HT : Hid (zs.any isTr = true) := by show zs.any isTr = true; rw [hzs]; exact ins_any xs k
                rw [← hzs] at hlz hLz
                have HZ : Hid (zs.length = xs.length + 1) := hlz
                have hLc := hLc.below hbel
                have hLe := hLe.below hbel
                have hb := bnext hb hbel
                clear hzs hlz hown hbel
                cases hx' : xs.any isTr
                case true =>
                  have HX' : Hid (xs.any isTr = true) := hx'
                  clear hx'
                  go_wp2_with fail
                  refine (limit_yes eo xs.length xs ex _ hLe (by omega) HX'.out).mono ?_
                  rintro e w5 ⟨⟨a5, rfl⟩, hb5⟩
                  go_wp2_with fail
                  have L := limit_yes (some ⟨w2.heap.size, 0, none⟩) (xs.length + 1) zs ex _ (lay (hLz.below hb5) (.cells #[.bool false, .bool false, .slice none 0 0] 26)) (by have := HZ.out; omega) HT.out
                  rw [HZ.out] at L
                  refine L.mono ?_
                  rintro e w7 ⟨⟨a7, rfl⟩, hb7⟩
                  clear L
                  obtain ⟨p0, p1, p2⟩ := three hb7
                  have s0 : w5.heap.size < w7.heap.size := by have h2 := hb7.size; simp at h2; omega
                  have s1 : w5.heap.size < w7.heap.size + 1 := by omega
                  have s2 : w5.heap.size < w7.heap.size + 1 + 1 := by omega
                  have s3 : w5.heap.size < w7.heap.size + 1 + 1 + 1 := by omega
                  have s4 : w5.heap.size < w7.heap.size + 1 + 1 + 1 + 1 := by omega
                  have s5 : w5.heap.size < w7.heap.size + 1 + 1 + 1 + 1 + 1 := by omega
                  have hLc := (lay (hLc.below hb5) _).below hb7
                  have hbz := bnext (blay (bnext hb hb5) _) hb7
                  clear hb hb5 hb7 hLe hLz
                  go_wp2_with fail
                  refine (zero_yes _).mono ?_
                  rintro e w8 ⟨rfl, hb8⟩
                  have e0 : w8.cell? ⟨w5.heap.size, 0, none⟩ = some (.bool false) := (hb8.cell (p := ⟨w5.heap.size, 0, none⟩) (by simp; omega)).trans (by simp [go_sem, s0, p0])
                  have e1 : w8.cell? ⟨w5.heap.size, 1, none⟩ = some (.bool false) := (hb8.cell (p := ⟨w5.heap.size, 1, none⟩) (by simp; omega)).trans (by simp [go_sem, s0, p1])
                  have e2 : w8.cell? ⟨w5.heap.size, 2, none⟩ = some (.slice none 0 0) := (hb8.cell (p := ⟨w5.heap.size, 2, none⟩) (by simp; omega)).trans (by simp [go_sem, s0, p2])
                  have hLc := (lay hLc _).below hb8
                  have hbz := bnext (blay hbz _) hb8
                  clear hb8
                  go_wp2_with fail
                  have L := names_any co xs.length xs w8 hLc (by omega)
                  rw [HX'.out] at L
                  refine L.mono ?_
                  rintro e w9 ⟨rfl, rfl⟩
                  clear L
                  go_wp2_with fail
                  refine (zero_yes _).mono ?_
                  rintro e w10 ⟨rfl, hb10⟩
                  go_wp2
                  go_ret
                  exact ⟨rfl, bnext hbz hb10⟩
                case false =>
                  have HX' : Hid (xs.any isTr = false) := hx'
                  clear hx'
                  go_wp2_with fail
                  refine (limit_no eo xs.length xs ex _ hLe (by omega) HX'.out).mono ?_
                  rintro e w5 ⟨rfl, hb5⟩
                  go_wp2_with fail
                  have L := limit_yes (some ⟨w2.heap.size, 0, none⟩) (xs.length + 1) zs ex _ (lay (hLz.below hb5) (.cells #[.bool true, .bool ex, .slice eo xs.length xs.length] 26)) (by have := HZ.out; omega) HT.out
                  rw [HZ.out] at L
                  refine L.mono ?_
                  rintro e w7 ⟨⟨a7, rfl⟩, hb7⟩
                  clear L
                  obtain ⟨p0, p1, p2⟩ := three hb7
                  have s0 : w5.heap.size < w7.heap.size := by have h2 := hb7.size; simp at h2; omega
                  have s1 : w5.heap.size < w7.heap.size + 1 := by omega
                  have s2 : w5.heap.size < w7.heap.size + 1 + 1 := by omega
                  have s3 : w5.heap.size < w7.heap.size + 1 + 1 + 1 := by omega
                  have s4 : w5.heap.size < w7.heap.size + 1 + 1 + 1 + 1 := by omega
                  have s5 : w5.heap.size < w7.heap.size + 1 + 1 + 1 + 1 + 1 := by omega
                  have hLc := (lay (hLc.below hb5) _).below hb7
                  have hLe := (lay (hLe.below hb5) _).below hb7
                  have hbz := bnext (blay (bnext hb hb5) _) hb7
                  clear hb hb5 hb7 hLz
                  go_wp2_with fail
                  refine (zero_yes _).mono ?_
                  rintro e w8 ⟨rfl, hb8⟩
                  have e0 : w8.cell? ⟨w5.heap.size, 0, none⟩ = some (.bool true) := (hb8.cell (p := ⟨w5.heap.size, 0, none⟩) (by simp; omega)).trans (by simp [go_sem, s0, p0])
                  have e1 : w8.cell? ⟨w5.heap.size, 1, none⟩ = some (.bool ex) := (hb8.cell (p := ⟨w5.heap.size, 1, none⟩) (by simp; omega)).trans (by simp [go_sem, s0, p1])
                  have e2 : w8.cell? ⟨w5.heap.size, 2, none⟩ = some (.slice eo xs.length xs.length) := (hb8.cell (p := ⟨w5.heap.size, 2, none⟩) (by simp; omega)).trans (by simp [go_sem, s0, p2])
                  have t0 : w5.heap.size < w8.heap.size := by have h2 := hb8.size; simp at h2; omega
                  have t1 : w5.heap.size < w8.heap.size + 1 := by omega
                  have t2 : w5.heap.size < w8.heap.size + 1 + 1 := by omega
                  have t3 : w5.heap.size < w8.heap.size + 1 + 1 + 1 := by omega
                  have t4 : w5.heap.size < w8.heap.size + 1 + 1 + 1 + 1 := by omega
                  have t5 : w5.heap.size < w8.heap.size + 1 + 1 + 1 + 1 + 1 := by omega
                  have hLc := (lay hLc _).below hb8
                  have hLe := (lay hLe _).below hb8
                  have hbz := bnext (blay hbz _) hb8
                  clear hb8 p0 p1 p2 s0 s1 s2 s3 s4 s5
                  go_wp2_with fail
                  have L := names_any co xs.length xs w8 hLc (by omega)
                  rw [HX'.out] at L
                  refine L.mono ?_
                  rintro e w9 ⟨rfl, rfl⟩
                  clear L
                  have hne : (ex != ex) = false := by simp
                  have he1 := fun w => Lib.run_eql_slice_nil (P := Try.prog) w 22 9 eo xs.length xs.length 0 0 Try.underlying22
                  have he2 := fun w => Lib.run_eql_slice_nil (P := Try.prog) w 22 9 co xs.length xs.length 0 0 Try.underlying22
                  have heo := HE.out
                  go_wp2_with (first
                    | (go_at_call 10; refine (lim_any _ _ _ _ _ _).mono ?_; rintro e w' ⟨rfl, c, rfl⟩)
                    | (go_at_call 11; refine (exc_any _ _ _ _ _ _).mono ?_; rintro e w' ⟨rfl, c, rfl⟩)
                    | (go_at_call 12; refine (nam_any _ _ _ _ _ _).mono ?_; rintro e w' ⟨rfl, c, rfl⟩))
                  refine (same_yes eo co xs.length xs.length xs _ (lay (lay (lay hLe _) _) _) (lay (lay (lay hLc _) _) _) (by omega)).mono ?_
                  rintro e w11 ⟨rfl, m, rfl⟩
                  go_wp2
                  go_ret
                  exact ⟨rfl, (blay (blay (blay hbz _) _) _).trans ⟨rfl, rfl, rfl, Nat.le_refl _, fun _ _ => rfl⟩⟩

end TraceLaw
end Go.Proofs.Qxb6630450a
