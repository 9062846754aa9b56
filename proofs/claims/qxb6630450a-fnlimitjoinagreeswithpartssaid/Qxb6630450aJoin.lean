/-
  SEAT b6630450a: the walk of FnLimitJoinAgreesWithParts (function 4).
-/
import Derived.Test.Qxb6630450aMore
import Derived.Deep.DeepCutAuto
namespace Go.Proofs.Qxb6630450a
open Go.RowKit

theorem bnext {w a b : World} (h : Below w.heap.size w a) (h2 : Below a.heap.size a b) : Below w.heap.size w b := h.trans (h2.mono h.size)
theorem blay {w a : World} (h : Below w.heap.size w a) (o : Obj) : Below w.heap.size w (a.alloc o) := h.alloc h.size o
theorem Lies.lay {w : World} {ao : Option Addr} {xs : List ByteArray} (h : Lies w ao xs) (o : Obj) : Lies (w.alloc o) ao xs := h.below ((Below.refl _ _).alloc (Nat.le_refl _) _)

theorem zs_left {zs xs ys : List ByteArray} (h : zs = xs ++ ys) (k : Nat) (hk : k < xs.length) : zs.getD k ByteArray.empty = xs.getD k ByteArray.empty := by
  subst h; simp [List.getD, List.getElem?_append_left hk]
theorem zs_right {zs xs ys : List ByteArray} (h : zs = xs ++ ys) (k : Nat) : zs.getD (xs.length + k) ByteArray.empty = ys.getD k ByteArray.empty := by
  subst h; simp [List.getD, List.getElem?_append_right]

/-- Three cells of a new block, in a later world. -/
theorem three {w w' : World} {c0 c1 c2 : Value} (hb : Below (w.alloc (.cells #[c0, c1, c2] 26)).heap.size (w.alloc (.cells #[c0, c1, c2] 26)) w') :
    w'.cell? ⟨w.heap.size, 0, none⟩ = some c0 ∧ w'.cell? ⟨w.heap.size, 1, none⟩ = some c1 ∧ w'.cell? ⟨w.heap.size, 2, none⟩ = some c2 := by
  refine ⟨(hb.cell (p := ⟨w.heap.size, 0, none⟩) (by simp)).trans ?_, (hb.cell (p := ⟨w.heap.size, 1, none⟩) (by simp)).trans ?_, (hb.cell (p := ⟨w.heap.size, 2, none⟩) (by simp)).trans ?_⟩ <;> simp [go_sem]

set_option maxHeartbeats 4000000 in
set_option maxRecDepth 100000 in
theorem join_any (ao bo : Option Addr) (ca cb : Nat) (xs ys : List ByteArray) (ex : Bool) (w : World) (hL : Lies w ao xs) (hM : Lies w bo ys) (hnA : ao = none → xs.length = 0 ∧ ca = 0) (hnB : bo = none → ys.length = 0 ∧ cb = 0) (hn : xs.length ≤ 9223372036854775807) (hm : ys.length ≤ 9223372036854775807) :
    Calls Try.prog 4 #[.slice ao xs.length ca, .slice bo ys.length cb, .bool ex] w fun e w' => e = .returned (.bool true) ∧ Below w.heap.size w w' := by
  go_enter Try.func4, Try.ntmps4
  go_wp2_with fail
  refine (bytes14_any ao bo ca cb xs ys ex w hL hM (by omega) (by omega)).mono ?_
  rintro e w' ⟨⟨r, rfl, hr⟩, rfl⟩
  cases r with
  | false =>
    go_wp2
    go_ret
    exact ⟨rfl, Below.refl _ _⟩
  | true =>
    obtain ⟨⟨hx, hsx⟩, ⟨hy, hsy⟩⟩ := hr rfl
    have HX : Hid (Small xs xs.length) := hsx
    have HY : Hid (Small ys ys.length) := hsy
    clear hr hsx hsy
    go_wp2
    go_loop [7, 8] (fun z i => ∃ k n : Nat, k ≤ xs.length ∧ i = .int .i64 k ∧ z = .int .i64 n ∧ n ≤ 1048576) (fun _ i => xs.length - (intOf i).toNat)
    case atStart => exact ⟨0, 0, Nat.zero_le _, rfl, rfl, by omega⟩
    case round =>
      obtain ⟨k, n, hk, rfl, rfl, hn1⟩ := hrel
      by_cases hlt : k < xs.length
      · obtain ⟨b, off, hb, hix, hc⟩ := hL.at ca k hlt
        have hsz := HX.out k hlt
        simp [hlt] at hsz
        clear hL hM hnA hnB
        go_wp2
        · go_ret
          exact ⟨rfl, Below.refl _ _⟩
        · have h2 : (n : Int) + (16 + xs[k].size) ≤ 1048576 := by assumption
          go_round
          case rel => exact ⟨k + 1, n + (16 + xs[k].size), by omega, by go_num, by go_num, by omega⟩
          case measure => simp [intOf]; omega
      · go_wp2
        go_loop [7, 9] (fun z i => ∃ k n : Nat, k ≤ ys.length ∧ i = .int .i64 k ∧ z = .int .i64 n ∧ n ≤ 1048576) (fun _ i => ys.length - (intOf i).toNat)
        case atStart => exact ⟨0, n, Nat.zero_le _, rfl, rfl, by omega⟩
        case round =>
          obtain ⟨k, n, hk, rfl, rfl, hn1⟩ := hrel
          by_cases hlt : k < ys.length
          · obtain ⟨b, off, hb, hix, hc⟩ := hM.at cb k hlt
            have hsz := HY.out k hlt
            simp [hlt] at hsz
            clear hL hM hnA hnB
            go_wp2
            · go_ret
              exact ⟨rfl, Below.refl _ _⟩
            · have h2 : (n : Int) + (16 + ys[k].size) ≤ 1048576 := by assumption
              go_round
              case rel => exact ⟨k + 1, n + (16 + ys[k].size), by omega, by go_num, by go_num, by omega⟩
              case measure => simp [intOf]; omega
          · go_wp2_with fail
            refine (clone_any ao ca xs _ hL hnA (by omega)).mono ?_
            rintro e w1 ⟨co, rfl, hco, hLc, hb1⟩
            go_wp2_with fail
            refine (clone_any bo cb ys w1 (hM.below hb1) hnB (by omega)).mono ?_
            rintro e w2 ⟨do_, rfl, hdo, hMc, hb2⟩
            have hLc := hLc.below hb2
            have hb12 := hb1.trans (hb2.mono hb1.size)
            have hnc : co = none → xs.length = 0 ∧ xs.length = 0 := fun h => by subst h; cases ao with | none => exact ⟨(hnA rfl).1, (hnA rfl).1⟩ | some a => cases hco
            have hnd : do_ = none → ys.length = 0 ∧ ys.length = 0 := fun h => by subst h; cases bo with | none => exact ⟨(hnB rfl).1, (hnB rfl).1⟩ | some a => cases hdo
            clear hL hM hnA hnB hb1 hb2 hco hdo
            go_wp2_with fail
            refine (clone_any co xs.length xs w2 hLc hnc (by omega)).mono ?_
            rintro e w3 ⟨eo, rfl, heo, hLe, hb3⟩
            have hLc := hLc.below hb3
            have hMc := hMc.below hb3
            have hb13 := hb12.trans (hb3.mono hb12.size)
            clear hb12 hb3
            go_wp2_with fail
            refine (clone_any do_ ys.length ys w3 hMc hnd (by omega)).mono ?_
            rintro e w4 ⟨fo, rfl, hfo, hMf, hb4⟩
            have hLc := hLc.below hb4
            have hMc := hMc.below hb4
            have hLe := hLe.below hb4
            have hb := hb13.trans (hb4.mono hb13.size)
            clear hb13 hb4 heo hfo
            have q1 := fun w => run_neq_slice_nil_any (P := Try.prog) w 22 9 co xs.length xs.length 0 0 Try.underlying22
            have q2 := fun w => run_neq_slice_nil_any (P := Try.prog) w 22 9 do_ ys.length ys.length 0 0 Try.underlying22
            go_upto_region 21 with fail
            go_cut [79] (fun c wx => ∃ r, c = .bool r ∧ (r = false → xs.length = 0 ∧ ys.length = 0) ∧ w4 = wx)
            case first =>
              as_aux_lemma =>
                have h1' : co.isNone = true → xs.length = 0 := fun h => (hnc (Option.isNone_iff_eq_none.1 h)).1
                have h2' : do_.isNone = true → ys.length = 0 := fun h => (hnd (Option.isNone_iff_eq_none.1 h)).1
                have H1 : Hid (co.isNone = true → xs.length = 0) := h1'
                have H2 : Hid (do_.isNone = true → ys.length = 0) := h2'
                clear h1' h2' hnc hnd
                cases e1 : co.isNone <;> cases e2 : do_.isNone
                all_goals
                  go_wp2_with fail
                  go_meet
                · exact ⟨true, rfl, (fun h => by cases h), rfl⟩
                · exact ⟨true, rfl, (fun h => by cases h), rfl⟩
                · exact ⟨true, rfl, (fun h => by cases h), rfl⟩
                · exact ⟨false, rfl, fun _ => ⟨H1.out e1, H2.out e2⟩, rfl⟩
            case rest =>
              obtain ⟨r, rfl, hr, rfl⟩ := hcut
              clear q1 q2 hnc hnd
              go_upto_if 79 with fail
              go_cut [12] (fun j wx => ∃ jo cap zs, zs = xs ++ ys ∧ j = .slice jo zs.length cap ∧ Lies wx jo zs ∧ Below w4.heap.size w4 wx)
              case first =>
                as_aux_lemma =>
                  cases r with
                  | false =>
                    obtain ⟨hx0, hy0⟩ := hr rfl
                    have H0 : Hid ((xs ++ ys).length = 0) := by show (xs ++ ys).length = 0; simp only [List.length_append]; omega
                    clear hr
                    go_wp2_with fail
                    go_meet
                    exact ⟨none, 0, xs ++ ys, rfl, by rw [H0.out], (fun h => by have := H0.out; omega), Below.refl _ _⟩
                  | true =>
                    clear hr
                    obtain ⟨i0, hi, hz0, hz1, hz2⟩ := info_parts Try.info9
                    go_wp2_with (at_make; refine wpList_make_own _ rfl _ _ 22 rfl w4.heap.size 9 i0 (.string ByteArray.empty) 1 Try.underlying22 hi hz0 hz1 _ _ _ (xs.length + ys.length) rfl rfl (by omega) ?b2 ?b3 (Nat.le_refl _) ?_)
                    case b2 => rw [hz2]; omega
                    case b3 => unfold maxLen; omega
                    intro w5 hown0 hgrow0
                    have hbel0 : Below w4.heap.size w4 w5 := (Below.refl _ _).grown hgrow0 (Nat.le_refl _) (fun k h => by cases h)
                    clear hgrow0
                    go_wp2
                    go_loopw [12, 13] (fun j i wr => ∃ k : Nat, k ≤ xs.length ∧ i = .int .i64 k ∧ j = .slice (some ⟨w4.heap.size, 0, none⟩) k (xs.length + ys.length) ∧ wr.ownsRow w4.heap.size 9 1 (.slice (some ⟨w4.heap.size, 0, none⟩) k (xs.length + ys.length)) k (List.take k (xs.map Value.string)) ∧ Below w4.heap.size w4 wr) (fun _ i _ => xs.length - (intOf i).toNat)
                    case atStart => exact ⟨0, Nat.zero_le _, rfl, rfl, by simpa using hown0, hbel0⟩
                    case round =>
                      obtain ⟨k, hk, rfl, rfl, hown, hbel⟩ := hrel
                      by_cases hlt : k < xs.length
                      · obtain ⟨b, off, hb, hix, hc⟩ := (hLc.below hbel).at xs.length k hlt
                        clear hown0 hbel0
                        go_wp2_with (at_builtin; refine wpList_append_fits _ rfl (.tmp 92) (.tmp 97) 22 rfl w4.heap.size 9 i0 1 Try.underlying22 hi hz1 w4.heap.size k (xs.length + ys.length) _ rfl (hown.alloc _) ⟨wr.heap.size, 0, none⟩ 1 1 [.string xs[k]] rfl rfl (new_cell _ _) (str_oneCell _) (by omega) ?_; intro w6 hown6 hgrow6)
                        rw [tk_snoc xs k hlt] at hown6
                        go_roundw
                        case rel => exact ⟨k + 1, by omega, by go_num, rfl, hown6, (hbel.alloc hbel.size _).grown hgrow6 (by have := hbel.size; simp; omega) (fun k hk => by cases hk; exact Nat.le_refl _)⟩
                        case measure => simp [intOf]; omega
                      · obtain rfl : k = xs.length := by omega
                        rw [List.take_of_length_le (by simp)] at hown
                        clear hown0 hbel0
                        go_wp2
                        go_loopw [12, 14] (fun j i wr => ∃ k : Nat, k ≤ ys.length ∧ i = .int .i64 k ∧ j = .slice (some ⟨w4.heap.size, 0, none⟩) (xs.length + k) (xs.length + ys.length) ∧ wr.ownsRow w4.heap.size 9 1 (.slice (some ⟨w4.heap.size, 0, none⟩) (xs.length + k) (xs.length + ys.length)) (xs.length + k) (xs.map Value.string ++ List.take k (ys.map Value.string)) ∧ Below w4.heap.size w4 wr) (fun _ i _ => ys.length - (intOf i).toNat)
                        case atStart => exact ⟨0, Nat.zero_le _, rfl, rfl, by simpa using hown, hbel⟩
                        case round =>
                          clear hown hbel
                          obtain ⟨k, hk, rfl, rfl, hown, hbel⟩ := hrel
                          by_cases hlt : k < ys.length
                          · obtain ⟨b, off, hb, hix, hc⟩ := (hMc.below hbel).at ys.length k hlt
                            go_wp2_with (at_builtin; refine wpList_append_fits _ rfl (.tmp 105) (.tmp 110) 22 rfl w4.heap.size 9 i0 1 Try.underlying22 hi hz1 w4.heap.size (xs.length + k) (xs.length + ys.length) _ rfl (hown.alloc _) ⟨wr.heap.size, 0, none⟩ 1 1 [.string ys[k]] rfl rfl (new_cell _ _) (str_oneCell _) (by omega) ?_; intro w6 hown6 hgrow6)
                            rw [List.append_assoc, tk_snoc ys k hlt, Nat.add_assoc] at hown6
                            go_roundw
                            case rel => exact ⟨k + 1, by omega, by go_num, rfl, hown6, (hbel.alloc hbel.size _).grown hgrow6 (by have := hbel.size; simp; omega) (fun k hk => by cases hk; exact Nat.le_refl _)⟩
                            case measure => simp [intOf]; omega
                          · obtain rfl : k = ys.length := by omega
                            rw [List.take_of_length_le (by simp), ← List.map_append] at hown
                            go_wp2
                            go_meet
                            exact ⟨some ⟨w4.heap.size, 0, none⟩, xs.length + ys.length, xs ++ ys, rfl, by rw [List.length_append], lies_of_own hown, hbel⟩
              case rest =>
                obtain ⟨jo, jc, zs, hzs, rfl, hLj, hbc⟩ := hcut
                have HZ : Hid (zs = xs ++ ys) := hzs
                have hz1 : zs.length ≤ xs.length + ys.length := by rw [hzs, List.length_append]; omega
                have hz2 : xs.length + ys.length ≤ zs.length := by rw [hzs, List.length_append]; omega
                have hLc := hLc.below hbc
                have hMc := hMc.below hbc
                have hLe := hLe.below hbc
                have hMf := hMf.below hbc
                have hb := hb.trans (hbc.mono hb.size)
                clear hbc hr hzs
                cases hx' : xs.any isTr <;> cases hy' : ys.any isTr
                case false.false =>
                  as_aux_lemma =>
                    have HX' : Hid (xs.any isTr = false) := hx'
                    have HY' : Hid (ys.any isTr = false) := hy'
                    have HJ' : Hid (zs.any isTr = false) := by show zs.any isTr = false; rw [HZ.out, List.any_append, hx', hy']; rfl
                    clear hx' hy'
                    go_wp2_with fail
                    refine (limit_no eo xs.length xs ex _ hLe (by omega) HX'.out).mono ?_
                    rintro e w5 ⟨rfl, hb5⟩
                    go_wp2_with fail
                    refine (limit_no fo ys.length ys ex _ ((hMf.below hb5).lay _) (by omega) HY'.out).mono ?_
                    rintro e w6 ⟨rfl, hb6⟩
                    go_wp2_with fail
                    refine (limit_no jo jc zs ex _ ((((hLj.below hb5).lay _).below hb6).lay _) (by omega) HJ'.out).mono ?_
                    rintro e w7 ⟨rfl, hb7⟩
                    obtain ⟨p0, p1, p2⟩ := three (bnext (blay hb6 _) hb7)
                    obtain ⟨q0, q1, q2⟩ := three hb7
                    have s5 : w5.heap.size < w7.heap.size := by have h1 := hb6.size; have h2 := hb7.size; simp at h1 h2; omega
                    have s6 : w6.heap.size < w7.heap.size := by have h2 := hb7.size; simp at h2; omega
                    have s7_1 : w7.heap.size < w7.heap.size + 1 := by omega
                    have s7_2 : w7.heap.size < w7.heap.size + 1 + 1 := by omega
                    have s7_3 : w7.heap.size < w7.heap.size + 1 + 1 + 1 := by omega
                    have s7_4 : w7.heap.size < w7.heap.size + 1 + 1 + 1 + 1 := by omega
                    have s7_5 : w7.heap.size < w7.heap.size + 1 + 1 + 1 + 1 + 1 := by omega
                    have s7_6 : w7.heap.size < w7.heap.size + 1 + 1 + 1 + 1 + 1 + 1 := by omega
                    have s7_7 : w7.heap.size < w7.heap.size + 1 + 1 + 1 + 1 + 1 + 1 + 1 := by omega
                    have s7_8 : w7.heap.size < w7.heap.size + 1 + 1 + 1 + 1 + 1 + 1 + 1 + 1 := by omega
                    have s7_9 : w7.heap.size < w7.heap.size + 1 + 1 + 1 + 1 + 1 + 1 + 1 + 1 + 1 := by omega
                    have s7_10 : w7.heap.size < w7.heap.size + 1 + 1 + 1 + 1 + 1 + 1 + 1 + 1 + 1 + 1 := by omega
                    have s5_1 : w5.heap.size < w7.heap.size + 1 := by omega
                    have s6_1 : w6.heap.size < w7.heap.size + 1 := by omega
                    have s5_2 : w5.heap.size < w7.heap.size + 1 + 1 := by omega
                    have s6_2 : w6.heap.size < w7.heap.size + 1 + 1 := by omega
                    have s5_3 : w5.heap.size < w7.heap.size + 1 + 1 + 1 := by omega
                    have s6_3 : w6.heap.size < w7.heap.size + 1 + 1 + 1 := by omega
                    have s5_4 : w5.heap.size < w7.heap.size + 1 + 1 + 1 + 1 := by omega
                    have s6_4 : w6.heap.size < w7.heap.size + 1 + 1 + 1 + 1 := by omega
                    have s5_5 : w5.heap.size < w7.heap.size + 1 + 1 + 1 + 1 + 1 := by omega
                    have s6_5 : w6.heap.size < w7.heap.size + 1 + 1 + 1 + 1 + 1 := by omega
                    have s5_6 : w5.heap.size < w7.heap.size + 1 + 1 + 1 + 1 + 1 + 1 := by omega
                    have s6_6 : w6.heap.size < w7.heap.size + 1 + 1 + 1 + 1 + 1 + 1 := by omega
                    have s5_7 : w5.heap.size < w7.heap.size + 1 + 1 + 1 + 1 + 1 + 1 + 1 := by omega
                    have s6_7 : w6.heap.size < w7.heap.size + 1 + 1 + 1 + 1 + 1 + 1 + 1 := by omega
                    have s5_8 : w5.heap.size < w7.heap.size + 1 + 1 + 1 + 1 + 1 + 1 + 1 + 1 := by omega
                    have s6_8 : w6.heap.size < w7.heap.size + 1 + 1 + 1 + 1 + 1 + 1 + 1 + 1 := by omega
                    have s5_9 : w5.heap.size < w7.heap.size + 1 + 1 + 1 + 1 + 1 + 1 + 1 + 1 + 1 := by omega
                    have s6_9 : w6.heap.size < w7.heap.size + 1 + 1 + 1 + 1 + 1 + 1 + 1 + 1 + 1 := by omega
                    have s5_10 : w5.heap.size < w7.heap.size + 1 + 1 + 1 + 1 + 1 + 1 + 1 + 1 + 1 + 1 := by omega
                    have s6_10 : w6.heap.size < w7.heap.size + 1 + 1 + 1 + 1 + 1 + 1 + 1 + 1 + 1 + 1 := by omega
                    have hbz := bnext (blay (bnext (blay (bnext hb hb5) _) hb6) _) hb7
                    have hLe := (((hLe.below hb5).lay _).below hb6).lay _ |>.below hb7
                    have hMf := (((hMf.below hb5).lay _).below hb6).lay _ |>.below hb7
                    have hLj := (((hLj.below hb5).lay _).below hb6).lay _ |>.below hb7
                    have hLc := (((hLc.below hb5).lay _).below hb6).lay _ |>.below hb7
                    have hMc := (((hMc.below hb5).lay _).below hb6).lay _ |>.below hb7
                    clear hb hb5 hb6 hb7
                    have hne : (ex != ex) = false := by simp
                    go_upto_region 50 with (first
                      | (go_at_call 10; refine (lim_any _ _ _ _ _ _).mono ?_; rintro e w' ⟨rfl, c, rfl⟩)
                      | (go_at_call 11; refine (exc_any _ _ _ _ _ _).mono ?_; rintro e w' ⟨rfl, c, rfl⟩)
                      | (go_at_call 12; refine (nam_any _ _ _ _ _ _).mono ?_; rintro e w' ⟨rfl, c, rfl⟩))
                    go_cut [27] (fun i wx => i = .int .i64 0 ∧ Lies wx jo zs ∧ Lies wx eo xs ∧ Lies wx fo ys ∧ Lies wx co xs ∧ Lies wx do_ ys ∧ Below w'.heap.size w' wx)
                    case first =>
                      as_aux_lemma =>
                        go_wp2_with fail
                        go_meet
                        refine ⟨rfl, ?_, ?_, ?_, ?_, ?_, ?_⟩
                        · repeat (first | exact hLj | refine Lies.lay ?_ _)
                        · repeat (first | exact hLe | refine Lies.lay ?_ _)
                        · repeat (first | exact hMf | refine Lies.lay ?_ _)
                        · repeat (first | exact hLc | refine Lies.lay ?_ _)
                        · repeat (first | exact hMc | refine Lies.lay ?_ _)
                        · repeat (first | exact hbz | refine blay ?_ _)
                    case rest =>
                      as_aux_lemma =>
                        clear hLj hLe hMf hLc hMc hbz p0 p1 p2 q0 q1 q2
                        obtain ⟨rfl, hLj, hLe, hMf, hLc, hMc, hbz⟩ := hcut
                        go_wp2
                        go_loopw [27] (fun i wr => ∃ k m : Nat, k ≤ xs.length ∧ i = .int .i64 k ∧ wr = wc.drewN m) (fun i _ => xs.length - (intOf i).toNat)
                        case atStart => exact ⟨0, 0, Nat.zero_le _, rfl, rfl⟩
                        case round =>
                          obtain ⟨k, m, hk, rfl, rfl⟩ := hrel
                          by_cases hlt : k < xs.length
                          · obtain ⟨b1, o1, hb1, hix1, hc1⟩ := hLj.at jc k (by omega)
                            obtain ⟨b2, o2, hb2, hix2, hc2⟩ := hLe.at xs.length k hlt
                            obtain ⟨b3, o3, hb3, hix3, hc3⟩ := hLc.at xs.length k hlt
                            rw [zs_left HZ.out k hlt] at hc1
                            clear hLj hLe hMf hLc hMc hbz
                            go_wp2
                            go_quiet (fail)
                            go_wp2
                            go_roundw
                            case rel => exact ⟨k + 1, m + nq, by omega, by go_num, rfl⟩
                            case measure => simp [intOf]; omega
                          · go_wp2
                            go_loopw [28] (fun i wr => ∃ k m : Nat, k ≤ ys.length ∧ i = .int .i64 k ∧ wr = wc.drewN m) (fun i _ => ys.length - (intOf i).toNat)
                            case atStart => exact ⟨0, m, Nat.zero_le _, rfl, rfl⟩
                            case round =>
                              obtain ⟨k, m, hk, rfl, rfl⟩ := hrel
                              by_cases hlt : k < ys.length
                              · obtain ⟨b1, o1, hb1, hix1, hc1⟩ := hLj.at jc (xs.length + k) (by omega)
                                obtain ⟨b2, o2, hb2, hix2, hc2⟩ := hMf.at ys.length k hlt
                                obtain ⟨b3, o3, hb3, hix3, hc3⟩ := hMc.at ys.length k hlt
                                rw [zs_right HZ.out k] at hc1
                                rw [Int.natCast_add] at hix1
                                clear hLj hLe hMf hLc hMc hbz
                                go_wp2
                                go_quiet (fail)
                                go_wp2
                                go_roundw
                                case rel => exact ⟨k + 1, m + nq, by omega, by go_num, rfl⟩
                                case measure => simp [intOf]; omega
                              · go_wp2
                                go_ret
                                exact ⟨rfl, hbz.trans ⟨rfl, rfl, rfl, Nat.le_refl _, fun _ _ => rfl⟩⟩
                case false.true =>
                  as_aux_lemma =>
                    have HX' : Hid (xs.any isTr = false) := hx'
                    have HY' : Hid (ys.any isTr = true) := hy'
                    have HJ' : Hid (zs.any isTr = true) := by show zs.any isTr = true; rw [HZ.out, List.any_append, hx', hy']; rfl
                    clear hx' hy'
                    go_wp2_with fail
                    refine (limit_no eo xs.length xs ex _ hLe (by omega) HX'.out).mono ?_
                    rintro e w5 ⟨rfl, hb5⟩
                    go_wp2_with fail
                    refine (limit_yes fo ys.length ys ex _ ((hMf.below hb5).lay _) (by omega) HY'.out).mono ?_
                    rintro e w6 ⟨⟨a6, rfl⟩, hb6⟩
                    go_wp2_with fail
                    refine (limit_yes jo jc zs ex _ ((((hLj.below hb5).lay _).below hb6).lay _) (by omega) HJ'.out).mono ?_
                    rintro e w7 ⟨⟨a7, rfl⟩, hb7⟩
                    have hbz := bnext (blay (bnext (blay (bnext hb hb5) _) hb6) _) hb7
                    clear hb hb5 hb6 hb7 hLe hMf hLj
                    go_wp2_with fail
                    refine (zero_yes _).mono ?_
                    rintro e w8 ⟨rfl, hb8⟩
                    go_wp2
                    go_ret
                    exact ⟨rfl, bnext (blay hbz _) hb8⟩
                case true.false =>
                  as_aux_lemma =>
                    have HX' : Hid (xs.any isTr = true) := hx'
                    have HY' : Hid (ys.any isTr = false) := hy'
                    have HJ' : Hid (zs.any isTr = true) := by show zs.any isTr = true; rw [HZ.out, List.any_append, hx', hy']; rfl
                    clear hx' hy'
                    go_wp2_with fail
                    refine (limit_yes eo xs.length xs ex _ hLe (by omega) HX'.out).mono ?_
                    rintro e w5 ⟨⟨a5, rfl⟩, hb5⟩
                    go_wp2_with fail
                    refine (limit_no fo ys.length ys ex _ ((hMf.below hb5).lay _) (by omega) HY'.out).mono ?_
                    rintro e w6 ⟨rfl, hb6⟩
                    go_wp2_with fail
                    refine (limit_yes jo jc zs ex _ ((((hLj.below hb5).lay _).below hb6).lay _) (by omega) HJ'.out).mono ?_
                    rintro e w7 ⟨⟨a7, rfl⟩, hb7⟩
                    have hbz := bnext (blay (bnext (blay (bnext hb hb5) _) hb6) _) hb7
                    clear hb hb5 hb6 hb7 hLe hMf hLj
                    go_wp2_with fail
                    refine (zero_yes _).mono ?_
                    rintro e w8 ⟨rfl, hb8⟩
                    go_wp2
                    go_ret
                    exact ⟨rfl, bnext (blay hbz _) hb8⟩
                case true.true =>
                  as_aux_lemma =>
                    have HX' : Hid (xs.any isTr = true) := hx'
                    have HY' : Hid (ys.any isTr = true) := hy'
                    have HJ' : Hid (zs.any isTr = true) := by show zs.any isTr = true; rw [HZ.out, List.any_append, hx', hy']; rfl
                    clear hx' hy'
                    go_wp2_with fail
                    refine (limit_yes eo xs.length xs ex _ hLe (by omega) HX'.out).mono ?_
                    rintro e w5 ⟨⟨a5, rfl⟩, hb5⟩
                    go_wp2_with fail
                    refine (limit_yes fo ys.length ys ex _ ((hMf.below hb5).lay _) (by omega) HY'.out).mono ?_
                    rintro e w6 ⟨⟨a6, rfl⟩, hb6⟩
                    go_wp2_with fail
                    refine (limit_yes jo jc zs ex _ ((((hLj.below hb5).lay _).below hb6).lay _) (by omega) HJ'.out).mono ?_
                    rintro e w7 ⟨⟨a7, rfl⟩, hb7⟩
                    have hbz := bnext (blay (bnext (blay (bnext hb hb5) _) hb6) _) hb7
                    clear hb hb5 hb6 hb7 hLe hMf hLj
                    go_wp2_with fail
                    refine (zero_yes _).mono ?_
                    rintro e w8 ⟨rfl, hb8⟩
                    go_wp2
                    go_ret
                    exact ⟨rfl, bnext (blay hbz _) hb8⟩

end Go.Proofs.Qxb6630450a
