/-
  THE PROOF OF 'Rows.FnCompareMatches128BitSubtractionSaid'. The frame ('lifted', 'over') is the tool's shell for this function; the walk is ours.
-/
import Derived.Test.Qxb6630407aRows
import Derived.Test.Qxb6630407aCmp
import Derived.Test.Qxb6630407aSub
import Derived.WalkSpells
import Derived.WalkKit
import Derived.ProofKit
import Derived.OpenShut
import Derived.ShutString
namespace Go.Proofs.Qxb6630407a.fnCompareMatches128BitSubtraction
open Go.ChangeShapes Go.WideShapes Go.ChangeAt Go.RowKit
open Go.ChangeMaps (open_string shut_string)
set_option linter.unusedVariables false      -- a walk need not use every 'w<i>' (that an integer argument fits its kind)

theorem own : ownKnob Try.prog.godebug = none := by kernel_rfl

/-- subBorrow's contract at named answers. -/
theorem sub_at (x y b r1 r2 : Int) (hx : 0 ≤ x) (hx' : x ≤ 18446744073709551615) (hy : 0 ≤ y) (hy' : y ≤ 18446744073709551615) (hb : 0 ≤ b) (hb' : b ≤ 1) (h1 : (x - y - b) % 18446744073709551616 = r1) (h2 : bor x y b = r2) (w : World) :
    Calls Try.prog 6 #[.int .u64 x, .int .u64 y, .int .u64 b] w fun e w' =>
      e = .returned (.tuple #[.int .u64 r1, .int .u64 r2]) ∧ w' = w := by
  have := sub_any x y b hx hx' hy hy' hb hb' w
  rwa [h1, h2] at this

theorem or_yes : (bits .or .u64 0 0 == 0) = true := by rw [or_zero 0 0 (by omega) (by omega) (by omega) (by omega)]; rfl
theorem or_no (lo hi : Int) (h1 : 0 ≤ lo) (h2 : lo ≤ 18446744073709551615) (h3 : 0 ≤ hi) (h4 : hi ≤ 18446744073709551615) (h : lo ≠ 0 ∨ hi ≠ 0) : (bits .or .u64 lo hi == 0) = false := by
  rw [or_zero lo hi h1 h2 h3 h4]
  rcases h with h | h <;> simp [h]

/-! ### STEP 1: THE WALK: the Go text returns true. 'Grown w w'': the world has at most new blocks (Derived/RowKit3.lean). Part the cases AHEAD of 'go_enter' where a test parts the walk; take each callee by a contract of your own. -/
theorem walk (a0 : Int) (a1 : Int) (a2 : Int) (a3 : Int) (w0 : (Lit.int .u64 a0).wf = true) (w1 : (Lit.int .u64 a1).wf = true) (w2 : (Lit.int .u64 a2).wf = true) (w3 : (Lit.int .u64 a3).wf = true) (w : World) :
    Calls Try.prog 4 #[.int .u64 a0, .int .u64 a1, .int .u64 a2, .int .u64 a3] w fun e w' => e = .returned (.bool true) ∧ Grown w w' := by
  have p0 := bounds_u64 w0
  have p1 := bounds_u64 w1
  have p2 := bounds_u64 w2
  have p3 := bounds_u64 w3
  clear w0 w1 w2 w3
  obtain ⟨b1, hb1, k0, k1⟩ : ∃ b1, bor a1 a3 0 = b1 ∧ 0 ≤ b1 ∧ b1 ≤ 1 := ⟨_, rfl, by unfold bor; split <;> omega, by unfold bor; split <;> omega⟩
  obtain ⟨lo, hlo, l0, l1⟩ : ∃ lo, (a1 - a3 - 0) % 18446744073709551616 = lo ∧ 0 ≤ lo ∧ lo ≤ 18446744073709551615 := ⟨_, rfl, by omega, by omega⟩
  obtain ⟨hi, hhi, m0, m1⟩ : ∃ hi, (a0 - a2 - b1) % 18446744073709551616 = hi ∧ 0 ≤ hi ∧ hi ≤ 18446744073709551615 := ⟨_, rfl, by omega, by omega⟩
  have hbb : b1 = if a1 < a3 then 1 else 0 := by rw [← hb1]; unfold bor; simp
  have Elo : Hid ((a1 - a3 - 0) % 18446744073709551616 = lo) := hlo
  have Ehi : Hid ((a0 - a2 - b1) % 18446744073709551616 = hi) := hhi
  have Eb1 : Hid (bor a1 a3 0 = b1) := hb1
  rcases (show (a0 < a2 ∨ (a0 = a2 ∧ a1 < a3)) ∨ (a0 = a2 ∧ a1 = a3) ∨ (a2 < a0 ∨ (a0 = a2 ∧ a3 < a1)) by omega) with hL | ⟨hE, hE'⟩ | hG
  · have Eb2 : Hid (bor a0 a2 b1 = 1) := by show bor a0 a2 b1 = 1; unfold bor; rw [if_pos]; split at hbb <;> omega
    clear hlo hhi hb1 hbb
    go_enter Try.func4, Try.ntmps4
    go_wp2_with fail
    refine (sub_at _ _ _ lo b1 p1.1 p1.2 p3.1 p3.2 (by omega) (by omega) Elo.out Eb1.out _).mono ?_
    rintro e w' ⟨rfl, rfl⟩
    go_wp2_with fail
    refine (sub_at _ _ _ hi 1 p0.1 p0.2 p2.1 p2.2 (by omega) (by omega) Ehi.out Eb2.out _).mono ?_
    rintro e w' ⟨rfl, rfl⟩
    go_wp2_with (first
      | (go_at_call 5; refine (cmp_eq _ _ _ _ (by omega) _).mono ?_; rintro e w' ⟨rfl, c1, c2, rfl⟩)
      | (go_at_call 5; refine (cmp_lt _ _ _ _ (by omega) _).mono ?_; rintro e w' ⟨rfl, c1, c2, rfl⟩)
      | (go_at_call 5; refine (cmp_gt _ _ _ _ (by omega) _).mono ?_; rintro e w' ⟨rfl, c1, c2, rfl⟩))
    go_ret
    exact ⟨rfl, by repeat (first | exact Grown.refl _ | apply Grown.drew | apply Grown.alloc)⟩
  · subst hE hE'
    obtain rfl : lo = 0 := by omega
    obtain rfl : b1 = 0 := by rw [hbb, if_neg (by omega)]
    obtain rfl : hi = 0 := by omega
    have Eb2 : Hid (bor a0 a0 0 = 0) := by show bor a0 a0 0 = 0; unfold bor; rw [if_neg (by omega)]
    clear hlo hhi hb1 hbb
    have ho := or_yes
    go_enter Try.func4, Try.ntmps4
    go_wp2_with fail
    refine (sub_at _ _ _ 0 0 p1.1 p1.2 p1.1 p1.2 (by omega) (by omega) Elo.out Eb1.out _).mono ?_
    rintro e w' ⟨rfl, rfl⟩
    go_wp2_with fail
    refine (sub_at _ _ _ 0 0 p0.1 p0.2 p0.1 p0.2 (by omega) (by omega) Ehi.out Eb2.out _).mono ?_
    rintro e w' ⟨rfl, rfl⟩
    go_wp2_with (first
      | (go_at_call 5; refine (cmp_eq _ _ _ _ (by omega) _).mono ?_; rintro e w' ⟨rfl, c1, c2, rfl⟩)
      | (go_at_call 5; refine (cmp_lt _ _ _ _ (by omega) _).mono ?_; rintro e w' ⟨rfl, c1, c2, rfl⟩)
      | (go_at_call 5; refine (cmp_gt _ _ _ _ (by omega) _).mono ?_; rintro e w' ⟨rfl, c1, c2, rfl⟩))
    go_ret
    exact ⟨rfl, by repeat (first | exact Grown.refl _ | apply Grown.drew | apply Grown.alloc)⟩
  · have Eb2 : Hid (bor a0 a2 b1 = 0) := by show bor a0 a2 b1 = 0; unfold bor; rw [if_neg]; split at hbb <;> omega
    have ho : (bits .or .u64 lo hi == 0) = false := or_no lo hi l0 l1 m0 m1 (by split at hbb <;> omega)
    clear hlo hhi hb1 hbb
    go_enter Try.func4, Try.ntmps4
    go_wp2_with fail
    refine (sub_at _ _ _ lo b1 p1.1 p1.2 p3.1 p3.2 (by omega) (by omega) Elo.out Eb1.out _).mono ?_
    rintro e w' ⟨rfl, rfl⟩
    go_wp2_with fail
    refine (sub_at _ _ _ hi 0 p0.1 p0.2 p2.1 p2.2 (by omega) (by omega) Ehi.out Eb2.out _).mono ?_
    rintro e w' ⟨rfl, rfl⟩
    go_wp2_with (first
      | (go_at_call 5; refine (cmp_eq _ _ _ _ (by omega) _).mono ?_; rintro e w' ⟨rfl, c1, c2, rfl⟩)
      | (go_at_call 5; refine (cmp_lt _ _ _ _ (by omega) _).mono ?_; rintro e w' ⟨rfl, c1, c2, rfl⟩)
      | (go_at_call 5; refine (cmp_gt _ _ _ _ (by omega) _).mono ?_; rintro e w' ⟨rfl, c1, c2, rfl⟩))
    go_ret
    exact ⟨rfl, by repeat (first | exact Grown.refl _ | apply Grown.drew | apply Grown.alloc)⟩

/-! ### THE ROW's STEP: WRITTEN OUT: LEAVE IT -/
set_option maxRecDepth 100000 in
theorem lifted (os : Os) (started : os.Started) (H : Type) (enc : TypeId × Value → H) :
    ReturnsInHanded {} Try.checked os 4 .any (Rows.fnCompareMatches128BitSubtractionSpec.pre6 enc Try.prog Try.f4 Rows.fnCompareMatches128BitSubtractionRow.domain false) (Rows.fnCompareMatches128BitSubtractionSpec.post enc Try.prog Try.f4 false true false false) := by
  refine returnsInHanded_of_change (C := Try.checked) own started (by kernel_rfl) Try.func4
    (ChangeSpec.witness6 (enc := enc) (C := Try.checked) false ⟨#[], #[.int .u64 0, .int .u64 0, .int .u64 0, .int .u64 0], []⟩ 8 (by kernel_rfl) (by kernel_rfl) (by kernel_rfl) (by kernel_rfl)) ?_
  intro W base args ds gs before hval0 hW hcnd _
  have hval : ∀ (j : Nat) t v, Try.f4.params[j]? = some t → args[j]? = some v → Value.okWide Try.prog W .any base t v := hval0
  have hW' := hW
  obtain ⟨p, q, hA0, hV, rfl, hfz, hnd⟩ := hW
  have hA : DataW.TrodAll enc Try.prog W 0 (fun _ => true) true Try.f4.params.toList args.toList ds p := hA0
  rw [Try.params4] at hA hval
  obtain ⟨v0, vs0, d0, ds0, p0, q0, hargs, rfl, rfl, h0, r0⟩ := trodAll_cons hA
  obtain ⟨v1, vs1, d1, ds1, p1, q1, rfl, rfl, rfl, h1, r1⟩ := trodAll_cons r0
  obtain ⟨v2, vs2, d2, ds2, p2, q2, rfl, rfl, rfl, h2, r2⟩ := trodAll_cons r1
  obtain ⟨v3, vs3, d3, ds3, p3, q3, rfl, rfl, rfl, h3, r3⟩ := trodAll_cons r2
  obtain ⟨rfl, rfl, rfl⟩ := trodAll_nil r3
  obtain rfl : args = #[v0, v1, v2, v3] := by cases args; simp_all
  obtain ⟨rfl, rfl⟩ := trodVars_none hV
  obtain ⟨a0, rfl, rfl, rfl, w0⟩ := open_int Try.underlying22 (hval 0 22 v0 rfl rfl) h0
  obtain ⟨a1, rfl, rfl, rfl, w1⟩ := open_int Try.underlying22 (hval 1 22 v1 rfl rfl) h1
  obtain ⟨a2, rfl, rfl, rfl, w2⟩ := open_int Try.underlying22 (hval 2 22 v2 rfl rfl) h2
  obtain ⟨a3, rfl, rfl, rfl, w3⟩ := open_int Try.underlying22 (hval 3 22 v3 rfl rfl) h3
  clear hA0 hval0
  simp only [List.append_nil] at hW'
  refine (walk a0 a1 a2 a3 w0 w1 w2 w3 W).mono fun e W' ⟨he, hg⟩ => ?_
  subst he
  exact ⟨_, rfl, post_of_same (pa := []) (pv := []) hW' (fun _ _ _ => (trodAll_cons_mk (shut_bool Try.underlying4 _) trodAll_mk0)) (fun sp _ => (trodAll_cons_mk (shut_int Try.underlying22 w0) (trodAll_cons_mk (shut_int Try.underlying22 w1) (trodAll_cons_mk (shut_int Try.underlying22 w2) (trodAll_cons_mk (shut_int Try.underlying22 w3) trodAll_mk0))))) (fun _ _ => rfl) rfl
    (hg.frame _) hg.2.1 (ok_one (by kernel_rfl) rfl (okWide_bool_mk Try.underlying4 _))⟩

theorem over : Rows.fnCompareMatches128BitSubtractionRow.holds Try.pinned (OpenSpec.ofChange Rows.fnCompareMatches128BitSubtractionSpec) :=
  OpenClaim.holds_of_wide 4 Try.f4 rfl rfl rfl rfl rfl rfl rfl ⟨rfl, rfl, rfl, rfl, rfl⟩ rfl rfl rfl rfl rfl (by kernel_rfl) Try.func4 (by kernel_rfl)
    (of_decide_eq_true (by kernel_rfl)) (by unfold Func.isWrapper; first | (rw [if_pos (by decide +kernel)]; kernel_rfl) | (rw [if_neg (by decide +kernel)]; exact ⟨rfl, rfl⟩))
    (fun os started H enc _ => lifted os started H enc)

/-- ████ THE STATEMENT ████ -/
theorem proved : Rows.FnCompareMatches128BitSubtractionSaid :=
  over
end Go.Proofs.Qxb6630407a.fnCompareMatches128BitSubtraction
