/-
  SEAT b6630485a: the walk of FnLookupFindsEveryEntryAtItsPlace (function 3).
-/
import Derived.Test.Qxb6630485aCat
import Derived.Deep.DeepCutAuto
namespace Go.Proofs.Qxb6630485a
open Go.RowKit Go.WideMaps Go.Maps

set_option maxHeartbeats 4000000 in
set_option maxRecDepth 100000 in
theorem find_any (ao : Option Addr) (cap : Nat) (es : List Ent) (w : World) (hL : Lies w ao es) (hn : es.length ≤ 9223372036854775807) (hsz : ∀ i, i < es.length → (ent es i).id.size ≤ maxLen) :
    Calls Try.prog 3 #[.slice ao es.length cap] w fun e w' => e = .returned (.bool true) ∧ Below w.heap.size w w' := by
  have pn := ptr_neq_same
  go_enter Try.func3, Try.ntmps3
  go_wp2_with fail
  refine (bytes5_any ao cap es w hL hn).mono ?_
  rintro e w' ⟨⟨r, rfl⟩, rfl⟩
  cases r with
  | false =>
    go_wp2
    go_ret
    exact ⟨rfl, Below.refl _ _⟩
  | true =>
    by_cases h16 : (65536 : Int) < (es.length : Int)
    · go_wp2
      go_ret
      exact ⟨rfl, Below.refl _ _⟩
    have hn16 : es.length ≤ 65536 := by omega
    go_wp2_with fail
    refine (entryBytes_any ao cap es _ hL hn).mono ?_
    rintro e w' ⟨⟨r, hr0, hr1, rfl⟩, rfl⟩
    by_cases hbig : (1048576 : Int) < r
    · go_wp2
      go_ret
      exact ⟨rfl, Below.refl _ _⟩
    go_wp2_with fail
    refine (build_any ao cap es _ hL hn16 hsz).mono ?_
    rintro e w1 hB
    rcases hB with ⟨rfl, hb1⟩ | ⟨rfl, hrow, ⟨D, hown, hmap⟩, hb1⟩
    · go_wp2
      go_ret
      exact ⟨rfl, hb1⟩
    go_wp2_with fail
    refine (new_any _ _ _ _ _).mono ?_
    rintro e w2 ⟨rfl, hw2⟩
    have hcat := Cat.made hrow hown
    rw [← hw2] at hcat
    have hb2 : Below w'.heap.size w' w2 := by rw [hw2]; exact hb1.alloc hb1.size _
    clear hrow hown hb1 hw2
    go_wp2
    go_loopw [7, 8] (fun i p wr => ∃ k : Nat, k ≤ es.length ∧ i = .int .i64 k ∧ Below w2.heap.size w2 wr) (fun i _ _ => es.length - (intOf i).toNat)
    case atStart => exact ⟨0, Nat.zero_le _, rfl, Below.refl _ _⟩
    case round =>
      obtain ⟨k, hk, rfl, hbel⟩ := hrel
      have hcr := hcat.below hbel
      have hbr := bnext hb2 hbel
      by_cases hlt : k < es.length
      · obtain ⟨b, off, hb, hix, h0, h1, h2, h3⟩ := (hL.below hbr).at cap k hlt
        have hz := hsz k hlt
        go_wp2_with fail
        refine (hcr.hit hmap hlt hz).mono ?_
        rintro e w3 ⟨rfl, rfl⟩
        go_wp2_with fail
        refine (hcr.same hlt).mono ?_
        rintro e w4 ⟨rfl, c, m, hw4⟩
        have hb4 : Below w3.heap.size w3 w4 := by rw [hw4]; exact same_below _ _ _
        have hcr := hcr.below hb4
        have hbel := bnext hbel hb4
        obtain ⟨g0, g1, g2, g3, g4⟩ := hcr.at hlt
        clear hw4 h0 h1 h2 h3 hb4 hbr
        go_wp2_with fail
        refine (hcr.hit hmap hlt hz).mono ?_
        rintro e w5 ⟨rfl, rfl⟩
        go_wp2
        go_roundw
        case rel => exact ⟨k + 1, by omega, by go_num, hbel⟩
        case measure => simp [intOf]; omega
      · go_wp2
        go_loopw [9] (fun i wr => ∃ k : Nat, k ≤ es.length ∧ i = .int .i64 k ∧ Below w2.heap.size w2 wr) (fun i _ => es.length - (intOf i).toNat)
        case atStart => exact ⟨0, Nat.zero_le _, rfl, hbel⟩
        case round =>
          clear hcr hbr hbel
          obtain ⟨k, hk, rfl, hbel⟩ := hrel
          have hcr := hcat.below hbel
          have hbr := bnext hb2 hbel
          by_cases hlt : k < es.length
          · obtain ⟨b, off, hb, hix, h0, h1, h2, h3⟩ := (hL.below hbr).at cap k hlt
            have hkl : (k : Int) < (es.length : Int) := by omega
            go_wp2
            have hcd : Cat es wr.drew w'.heap.size w1.heap.size D := hcr.below (Below.refl _ _).drew
            go_region_held3 (fun w' => w'.cell? ⟨b, off, none⟩ = some (.string (ent es k).id) ∧ w'.cell? ⟨b, off + 1, none⟩ = some (.string (ent es k).name) ∧ w'.cell? ⟨b, off + 2, none⟩ = some (.int .i64 (ent es k).cls) ∧ w'.cell? ⟨b, off + 3, none⟩ = some (.string (ent es k).tok)) (simp [go_sem, World.cell?_alloc_past, hb, h0, h1, h2, h3]) (first | (go_at_call 10; refine (hcd.same hlt).mono ?_; rintro e w4 ⟨rfl, c, m, rfl⟩))
            go_wp2
            go_roundw
            case rel => exact ⟨k + 1, by omega, by go_num, bnext hbel (same_below _ _ _)⟩
            case measure => simp [intOf]; omega
          · go_wp2
            go_ret
            exact ⟨rfl, hbr⟩

end Go.Proofs.Qxb6630485a
