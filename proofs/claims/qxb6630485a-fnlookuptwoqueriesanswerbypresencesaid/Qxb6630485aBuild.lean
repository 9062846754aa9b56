/-
  SEAT b6630485a: zzBuild.
-/
import Derived.Test.Qxb6630485aLook
import Derived.Deep.OwnRows
import Derived.BigRegion
import Derived.Deep.RegionHeld3
namespace Go.Proofs.Qxb6630485a
open Go.RowKit Go.WideMaps Go.Maps

/-- The cells of the crawler that is made of an entry. -/
def crw (x : Ent) : Nat → Value
  | 0 => .string x.id
  | 1 => .string x.name
  | 2 => .int .i64 x.cls
  | 3 => .slice none 0 0
  | _ => .string x.tok

/-- What the row of crawlers holds after k rounds. -/
def rowAt (es : List Ent) (k j : Nat) : Value := if j / 5 < k then crw (ent es (j / 5)) (j % 5) else crw Ent.zero (j % 5)

theorem row_step (es : List Ent) (k j : Nat) :
    (if j = k * 5 + 4 then .string (ent es k).tok else if j = k * 5 + 3 then .slice none 0 0 else if j = k * 5 + 2 then .int .i64 (ent es k).cls else if j = k * 5 + 1 then .string (ent es k).name else if j = k * 5 then .string (ent es k).id else rowAt es k j) = rowAt es (k + 1) j := by
  unfold rowAt
  by_cases h : j / 5 = k
  · have hj : j = k * 5 + j % 5 := by omega
    have hm : j % 5 < 5 := Nat.mod_lt _ (by decide)
    rw [if_pos (show j / 5 < k + 1 by omega), h]
    generalize j % 5 = o at hj hm
    subst hj
    match o, hm with
    | 0, _ => rw [if_neg (by omega), if_neg (by omega), if_neg (by omega), if_neg (by omega), if_pos (by omega)]; rfl
    | 1, _ => rw [if_neg (by omega), if_neg (by omega), if_neg (by omega), if_pos (by omega)]; rfl
    | 2, _ => rw [if_neg (by omega), if_neg (by omega), if_pos (by omega)]; rfl
    | 3, _ => rw [if_neg (by omega), if_pos (by omega)]; rfl
    | 4, _ => rw [if_pos (by omega)]; rfl
  · rw [if_neg (by omega), if_neg (by omega), if_neg (by omega), if_neg (by omega), if_neg (by omega)]
    by_cases h2 : j / 5 < k
    · rw [if_pos h2, if_pos (by omega)]
    · rw [if_neg h2, if_neg (by omega)]

/-- What is known of the map after k rounds. -/
structure MapOk (es : List Ent) (k : Nat) (D : DataW Unit) : Prop where
  isMap : IsMap D
  has : ∀ s, Maps.has D (key s) = true ↔ ∃ i, i < k ∧ (ent es i).id = s
  at' : ∀ i, i < k → D.atKey (key (ent es i).id) (.lit (.int .i64 0)) = .lit (.int .i64 i)

theorem MapOk.start (es : List Ent) : MapOk es 0 (.map []) :=
  ⟨isMap_empty, fun s => ⟨fun h => by simp [Maps.has] at h, fun ⟨i, hi, _⟩ => by omega⟩, fun i hi => by omega⟩

theorem MapOk.step {es : List Ent} {k : Nat} {D : DataW Unit} (h : MapOk es k D) (hh : Maps.has D (key (ent es k).id) = false) : MapOk es (k + 1) (D.put (key (ent es k).id) (.lit (.int .i64 k))) := by
  have hkl : WideAt.IsKeyLit (key (ent es k).id) := trivial
  refine ⟨h.isMap.put _ _, fun s => ?_, fun i hi => ?_⟩
  · by_cases e : s = (ent es k).id
    · subst e
      rw [has_put_same h.isMap hkl]
      exact ⟨fun _ => ⟨k, by omega, rfl⟩, fun _ => rfl⟩
    · rw [has_put_other (key_ne e), h.has]
      constructor
      · rintro ⟨i, hi, rfl⟩; exact ⟨i, by omega, rfl⟩
      · rintro ⟨i, hi, rfl⟩
        exact ⟨i, by
          rcases Nat.lt_or_ge i k with h1 | h1
          · exact h1
          · obtain rfl : i = k := by omega
            exact absurd rfl e, rfl⟩
  · by_cases e : i = k
    · subst e
      exact atKey_put_same h.isMap hkl _ _
    · have hi' : i < k := by omega
      have hne : (ent es i).id ≠ (ent es k).id := fun e2 => by
        have := (h.has (ent es k).id).2 ⟨i, hi', e2⟩
        rw [hh] at this
        cases this
      rw [atKey_put_other (key_ne hne)]
      exact h.at' i hi'

theorem Try.info38 : (Try.prog.info? 38).map (fun i => (i.zero, i.size, i.bytes)) = some (some (.agg #[.string ByteArray.empty, .string ByteArray.empty, .int .i64 0, .slice none 0 0, .string ByteArray.empty]), 5, 80) := by kernel_rfl

/-- make([]Crawler, n): an equation for every world. -/
theorem make38 (n : Nat) (hn : n ≤ 65536) (w : World) : (Instr.makeSlice 25 (.int .i64 (n : Int)) (.int .i64 (n : Int))).run Try.prog w =
    .ok (.slice (some ⟨w.heap.size, 0, none⟩) n n) (w.alloc (.cells (madeCells #[.string ByteArray.empty, .string ByteArray.empty, .int .i64 0, .slice none 0 0, .string ByteArray.empty] (n * 5)) 38)) := by
  obtain ⟨i, hi, hz0, hz1, hz2⟩ := info_parts Try.info38
  have := run_make (P := Try.prog) w 25 38 i _ Try.underlying25 hi hz0 .i64 .i64 n n (by omega) (Int.le_refl _) (by rw [hz2]; omega) (by omega)
  rw [hz1, Int.toNat_natCast] at this
  exact this

theorem row_made (es : List Ent) (n : Nat) (w : World) :
    (w.alloc (.cells (madeCells #[.string ByteArray.empty, .string ByteArray.empty, .int .i64 0, .slice none 0 0, .string ByteArray.empty] (n * 5)) 38)).rowIs w.heap.size 38 (n * 5) (rowAt es 0) := by
  refine ⟨_, heap_alloc_new w _, size_madeCells _ _, fun j hj => ?_⟩
  unfold rowAt
  rw [if_neg (by omega)]
  have hm : j % 5 < 5 := Nat.mod_lt _ (by decide)
  have e : (madeCells #[Value.string ByteArray.empty, .string ByteArray.empty, .int .i64 0, .slice none 0 0, .string ByteArray.empty] (n * 5))[j]? = some (#[Value.string ByteArray.empty, .string ByteArray.empty, .int .i64 0, .slice none 0 0, .string ByteArray.empty][j % 5]!) := by
    simp [madeCells, hj]
  rw [e]
  congr 1
  generalize j % 5 = o at hm
  match o, hm with
  | 0, _ => rfl
  | 1, _ => rfl
  | 2, _ => rfl
  | 3, _ => rfl
  | 4, _ => rfl

theorem made_map (w : World) (B : Nat) (h : B = w.heap.size) : (w.alloc (.map #[] 0)).ownsMap (H := Unit) Try.prog 9 (plainElem Try.prog 3) B 0 (.map []) := by
  subst h; exact World.ownsMap_made _ _ _ _

theorem row_stored {w1 : World} {N n k : Nat} {es : List Ent} (h : w1.rowIs N 38 n (rowAt es k)) : (((((w1.setCell ⟨N, k * 5, none⟩ (.string (ent es k).id)).setCell ⟨N, k * 5 + 1, none⟩ (.string (ent es k).name)).setCell ⟨N, k * 5 + 2, none⟩ (.int .i64 (ent es k).cls)).setCell ⟨N, k * 5 + 3, none⟩ (.slice none 0 0)).setCell ⟨N, k * 5 + 4, none⟩ (.string (ent es k).tok)).drew.rowIs N 38 n (rowAt es (k + 1)) := by
  have := (((((h.set (k * 5) (.string (ent es k).id)).set (k * 5 + 1) (.string (ent es k).name)).set (k * 5 + 2) (.int .i64 (ent es k).cls)).set (k * 5 + 3) (.slice none 0 0)).set (k * 5 + 4) (.string (ent es k).tok))
  exact (this.congr (fun j _ => row_step es k j)).drew
theorem map_set {w1 : World} {N o B m : Nat} {v : Value} {D : DataW Unit} (hne : B ≠ N) (h : w1.ownsMap Try.prog 9 (plainElem Try.prog 3) B m D) : (w1.setCell ⟨N, o, none⟩ v).ownsMap Try.prog 9 (plainElem Try.prog 3) B m D :=
  h.setCell hne v
theorem map_drew {w1 : World} {B m : Nat} {D : DataW Unit} (h : w1.ownsMap Try.prog 9 (plainElem Try.prog 3) B m D) : w1.drew.ownsMap Try.prog 9 (plainElem Try.prog 3) B m D := by
  obtain ⟨es, clock, hb, r⟩ := h
  exact ⟨es, clock, hb, r⟩
theorem bel_stored {w w1 : World} {B N k : Nat} {es : List Ent} (hB : B ≤ N) (h : Below B w w1) : Below B w (((((w1.setCell ⟨N, k * 5, none⟩ (.string (ent es k).id)).setCell ⟨N, k * 5 + 1, none⟩ (.string (ent es k).name)).setCell ⟨N, k * 5 + 2, none⟩ (.int .i64 (ent es k).cls)).setCell ⟨N, k * 5 + 3, none⟩ (.slice none 0 0)).setCell ⟨N, k * 5 + 4, none⟩ (.string (ent es k).tok)).drew := by
  have h1 := h.setCell (p := ⟨N, k * 5, none⟩) hB (.string (ent es k).id)
  have h2 := h1.setCell (p := ⟨N, k * 5 + 1, none⟩) hB (.string (ent es k).name)
  have h3 := h2.setCell (p := ⟨N, k * 5 + 2, none⟩) hB (.int .i64 (ent es k).cls)
  have h4 := h3.setCell (p := ⟨N, k * 5 + 3, none⟩) hB (.slice none 0 0)
  exact (h4.setCell (p := ⟨N, k * 5 + 4, none⟩) hB (.string (ent es k).tok)).drew

/-- What zzBuild answers. -/
def Built (es : List Ent) (w : World) (e : Ending) (w' : World) : Prop :=
  (e = .returned (.tuple #[.slice none 0 0, .map none, .bool false]) ∧ Below w.heap.size w w') ∨
  (e = .returned (.tuple #[.slice (some ⟨w.heap.size, 0, none⟩) es.length es.length, .map (some (w.heap.size + 1)), .bool true]) ∧ w'.rowIs w.heap.size 38 (es.length * 5) (rowAt es es.length) ∧
    (∃ D : DataW Unit, w'.ownsMap Try.prog 9 (plainElem Try.prog 3) (w.heap.size + 1) es.length D ∧ MapOk es es.length D) ∧ Below w.heap.size w w')

set_option maxHeartbeats 2000000 in
set_option maxRecDepth 100000 in
theorem build_any (ao : Option Addr) (cap : Nat) (es : List Ent) (w : World) (hL : Lies w ao es) (hn : es.length ≤ 65536) (hsz : ∀ i, i < es.length → (ent es i).id.size ≤ maxLen) :
    Calls Try.prog 7 #[.slice ao es.length cap] w fun e w' => Built es w e w' := by
  have hmk := make38 es.length hn
  have hmm := @run_makeMap Try.prog
  go_enter Try.func7, Try.ntmps7
  go_wp2
  clear hmk hmm
  go_loopw [7] (fun i wr => ∃ (k : Nat) (D : DataW Unit), k ≤ es.length ∧ i = .int .i64 k ∧ wr.rowIs w.heap.size 38 (es.length * 5) (rowAt es k) ∧ wr.ownsMap Try.prog 9 (plainElem Try.prog 3) (w.heap.size + 1) k D ∧ MapOk es k D ∧ Below w.heap.size w wr) (fun i _ => es.length - (intOf i).toNat)
  case atStart => exact ⟨0, _, Nat.zero_le _, rfl, (row_made es es.length w).alloc _, made_map _ _ (by simp), MapOk.start es, ((Below.refl _ _).alloc (Nat.le_refl _) _).alloc (by simp) _⟩
  case round =>
    obtain ⟨k, D, hk, rfl, hrow, hown, hmap, hbel⟩ := hrel
    by_cases hlt : k < es.length
    · have hkey : keyOf Try.prog 9 (.string (ent es k).id) = some (key (ent es k).id) := keyOf_string_mk Try.underlying9 (hsz k hlt)
      obtain ⟨b, off, hb, hix, h0, h1, h2, h3⟩ := hL.at cap k hlt
      have g0 := (hbel.cell (p := ⟨b, off, none⟩) hb).trans h0
      cases hh : Maps.has D (key (ent es k).id)
      case true =>
        clear hL h0 h1 h2 h3
        go_wp2_with (at_lookup; refine wpList_lookup_own_ok_int _ rfl _ _ 26 rfl 9 3 .i64 law Try.underlying26 Try.underlying3 (zeroE _) (w.heap.size + 1) k D rfl hown _ _ rfl hkey ?_; intro c hat hwc)
        go_ret3
        exact .inl ⟨rfl, hbel⟩
      case false =>
        go_wp2_with (first
          | (at_lookup; refine wpList_lookup_own_ok_int _ rfl _ _ 26 rfl 9 3 .i64 law Try.underlying26 Try.underlying3 (zeroE _) (w.heap.size + 1) k D rfl hown _ _ rfl hkey ?_; intro c hat hwc)
          | (at_mapUpdate; refine wpList_mapUpdate_own _ rfl _ _ _ 26 rfl 9 3 law Try.underlying26 _ (w.heap.size + 1) k _ rfl hown (by unfold maxLen; omega) _ _ _ rfl rfl hkey _ [] (plainElem_int Try.underlying3 (WalkArith.wf_i64 (by omega))) ?_; intro w1 hown1 hgrow1))
        have hbel1 : Below w.heap.size w w1 := hbel.grown hgrow1 hbel.size (fun j hj => by cases hj; omega)
        have hrow1 : w1.rowIs w.heap.size 38 (es.length * 5) (rowAt es k) := hrow.of_block (hgrow1.block _ hrow.lt (by simp))
        have e0 := (hbel1.cell (p := ⟨b, off, none⟩) hb).trans h0
        have e1 := (hbel1.cell (p := ⟨b, off + 1, none⟩) hb).trans h1
        have e2 := (hbel1.cell (p := ⟨b, off + 2, none⟩) hb).trans h2
        have e3 := (hbel1.cell (p := ⟨b, off + 3, none⟩) hb).trans h3
        have r0 := hrow1.cell (i := k * 5) (by omega)
        have r1 := hrow1.cell (i := k * 5 + 1) (by omega)
        have r2 := hrow1.cell (i := k * 5 + 2) (by omega)
        have r3 := hrow1.cell (i := k * 5 + 3) (by omega)
        have r4 := hrow1.cell (i := k * 5 + 4) (by omega)
        have f0 := hrow1.frozen (k * 5)
        have f1 := hrow1.frozen (k * 5 + 1)
        have f2 := hrow1.frozen (k * 5 + 2)
        have f3 := hrow1.frozen (k * 5 + 3)
        have f4 := hrow1.frozen (k * 5 + 4)
        have hmap1 := hmap.step hh
        have HR : Hid (w1.rowIs w.heap.size 38 (es.length * 5) (rowAt es k)) := hrow1
        clear hrow hown hmap hbel hgrow1 hrow1 hL h0 h1 h2 h3 g0 hkey hh
        have hkl : (k : Int) < (es.length : Int) := by omega
        have hbn : ¬ b = w.heap.size := by omega
        have hbn' : ¬ w.heap.size = b := by omega
        go_region_held3 (fun w' => w'.cell? ⟨b, off, none⟩ = some (.string (ent es k).id) ∧ w'.cell? ⟨b, off + 1, none⟩ = some (.string (ent es k).name) ∧ w'.cell? ⟨b, off + 2, none⟩ = some (.int .i64 (ent es k).cls) ∧ w'.cell? ⟨b, off + 3, none⟩ = some (.string (ent es k).tok)) (go_keep) (fail)
        go_wp2
        go_roundw
        case rel =>
          have hne : w.heap.size + 1 ≠ w.heap.size := by omega
          exact ⟨k + 1, _, by omega, by go_num, row_stored HR.out, map_drew (map_set hne (map_set hne (map_set hne (map_set hne (map_set hne hown1))))), hmap1, bel_stored (Nat.le_refl _) hbel1⟩
        case measure => simp [intOf]; omega
    · obtain rfl : k = es.length := by omega
      go_wp2
      go_ret3
      exact .inr ⟨rfl, hrow, ⟨D, hown, hmap⟩, hbel⟩

end Go.Proofs.Qxb6630485a
