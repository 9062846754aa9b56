/-
  SEAT b6630485a: the catalogue in memory, as both laws use it.
-/
import Derived.Test.Qxb6630485aBuild
import Derived.LaidEqlPtr
import Derived.Laws.Pointers
namespace Go.Proofs.Qxb6630485a
open Go.RowKit Go.WideMaps Go.Maps

/-- The catalogue of the entries: its crawlers in block N, its map in block N + 1, its own two cells in block Q. -/
structure Cat (es : List Ent) (w : World) (N Q : Nat) (D : DataW Unit) : Prop where
  row : w.rowIs N 38 (es.length * 5) (rowAt es es.length)
  map : w.ownsMap Try.prog 9 (plainElem Try.prog 3) (N + 1) es.length D
  c0 : w.cell? ⟨Q, 0, none⟩ = some (.slice (some ⟨N, 0, none⟩) es.length es.length)
  c1 : w.cell? ⟨Q, 1, none⟩ = some (.map (some (N + 1)))

theorem map_below {w w' : World} {B m : Nat} {D : DataW Unit} (h : w.ownsMap Try.prog 9 (plainElem Try.prog 3) B m D) (hb : Below w.heap.size w w') : w'.ownsMap Try.prog 9 (plainElem Try.prog 3) B m D := by
  obtain ⟨es, clock, hh, r⟩ := h
  exact ⟨es, clock, (hb.block B (Array.getElem?_eq_some_iff.1 hh).1).trans hh, r⟩

theorem Cat.below {es : List Ent} {w w' : World} {N Q : Nat} {D : DataW Unit} (h : Cat es w N Q D) (hb : Below w.heap.size w w') : Cat es w' N Q D :=
  ⟨h.row.of_block (hb.block N h.row.lt), map_below h.map hb, (hb.cell (p := ⟨Q, 0, none⟩) (World.block_lt_of_cell? _ _ h.c0)).trans h.c0, (hb.cell (p := ⟨Q, 1, none⟩) (World.block_lt_of_cell? _ _ h.c1)).trans h.c1⟩

theorem rowAt_at (es : List Ent) (n k o : Nat) (hk : k < n) (ho : o < 5) : rowAt es n (k * 5 + o) = crw (ent es k) o := by
  unfold rowAt
  have h1 : (k * 5 + o) / 5 = k := by omega
  have h2 : (k * 5 + o) % 5 = o := by omega
  rw [h1, h2, if_pos hk]

/-- The five cells of crawler k. -/
theorem Cat.at {es : List Ent} {w : World} {N Q : Nat} {D : DataW Unit} (h : Cat es w N Q D) {k : Nat} (hk : k < es.length) :
    w.cell? ⟨N, k * 5, none⟩ = some (.string (ent es k).id) ∧ w.cell? ⟨N, k * 5 + 1, none⟩ = some (.string (ent es k).name) ∧ w.cell? ⟨N, k * 5 + 2, none⟩ = some (.int .i64 (ent es k).cls) ∧
    w.cell? ⟨N, k * 5 + 3, none⟩ = some (.slice none 0 0) ∧ w.cell? ⟨N, k * 5 + 4, none⟩ = some (.string (ent es k).tok) := by
  refine ⟨?_, ?_, ?_, ?_, ?_⟩
  · rw [h.row.cell (i := k * 5) (by omega)]; exact congrArg some (rowAt_at es _ k 0 hk (by decide))
  · rw [h.row.cell (i := k * 5 + 1) (by omega), rowAt_at es _ k 1 hk (by decide)]; rfl
  · rw [h.row.cell (i := k * 5 + 2) (by omega), rowAt_at es _ k 2 hk (by decide)]; rfl
  · rw [h.row.cell (i := k * 5 + 3) (by omega), rowAt_at es _ k 3 hk (by decide)]; rfl
  · rw [h.row.cell (i := k * 5 + 4) (by omega), rowAt_at es _ k 4 hk (by decide)]; rfl

/-- Lookup of crawler k's own id. -/
theorem Cat.hit {es : List Ent} {w : World} {N Q : Nat} {D : DataW Unit} (h : Cat es w N Q D) (hm : MapOk es es.length D) {k : Nat} (hk : k < es.length) (hs : (ent es k).id.size ≤ maxLen) :
    Calls Try.prog 9 #[.pointer (some ⟨Q, 0, none⟩), .string (ent es k).id] w fun e w' => e = .returned (.pointer (some ⟨N, k * 5, none⟩)) ∧ w' = w :=
  lookup_hit Q N es.length (N + 1) es.length k D _ w h.c0 h.c1 h.map hs ((hm.has _).2 ⟨k, hk, rfl⟩) hk (hm.at' k hk)

/-- zzSame of crawler k and entry k. -/
theorem Cat.same {es : List Ent} {w : World} {N Q : Nat} {D : DataW Unit} (h : Cat es w N Q D) {k : Nat} (hk : k < es.length) :
    Calls Try.prog 10 #[.pointer (some ⟨N, k * 5, none⟩), .agg #[.string (ent es k).id, .string (ent es k).name, .int .i64 (ent es k).cls, .string (ent es k).tok]] w fun e w' => e = .returned (.bool true) ∧ ∃ (c : Array Value) (m : Nat), w' = (w.alloc (.cells c 34)).drewN m := by
  obtain ⟨h0, h1, h2, h3, h4⟩ := h.at hk
  exact same_yes N (k * 5) (ent es k) w h.row.lt h0 h1 h2 h3 h4

theorem same_below (w : World) (c : Array Value) (m : Nat) : Below w.heap.size w ((w.alloc (.cells c 34)).drewN m) :=
  ((Below.refl _ _).alloc (Nat.le_refl _) (.cells c 34)).trans ⟨rfl, rfl, rfl, Nat.le_refl _, fun _ _ => rfl⟩

theorem bnext {w a b : World} (h : Below w.heap.size w a) (h2 : Below a.heap.size a b) : Below w.heap.size w b := h.trans (h2.mono h.size)

/-- The catalogue behind ZZnewCatalogue. -/
theorem Cat.made {es : List Ent} {w : World} {N : Nat} {D : DataW Unit} (hr : w.rowIs N 38 (es.length * 5) (rowAt es es.length)) (hm : w.ownsMap Try.prog 9 (plainElem Try.prog 3) (N + 1) es.length D) :
    Cat es (w.alloc (.cells #[.slice (some ⟨N, 0, none⟩) es.length es.length, .map (some (N + 1))] 44)) N w.heap.size D :=
  ⟨hr.alloc _, hm.alloc _, by simp [go_sem], by simp [go_sem]⟩


/-! ### '==' and '!=' between two pointers to a crawler -/
theorem ptr_in_same (a : Addr) (d : Nat) (w : World) : (Op.equalIn (d + 1) 31 (.pointer (some a)) (.pointer (some a))).run Try.prog w = .ok true w := by
  obtain ⟨j, hj, _⟩ := info_parts Try.info38
  simp [Op.equalIn, run_underlying Try.underlying31, sizeOf, typeInfo, hj, run_sameAddr_same]
theorem ptr_in_other (N i j : Nat) (hne : i ≠ j) (d : Nat) (w : World) : (Op.equalIn (d + 1) 31 (.pointer (some ⟨N, i, none⟩)) (.pointer (some ⟨N, j, none⟩))).run Try.prog w = .ok false w := by
  obtain ⟨t, ht, _, hs, _⟩ := info_parts Try.info38
  have hab : (⟨N, i, none⟩ : Addr) ≠ ⟨N, j, none⟩ := fun e => hne (by injection e)
  have hsz : t.size ≠ 0 := by rw [hs]; decide
  simp [Op.equalIn, run_underlying Try.underlying31, sizeOf, typeInfo, ht, hsz, sameAddr]
theorem ptr_neq_same (a : Addr) (w : World) : (binOp .neq 31 (.pointer (some a)) (.pointer (some a))).run Try.prog w = .ok (.bool false) w := by
  simp only [binOp]
  simp [Op.equal, Op.maxDepth, ptr_in_same a 9999]
theorem ptr_eql_same (a : Addr) (w : World) : (binOp .eql 31 (.pointer (some a)) (.pointer (some a))).run Try.prog w = .ok (.bool true) w := by
  simp only [binOp]
  simp [Op.equal, Op.maxDepth, ptr_in_same a 9999]
theorem ptr_eql_other (N i j : Nat) (hne : i ≠ j) (w : World) : (binOp .eql 31 (.pointer (some ⟨N, i, none⟩)) (.pointer (some ⟨N, j, none⟩))).run Try.prog w = .ok (.bool false) w := by
  simp only [binOp]
  simp [Op.equal, Op.maxDepth, ptr_in_other N i j hne 9999]

end Go.Proofs.Qxb6630485a
