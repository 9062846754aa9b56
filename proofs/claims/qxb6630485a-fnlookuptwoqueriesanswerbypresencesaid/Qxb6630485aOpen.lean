/-
  SEAT b6630485a: a slice of entries among the arguments, opened into what the walks ask.
-/
import Derived.Test.Qxb6630485aBase
import Derived.ProofKit
import Derived.OpenShut
import Derived.ShutString
import Derived.ChangeOld
import Derived.Below
import Derived.Deep.Slices
namespace Go.Proofs.Qxb6630485a
open Go.ChangeShapes Go.WideShapes Go.ChangeAt Go.RowKit Go.Deep

theorem own : ownKnob Try.prog.godebug = none := by kernel_rfl
theorem laidOut : laidOutB Try.prog = true := by kernel_rfl
theorem Try.cells34 : Try.prog.cellsOf 34 = 4 := by kernel_rfl
theorem Try.cells9 : Try.prog.cellsOf 9 = 1 := by kernel_rfl
theorem Try.cells3 : Try.prog.cellsOf 3 = 1 := by kernel_rfl

theorem four {l : List Value} (h : l.length = 4) : ∃ a b c d, l = [a, b, c, d] := by
  match l, h with
  | [a, b, c, d], _ => exact ⟨a, b, c, d, rfl⟩

/-- One entry's four cells, opened. -/
theorem one {H : Type} {enc : TypeId × Value → H} {W : World} {n : Nat} {cs : List Value} {y : DataW H × List MemPlace} (h : DataW.trod enc Try.prog W 0 (fun _ => true) true n 34 cs = some y) :
    ∃ x : Ent, cs = [.string x.id, .string x.name, .int .i64 x.cls, .string x.tok] ∧ x.id.size ≤ maxLen := by
  obtain ⟨xs, n', _, _, hl, hlen, hf⟩ := DataW.trod_struct Try.underlying34 h
  rw [Try.cells34] at hl
  obtain ⟨c0, c1, c2, c3, rfl⟩ := four hl
  have g0 := hf 0 _ rfl
  have g1 := hf 1 _ rfl
  have g2 := hf 2 _ rfl
  have g3 := hf 3 _ rfl
  simp [Try.cells9, Try.cells3] at g0 g1 g2 g3 hlen
  obtain ⟨s0, e0, _, hs0⟩ := DataW.trod_string Try.underlying9 (g0.trans (List.getElem?_eq_getElem (by omega)))
  obtain ⟨s1, e1, _, _⟩ := DataW.trod_string Try.underlying9 (g1.trans (List.getElem?_eq_getElem (by omega)))
  obtain ⟨k2, e2, _, _⟩ := DataW.trod_int Try.underlying3 (g2.trans (List.getElem?_eq_getElem (by omega)))
  obtain ⟨s3, e3, _, _⟩ := DataW.trod_string Try.underlying9 (g3.trans (List.getElem?_eq_getElem (by omega)))
  simp at e0 e1 e2 e3
  subst e0 e1 e2 e3
  exact ⟨⟨s0, s1, k2, s3⟩, rfl, hs0⟩

/-- What the walks are told of a slice of entries that came in. -/
structure Came (W : World) (ao : Option Addr) (len cap : Nat) (es : List Ent) : Prop where
  length : es.length = len
  lies : Lies W ao es
  max : es.length ≤ 9223372036854775807
  size : ∀ i, i < es.length → (ent es i).id.size ≤ maxLen

theorem came {H : Type} {enc : TypeId × Value → H} {W : World} {ao : Option Addr} {len cap : Nat} {d : DataW H} {p : List MemPlace} (h : DataW.Trod enc Try.prog W 0 (fun _ => true) true 22 (.slice ao len cap) d p) :
    ∃ es, Came W ao len cap es := by
  obtain ⟨fuel, hf⟩ := h
  rcases open_slice Try.underlying22 hf with ⟨hcs, _⟩ | ⟨a, l, c, m, n, D, Pl, hcs, _, hl, hm, hmm, _, hx⟩
  · simp [Value.cells] at hcs
    obtain ⟨rfl, rfl, rfl⟩ := hcs
    exact ⟨[], rfl, fun h => by simp at h, by simp, fun i hi => by simp at hi⟩
  · simp [Value.cells] at hcs
    obtain ⟨rfl, rfl, rfl⟩ := hcs
    simp only [if_true] at hmm
    unfold maxLen at hm
    have each : ∀ i, i < len → ∃ x : Ent, (∀ j, j < 4 → W.cell? ((a.add (i * 4)).add j) = [Value.string x.id, .string x.name, .int .i64 x.cls, .string x.tok][j]?) ∧ x.id.size ≤ maxLen := by
      intro i hi
      obtain ⟨cs', h1, h2⟩ := hx i (by omega)
      rw [Try.cells34] at h1
      obtain ⟨x, rfl, hs⟩ := one h2
      exact ⟨x, (World.cells?_some h1).2.2, hs⟩
    obtain ⟨X, hX⟩ : ∃ X : Nat → Ent, ∀ i, i < len → (∀ j, j < 4 → W.cell? ((a.add (i * 4)).add j) = [Value.string (X i).id, .string (X i).name, .int .i64 (X i).cls, .string (X i).tok][j]?) ∧ (X i).id.size ≤ maxLen := by
      classical
      refine ⟨fun i => if hi : i < len then Classical.choose (each i hi) else Ent.zero, fun i hi => ?_⟩
      simp only [dif_pos hi]
      exact Classical.choose_spec (each i hi)
    have hent : ∀ i, i < len → ent ((List.range len).map X) i = X i := fun i hi => by simp [ent, hi]
    have hlen : ((List.range len).map X).length = len := by simp
    refine ⟨(List.range len).map X, hlen, fun hp => ?_, by omega, fun i hi => ?_⟩
    · rw [hlen] at hp
      obtain ⟨b, off, spot⟩ := a
      have hspot : spot = none := by simpa [Addr.add] using World.cell?_spot ((hX 0 hp).1 0 (by decide))
      subst hspot
      refine ⟨b, off, rfl, ?_, fun i hi => ?_⟩
      · have := (hX 0 hp).1 0 (by decide)
        exact World.block_lt_of_cell? _ ⟨b, off + 0 * 4 + 0, none⟩ (by simpa [Addr.add] using this)
      · rw [hlen] at hi
        rw [hent i hi]
        have h4 := (hX i hi).1
        have q0 := h4 0 (by decide)
        have q1 := h4 1 (by decide)
        have q2 := h4 2 (by decide)
        have q3 := h4 3 (by decide)
        rw [Go.WideShapes.add_plain, Go.WideShapes.add_plain] at q0 q1 q2 q3
        exact ⟨q0, q1, q2, q3⟩
    · rw [hlen] at hi
      rw [hent i hi]
      exact (hX i hi).2

end Go.Proofs.Qxb6630485a
