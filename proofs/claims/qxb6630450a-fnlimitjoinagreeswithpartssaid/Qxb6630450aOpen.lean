/-
  SEAT b6630450a: a slice of strings among the arguments, opened into what the walks ask.
-/
import Derived.Test.Qxb6630450aBase
import Derived.ProofKit
import Derived.OpenShut
import Derived.ShutString
import Derived.ChangeOld
import Derived.Below
import Derived.SliceStrings
namespace Go.Proofs.Qxb6630450a
open Go.ChangeShapes Go.WideShapes Go.ChangeAt Go.RowKit

theorem own : ownKnob Try.prog.godebug = none := by kernel_rfl
theorem laidOut : laidOutB Try.prog = true := by kernel_rfl

/-- What the walks are told of a slice of strings that came in. -/
structure Came (W : World) (ao : Option Addr) (len cap : Nat) (xs : List ByteArray) : Prop where
  length : xs.length = len
  lies : Lies W ao xs
  nil : ao = none → xs.length = 0 ∧ cap = 0
  max : xs.length ≤ 9223372036854775807

theorem came {H : Type} {enc : TypeId × Value → H} {W : World} {ao : Option Addr} {len cap : Nat} {d : DataW H} {p : List MemPlace} (h : DataW.Trod enc Try.prog W 0 (fun _ => true) true 22 (.slice ao len cap) d p) :
    ∃ xs, Came W ao len cap xs := by
  obtain ⟨fuel, hf⟩ := h
  rcases open_strings Try.underlying22 Try.underlying9 (by kernel_rfl) hf with ⟨hcs, _⟩ | ⟨x, l, c, ss, hcs, _, hl, hm, hz, _, hcell, _⟩
  · simp [Value.cells] at hcs
    obtain ⟨rfl, rfl, rfl⟩ := hcs
    exact ⟨[], rfl, fun h => by simp at h, fun _ => ⟨rfl, rfl⟩, by simp⟩
  · simp [Value.cells] at hcs
    obtain ⟨rfl, rfl, rfl⟩ := hcs
    simp only [if_true] at hz
    unfold maxLen at hm
    have hlen : (ss.take len).length = len := by rw [List.length_take]; omega
    refine ⟨ss.take len, hlen, fun hp => ?_, (fun h => by cases h), by omega⟩
    rw [hlen] at hp
    obtain ⟨b, off, spot⟩ := x
    have hspot : spot = none := by simpa [Addr.add] using World.cell?_spot (hcell 0 (by omega))
    subst hspot
    have hc : ∀ j, j < ss.length → W.cell? ⟨b, off + j, none⟩ = some (.string (ss.getD j ByteArray.empty)) := fun j hj => by rw [← Go.WideShapes.add_plain]; exact hcell j hj
    refine ⟨b, off, rfl, World.block_lt_of_cell? _ ⟨b, off + 0, none⟩ (hc 0 (by omega)), fun i hi => ?_⟩
    rw [hc i (by omega)]
    have hi' : i < len := by omega
    simp [List.getD, hi']

end Go.Proofs.Qxb6630450a
