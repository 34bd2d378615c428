/-
  WHAT EVERY ROW OF THIS SEAT ASKS: the argument that is a slice of strings.
-/
import Derived.Test.Qxb6602936aRows
import Derived.Test.Qxb6602936aStrs
import Derived.ProofKit
import Derived.SliceStrings
import Derived.ChangeOld
namespace Go.Proofs.Qxb6602936a
open Go.ChangeShapes Go.WideShapes Go.ChangeAt Go.RowKit

theorem own : ownKnob Try.prog.godebug = none := by kernel_rfl
theorem laidOut : laidOutB Try.prog = true := by kernel_rfl

theorem addr_plain {w : World} {a : Addr} {v : Value} (h : w.cell? (a.add 0) = some v) : ∃ b o, a = ⟨b, o, none⟩ := by
  obtain ⟨b, o, spot⟩ := a
  have hs : spot = none := by simpa [Addr.add] using World.cell?_spot h
  subst hs
  exact ⟨b, o, rfl⟩

/-- A slice of strings that came in, as the walks take it. -/
theorem open_strs_arg {H : Type} {enc : TypeId × Value → H} {W : World} {sp : Nat → Bool} {held : Bool} {a : Option Addr} {len cap : Nat} {d : DataW H} {p : List MemPlace} (hall : ∀ b, sp b = true)
    (h : DataW.Trod enc Try.prog W 0 sp held 22 (.slice a len cap) d p) : ∃ xs : List ByteArray, xs.length = len ∧ len ≤ maxLen ∧ Has W a xs ∧ (a = none → len = 0) := by
  obtain ⟨fuel, hf⟩ := h
  rcases open_strings Try.underlying22 Try.underlying9 (by kernel_rfl) hf with ⟨hcs, _⟩ | ⟨x, l, c, ss, hcs, _, hl, hm, hz, _, hcell, _⟩
  · simp [Value.cells] at hcs
    obtain ⟨rfl, rfl, rfl⟩ := hcs
    exact ⟨[], rfl, by decide, has_nil _ _, fun _ => rfl⟩
  · simp [Value.cells] at hcs
    obtain ⟨rfl, rfl, rfl⟩ := hcs
    rw [hall, if_pos rfl] at hz
    refine ⟨ss.take len, by rw [List.length_take]; omega, Nat.le_trans hl hm, ?_, fun h => (by cases h)⟩
    intro j hj
    rw [List.length_take] at hj
    obtain ⟨b, o, rfl⟩ := addr_plain (hcell 0 (by omega))
    have hc := hcell j (by omega)
    rw [Go.WideShapes.add_plain] at hc
    refine ⟨b, o, rfl, World.block_lt_of_cell? _ _ hc, ?_⟩
    rw [hc]
    have hjl : j < len := by omega
    simp [List.getD, hjl]
end Go.Proofs.Qxb6602936a
