/-
  WHAT BOTH CARDS OF THIS SEAT ASK: the listed tables; the argument that is a slice of bytes.
-/
import Derived.Test.Qxb6602634aDoorCards
import Derived.Test.Qxb6602634aDoorTie
import Derived.Test.Qxb6602634aDoorShelf
import Derived.ProofKit
import Derived.LaidMore
import Derived.Stop.Joined
import Derived.Stop.LaidErr
import Derived.Lib.LaidTab
import Derived.SevenTiedAt
namespace Go.Proofs.Qxb6602634aDoor
open Go.ChangeShapes Go.WideShapes Go.ChangeAt Go.RowKit

theorem own : ownKnob Tryd.prog.godebug = none := by kernel_rfl
theorem laidOut : laidOutB Tryd.prog = true := by kernel_rfl

/-- A slice of bytes that came in: it is nil; or it leads to a row of cells. -/
def IsRow (w : World) (a : Option Addr) (len cap : Nat) (zs : List Int) : Prop :=
  (a = none ∧ len = 0 ∧ cap = 0 ∧ zs = []) ∨
  ∃ x, a = some x ∧ len ≤ cap ∧ cap ≤ maxLen ∧ zs.length = cap ∧ (∀ i, i < zs.length → w.cell? (x.add i) = some (.int .u8 (zs.getD i 0)))

/-- The heap that the program's own text lays meets the row's condition. -/
theorem door_met (os : Os) (args : Array Value) : laidMetH Tryd.prog Rows.fnUSDAppendTextExactRow.laid ((World.doorLaid Tryd.prog 400 os).forCall (fun _ _ => 0) ⟨#[], args, []⟩).memory :=
  laidMetH_of_parts3 (fuel := 8) (laidMet_of_run' 8 (by kernel_rfl) (by kernel_rfl)) (by kernel_rfl) (by kernel_rfl)

theorem gPow : Tryd.prog.globalNamed Tryd.pow10Name = some 0 := by kernel_rfl
theorem gPowType : (Tryd.prog.globals[0]?).map (·.type) = some 42 := by kernel_rfl
/-- The table of the powers of ten, out of what is listed. -/
theorem tab_of {W : World} (h : laidMetH Tryd.prog Rows.fnUSDAppendTextExactRow.laid W) : Lib.TabIs Tryd.prog W Tryd.pow10Name .u64 Lib.pow10Tab := by
  rw [MakeChecks.laidMetH_plain _ _ _ (by kernel_rfl)] at h
  have h2 := h.tail.tail
  exact Lib.tabIs_of_head gPow gPowType Tryd.underlying42 Tryd.underlying30 (by kernel_rfl) (by kernel_rfl) h2
end Go.Proofs.Qxb6602634aDoor
