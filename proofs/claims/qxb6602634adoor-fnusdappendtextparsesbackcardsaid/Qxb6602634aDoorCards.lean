/-
  DERIVED. GIVEN WITH THE SEED: THE CARDS: each row of Qxb6602634aDoorRows.lean that lists a variable, with what it lists TIED to the program's text (the seventh form; the later family's looks); each row that meets fmt, with fmt's text TOLD by the authors' own Lean function (tested against real Go, not proved from fmt's source: count such statements apart). THE CARD IS WHAT COUNTS. Prove the row's statement (the work); the ties are given (Qxb6602634aDoorTie.lean); close each card by the builder's one call (the guide's Derived/Test/ToyasCard.lean, 'card_holds'). Laid BY PROGRAM, IN A SANDBOX (cutbox-door.mjs). By AI agents, Wed Nov 11 2026. No macro, syntax, notation, axiom, sorry.
-/
import Derived.Test.Qxb6602634aDoorRows
import GoSem.ClaimSeven
namespace Go.Proofs.Qxb6602634aDoor
namespace Rows

/-- THE TIED CARD OF 'zzlaws_root_b1.FnUSDAppendTextExact'. -/
def fnUSDAppendTextExactCard : Claim7 := { stood := { row := fnUSDAppendTextExactRow, standIns := [], harness := (true, "20090c0683fd755db020feb8065c193e09a39992c014e7f1b71e99e7c6ec20bb"), looks := false }, kinds := [], alts := [], laidByText := true, laidKinds := [.data, .data, .data], laidTests := true, laidLooks := .later }
def FnUSDAppendTextExactCardSaid : Prop := Claim7.holds Tryd.pinned (.plain (OpenSpec.ofChange fnUSDAppendTextExactSpec)) fnUSDAppendTextExactCard

/-- THE TIED CARD OF 'zzlaws_root_b1.FnUSDAppendTextParsesBack'. -/
def fnUSDAppendTextParsesBackCard : Claim7 := { stood := { row := fnUSDAppendTextParsesBackRow, standIns := [], harness := (true, "20090c0683fd755db020feb8065c193e09a39992c014e7f1b71e99e7c6ec20bb"), looks := false }, kinds := [], alts := [], laidByText := true, laidKinds := [.data, .data, .data], laidTests := true, laidLooks := .later }
def FnUSDAppendTextParsesBackCardSaid : Prop := Claim7.holds Tryd.pinned (.plain (OpenSpec.ofChange fnUSDAppendTextParsesBackSpec)) fnUSDAppendTextParsesBackCard
end Rows
end Go.Proofs.Qxb6602634aDoor
