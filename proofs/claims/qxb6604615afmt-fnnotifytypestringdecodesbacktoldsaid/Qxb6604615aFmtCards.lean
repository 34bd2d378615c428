/-
  DERIVED. GIVEN WITH THE SEED: THE CARDS: each row of Qxb6604615aFmtRows.lean that lists a variable, with what it lists TIED to the program's text (the seventh form; the later family's looks); each row that meets fmt, with fmt's text TOLD by the authors' own Lean function (tested against real Go, not proved from fmt's source: count such statements apart). THE CARD IS WHAT COUNTS. Prove the row's statement (the work); the ties are given (Qxb6604615aFmtTie.lean); close each card by the builder's one call (the guide's Derived/Test/ToyasCard.lean, 'card_holds'). Laid BY PROGRAM, IN A SANDBOX (cutbox-door.mjs). By AI agents, Wed Nov 11 2026. No macro, syntax, notation, axiom, sorry.
-/
import Derived.Test.Qxb6604615aFmtRows
import GoSem.ClaimSeven
namespace Go.Proofs.Qxb6604615aFmt
namespace Rows

/-- THE TOLD CARD OF 'zzlaws_ike_b1.FnSPIStringIsSixteenLowerHexDigits'. -/
def fnSPIStringIsSixteenLowerHexDigitsCard : Claim7 := { stood := { row := fnSPIStringIsSixteenLowerHexDigitsRow, standIns := [], harness := (true, "e3b4d8e221d6daa661422ad1ff31166989d07cfa97b10dd309e0efe79ebbc21e"), looks := false }, told := true, goes := false }
def FnSPIStringIsSixteenLowerHexDigitsToldSaid : Prop := Claim7.holds Tryf.pinned (.plain (OpenSpec.ofChange fnSPIStringIsSixteenLowerHexDigitsSpec)) fnSPIStringIsSixteenLowerHexDigitsCard
/-- ITS FALSE NEIGHBOUR. Refute it at one input. -/
def FnSPIStringIsSixteenLowerHexDigitsToldWrongFalsely : Prop := Claim7.holds Tryf.pinned (.plain (OpenSpec.ofChange fnSPIStringIsSixteenLowerHexDigitsWrong)) fnSPIStringIsSixteenLowerHexDigitsCard

/-- THE TOLD CARD OF 'zzlaws_ike_b1.FnSPIStringParsesBackAndKeepsOrder'. -/
def fnSPIStringParsesBackAndKeepsOrderCard : Claim7 := { stood := { row := fnSPIStringParsesBackAndKeepsOrderRow, standIns := [], harness := (true, "e3b4d8e221d6daa661422ad1ff31166989d07cfa97b10dd309e0efe79ebbc21e"), looks := false }, told := true, goes := false }
def FnSPIStringParsesBackAndKeepsOrderToldSaid : Prop := Claim7.holds Tryf.pinned (.plain (OpenSpec.ofChange fnSPIStringParsesBackAndKeepsOrderSpec)) fnSPIStringParsesBackAndKeepsOrderCard
/-- ITS FALSE NEIGHBOUR. Refute it at one input. -/
def FnSPIStringParsesBackAndKeepsOrderToldWrongFalsely : Prop := Claim7.holds Tryf.pinned (.plain (OpenSpec.ofChange fnSPIStringParsesBackAndKeepsOrderWrong)) fnSPIStringParsesBackAndKeepsOrderCard

/-- THE TOLD CARD OF 'zzlaws_ike_b1.FnNotifyTypeStringDecodesBack'. -/
def fnNotifyTypeStringDecodesBackCard : Claim7 := { stood := { row := fnNotifyTypeStringDecodesBackRow, standIns := [], harness := (true, "e3b4d8e221d6daa661422ad1ff31166989d07cfa97b10dd309e0efe79ebbc21e"), looks := false }, told := true, goes := false }
def FnNotifyTypeStringDecodesBackToldSaid : Prop := Claim7.holds Tryf.pinned (.plain (OpenSpec.ofChange fnNotifyTypeStringDecodesBackSpec)) fnNotifyTypeStringDecodesBackCard
/-- ITS FALSE NEIGHBOUR. Refute it at one input. -/
def FnNotifyTypeStringDecodesBackToldWrongFalsely : Prop := Claim7.holds Tryf.pinned (.plain (OpenSpec.ofChange fnNotifyTypeStringDecodesBackWrong)) fnNotifyTypeStringDecodesBackCard
end Rows
end Go.Proofs.Qxb6604615aFmt
