/-
  No cell of these rows narrows 'for every input' (looked for: loops, veiled, ifaces, maps, wideKeys, modest, calm, conditions, laid).
  DERIVED. THE GIVEN ROWS OF THIS SEAT. 3 by the template 'for every input the law returns true; each argument reads behind the call as it read before'; 0 by the template 'total and deterministic' (their statements: Qxb6604615aFmtTotals.lean).
  GIVEN WITH THE SEED: the statements are not yours to turn. If you find one false, say at which input.
  Laid BY PROGRAM, IN A SANDBOX (cutbox-rows.mjs): the forced cells as the released guide's own fill.sh prints them over the translation 6415bd5ad9799b53… (all of the seat's roots in one cut). By AI agents, Wed Nov 11 2026. No macro, syntax, notation, axiom, sorry.
-/
import Derived.Test.Qxb6604615aFmtChecked
import GoSem.Claim
import GoSem.ClaimJoined
import GoSem.ClaimMapViews
import Derived.JoinedTies
import Derived.KernelRfl
namespace Go.Proofs.Qxb6604615aFmt
/- THE CELL 'sum', in the pinned program and in every row, IS THE sha256 OF THE DUMP (.gsa) THAT Qxb6604615aFmtProg.lean LOADS. Nothing in Lean hashes anything: it is a label: what it is worth is what the hold of that sum in a sandbox is worth. -/
noncomputable def Tryf.pinned : Pinned := { name := "qxb6604615afmt", sum := "6415bd5ad9799b532dabd26dd269e29d38f6b395a7beca91e00139b2ff77418a", checked := Tryf.checked }
namespace Rows
def none {H : Type} : Left H := { results := [], args := [] }

/-- 'zzlaws_ike_b1.FnSPIStringIsSixteenLowerHexDigits': WHATEVER THE INPUT: true; the input reads as it did. -/
def fnSPIStringIsSixteenLowerHexDigitsSpec : ChangeSpec := { name := "fnSPIStringIsSixteenLowerHexDigits", fn := fun _ => fun
  | [d] => { results := [.lit (.bool true)], args := [d] }
  | _ => none }
def fnSPIStringIsSixteenLowerHexDigitsRow : OpenClaim := { program := "qxb6604615afmt", sum := "6415bd5ad9799b532dabd26dd269e29d38f6b395a7beca91e00139b2ff77418a", func := "example.com/lanekey/lanekey/zzlaws_ike_b1.FnSPIStringIsSixteenLowerHexDigits", spec := "fnSPIStringIsSixteenLowerHexDigits", stops := ["fmt.Sprintf"], inPlace := ["fmt.Sprintf"], apart := false }
/-- NO THEOREM (fmt's text is open here; it may be false): for the released tool's asking of the row's closed facts alone. THE STATEMENT IS 'FnSPIStringIsSixteenLowerHexDigitsToldSaid' (Qxb6604615aFmtCards.lean). -/
def FnSPIStringIsSixteenLowerHexDigitsFormAsk : Prop := fnSPIStringIsSixteenLowerHexDigitsRow.holds Tryf.pinned (OpenSpec.ofChange fnSPIStringIsSixteenLowerHexDigitsSpec)

/-- ITS FALSE NEIGHBOUR: 'it returns false'. Refute it at one input. -/
def fnSPIStringIsSixteenLowerHexDigitsWrong : ChangeSpec := { name := "fnSPIStringIsSixteenLowerHexDigits", fn := fun _ => fun
  | [d] => { results := [.lit (.bool false)], args := [d] }
  | _ => none }
def FnSPIStringIsSixteenLowerHexDigitsWrongFormAsk : Prop := fnSPIStringIsSixteenLowerHexDigitsRow.holds Tryf.pinned (OpenSpec.ofChange fnSPIStringIsSixteenLowerHexDigitsWrong)

/-- 'zzlaws_ike_b1.FnSPIStringParsesBackAndKeepsOrder': WHATEVER THE INPUT: true; the input reads as it did. -/
def fnSPIStringParsesBackAndKeepsOrderSpec : ChangeSpec := { name := "fnSPIStringParsesBackAndKeepsOrder", fn := fun _ => fun
  | [d1, d2] => { results := [.lit (.bool true)], args := [d1, d2] }
  | _ => none }
def fnSPIStringParsesBackAndKeepsOrderRow : OpenClaim := { program := "qxb6604615afmt", sum := "6415bd5ad9799b532dabd26dd269e29d38f6b395a7beca91e00139b2ff77418a", func := "example.com/lanekey/lanekey/zzlaws_ike_b1.FnSPIStringParsesBackAndKeepsOrder", spec := "fnSPIStringParsesBackAndKeepsOrder", stops := ["fmt.Sprintf"], inPlace := ["fmt.Sprintf"], apart := false }
/-- NO THEOREM (fmt's text is open here; it may be false): for the released tool's asking of the row's closed facts alone. THE STATEMENT IS 'FnSPIStringParsesBackAndKeepsOrderToldSaid' (Qxb6604615aFmtCards.lean). -/
def FnSPIStringParsesBackAndKeepsOrderFormAsk : Prop := fnSPIStringParsesBackAndKeepsOrderRow.holds Tryf.pinned (OpenSpec.ofChange fnSPIStringParsesBackAndKeepsOrderSpec)

/-- ITS FALSE NEIGHBOUR: 'it returns false'. Refute it at one input. -/
def fnSPIStringParsesBackAndKeepsOrderWrong : ChangeSpec := { name := "fnSPIStringParsesBackAndKeepsOrder", fn := fun _ => fun
  | [d1, d2] => { results := [.lit (.bool false)], args := [d1, d2] }
  | _ => none }
def FnSPIStringParsesBackAndKeepsOrderWrongFormAsk : Prop := fnSPIStringParsesBackAndKeepsOrderRow.holds Tryf.pinned (OpenSpec.ofChange fnSPIStringParsesBackAndKeepsOrderWrong)

/-- 'zzlaws_ike_b1.FnNotifyTypeStringDecodesBack': WHATEVER THE INPUT: true; the input reads as it did. -/
def fnNotifyTypeStringDecodesBackSpec : ChangeSpec := { name := "fnNotifyTypeStringDecodesBack", fn := fun _ => fun
  | [d1, d2] => { results := [.lit (.bool true)], args := [d1, d2] }
  | _ => none }
def fnNotifyTypeStringDecodesBackRow : OpenClaim := { program := "qxb6604615afmt", sum := "6415bd5ad9799b532dabd26dd269e29d38f6b395a7beca91e00139b2ff77418a", func := "example.com/lanekey/lanekey/zzlaws_ike_b1.FnNotifyTypeStringDecodesBack", spec := "fnNotifyTypeStringDecodesBack", stops := ["fmt.Sprintf"], inPlace := ["fmt.Sprintf"], apart := false }
/-- NO THEOREM (fmt's text is open here; it may be false): for the released tool's asking of the row's closed facts alone. THE STATEMENT IS 'FnNotifyTypeStringDecodesBackToldSaid' (Qxb6604615aFmtCards.lean). -/
def FnNotifyTypeStringDecodesBackFormAsk : Prop := fnNotifyTypeStringDecodesBackRow.holds Tryf.pinned (OpenSpec.ofChange fnNotifyTypeStringDecodesBackSpec)

/-- ITS FALSE NEIGHBOUR: 'it returns false'. Refute it at one input. -/
def fnNotifyTypeStringDecodesBackWrong : ChangeSpec := { name := "fnNotifyTypeStringDecodesBack", fn := fun _ => fun
  | [d1, d2] => { results := [.lit (.bool false)], args := [d1, d2] }
  | _ => none }
def FnNotifyTypeStringDecodesBackWrongFormAsk : Prop := fnNotifyTypeStringDecodesBackRow.holds Tryf.pinned (OpenSpec.ofChange fnNotifyTypeStringDecodesBackWrong)

end Rows
end Go.Proofs.Qxb6604615aFmt
