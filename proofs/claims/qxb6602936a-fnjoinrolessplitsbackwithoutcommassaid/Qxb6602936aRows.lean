/-
  No cell of these rows narrows 'for every input' (looked for: loops, veiled, ifaces, maps, wideKeys, modest, calm, conditions, laid).
  DERIVED. THE GIVEN ROWS OF THIS SEAT. 3 by the template 'for every input the law returns true; each argument reads behind the call as it read before'; 0 by the template 'total and deterministic' (their statements: Qxb6602936aTotals.lean).
  GIVEN WITH THE SEED: the statements are not yours to turn. If you find one false, say at which input.
  Laid BY PROGRAM, IN A SANDBOX (cutbox-rows.mjs): the forced cells as the released guide's own fill.sh prints them over the translation 2f4a89ae5fedec4c… (all of the seat's roots in one cut). By AI agents, Wed Nov 11 2026. No macro, syntax, notation, axiom, sorry.
-/
import Derived.Test.Qxb6602936aChecked
import GoSem.Claim
import GoSem.ClaimJoined
import GoSem.ClaimMapViews
import Derived.JoinedTies
import Derived.KernelRfl
namespace Go.Proofs.Qxb6602936a
/- THE CELL 'sum', in the pinned program and in every row, IS THE sha256 OF THE DUMP (.gsa) THAT Qxb6602936aProg.lean LOADS. Nothing in Lean hashes anything: it is a label: what it is worth is what the hold of that sum in a sandbox is worth. -/
noncomputable def Try.pinned : Pinned := { name := "qxb6602936a", sum := "2f4a89ae5fedec4c3fd214996c88e2453e9b50256ffcee084d80c888db94e51b", checked := Try.checked }
namespace Rows
def none {H : Type} : Left H := { results := [], args := [] }

/-- 'zzlaws_internal_store_b1.FnJoinRolesLaysEachRoleInPlace': WHATEVER THE INPUT: true; the input reads as it did. -/
def fnJoinRolesLaysEachRoleInPlaceSpec : ChangeSpec := { name := "fnJoinRolesLaysEachRoleInPlace", fn := fun _ => fun
  | [d] => { results := [.lit (.bool true)], args := [d] }
  | _ => none }
def fnJoinRolesLaysEachRoleInPlaceRow : OpenClaim := { program := "qxb6602936a", sum := "2f4a89ae5fedec4c3fd214996c88e2453e9b50256ffcee084d80c888db94e51b", func := "example.com/tallygate/tallygate/zzlaws_internal_store_b1.FnJoinRolesLaysEachRoleInPlace", spec := "fnJoinRolesLaysEachRoleInPlace", inPlace := ["internal/abi.NoEscape", "internal/bytealg.MakeNoZero"], apart := false }
def FnJoinRolesLaysEachRoleInPlaceSaid : Prop := fnJoinRolesLaysEachRoleInPlaceRow.holds Try.pinned (OpenSpec.ofChange fnJoinRolesLaysEachRoleInPlaceSpec)

/-- ITS FALSE NEIGHBOUR: 'it returns false'. Refute it at one input. -/
def fnJoinRolesLaysEachRoleInPlaceWrong : ChangeSpec := { name := "fnJoinRolesLaysEachRoleInPlace", fn := fun _ => fun
  | [d] => { results := [.lit (.bool false)], args := [d] }
  | _ => none }
def FnJoinRolesLaysEachRoleInPlaceWrongFalsely : Prop := fnJoinRolesLaysEachRoleInPlaceRow.holds Try.pinned (OpenSpec.ofChange fnJoinRolesLaysEachRoleInPlaceWrong)

/-- 'zzlaws_internal_store_b1.FnJoinRolesSplitsBackWithoutCommas': WHATEVER THE INPUT: true; the input reads as it did. -/
def fnJoinRolesSplitsBackWithoutCommasSpec : ChangeSpec := { name := "fnJoinRolesSplitsBackWithoutCommas", fn := fun _ => fun
  | [d] => { results := [.lit (.bool true)], args := [d] }
  | _ => none }
def fnJoinRolesSplitsBackWithoutCommasRow : OpenClaim := { program := "qxb6602936a", sum := "2f4a89ae5fedec4c3fd214996c88e2453e9b50256ffcee084d80c888db94e51b", func := "example.com/tallygate/tallygate/zzlaws_internal_store_b1.FnJoinRolesSplitsBackWithoutCommas", spec := "fnJoinRolesSplitsBackWithoutCommas", inPlace := ["internal/abi.NoEscape", "internal/bytealg.MakeNoZero"], apart := false }
def FnJoinRolesSplitsBackWithoutCommasSaid : Prop := fnJoinRolesSplitsBackWithoutCommasRow.holds Try.pinned (OpenSpec.ofChange fnJoinRolesSplitsBackWithoutCommasSpec)

/-- ITS FALSE NEIGHBOUR: 'it returns false'. Refute it at one input. -/
def fnJoinRolesSplitsBackWithoutCommasWrong : ChangeSpec := { name := "fnJoinRolesSplitsBackWithoutCommas", fn := fun _ => fun
  | [d] => { results := [.lit (.bool false)], args := [d] }
  | _ => none }
def FnJoinRolesSplitsBackWithoutCommasWrongFalsely : Prop := fnJoinRolesSplitsBackWithoutCommasRow.holds Try.pinned (OpenSpec.ofChange fnJoinRolesSplitsBackWithoutCommasWrong)

/-- 'zzlaws_internal_store_b1.FnJoinRolesOfConcatenation': WHATEVER THE INPUT: true; the input reads as it did. -/
def fnJoinRolesOfConcatenationSpec : ChangeSpec := { name := "fnJoinRolesOfConcatenation", fn := fun _ => fun
  | [d1, d2] => { results := [.lit (.bool true)], args := [d1, d2] }
  | _ => none }
def fnJoinRolesOfConcatenationRow : OpenClaim := { program := "qxb6602936a", sum := "2f4a89ae5fedec4c3fd214996c88e2453e9b50256ffcee084d80c888db94e51b", func := "example.com/tallygate/tallygate/zzlaws_internal_store_b1.FnJoinRolesOfConcatenation", spec := "fnJoinRolesOfConcatenation", inPlace := ["internal/abi.NoEscape", "internal/bytealg.MakeNoZero"], apart := false }
def FnJoinRolesOfConcatenationSaid : Prop := fnJoinRolesOfConcatenationRow.holds Try.pinned (OpenSpec.ofChange fnJoinRolesOfConcatenationSpec)

/-- ITS FALSE NEIGHBOUR: 'it returns false'. Refute it at one input. -/
def fnJoinRolesOfConcatenationWrong : ChangeSpec := { name := "fnJoinRolesOfConcatenation", fn := fun _ => fun
  | [d1, d2] => { results := [.lit (.bool false)], args := [d1, d2] }
  | _ => none }
def FnJoinRolesOfConcatenationWrongFalsely : Prop := fnJoinRolesOfConcatenationRow.holds Try.pinned (OpenSpec.ofChange fnJoinRolesOfConcatenationWrong)

end Rows
end Go.Proofs.Qxb6602936a
