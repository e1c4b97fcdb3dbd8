/-
  No cell of these rows narrows 'for every input' (looked for: loops, veiled, ifaces, maps, wideKeys, modest, calm, conditions, laid).
  DERIVED. THE GIVEN ROWS OF THIS SEAT. 2 by the template 'for every input the law returns true; each argument reads behind the call as it read before'; 0 by the template 'total and deterministic' (their statements: Qxb6628603aTotals.lean).
  GIVEN WITH THE SEED: the statements are not yours to turn. If you find one false, say at which input.
  Laid BY PROGRAM, IN A SANDBOX (cutbox-rows.mjs): the forced cells as the released guide's own fill.sh prints them over the translation ee4c5fd5cb84c39b… (all of the seat's roots in one cut). By AI agents, Wed Nov 11 2026. No macro, syntax, notation, axiom, sorry.
-/
import Derived.Test.Qxb6628603aChecked
import GoSem.Claim
import GoSem.ClaimJoined
import GoSem.ClaimMapViews
import Derived.JoinedTies
import Derived.KernelRfl
namespace Go.Proofs.Qxb6628603a
/- THE CELL 'sum', in the pinned program and in every row, IS THE sha256 OF THE DUMP (.gsa) THAT Qxb6628603aProg.lean LOADS. Nothing in Lean hashes anything: it is a label: what it is worth is what the hold of that sum in a sandbox is worth. -/
noncomputable def Try.pinned : Pinned := { name := "qxb6628603a", sum := "ee4c5fd5cb84c39b7b316350cd734df97891c93e478ef0d90447f6fcf6003b71", checked := Try.checked }
namespace Rows
def none {H : Type} : Left H := { results := [], args := [] }

/-- 'zzlaws_sip_b1.FnParamsStringSplitsAtAnyCut': WHATEVER THE INPUT: true; the input reads as it did. -/
def fnParamsStringSplitsAtAnyCutSpec : ChangeSpec := { name := "fnParamsStringSplitsAtAnyCut", fn := fun _ => fun
  | [d1, d2] => { results := [.lit (.bool true)], args := [d1, d2] }
  | _ => none }
def fnParamsStringSplitsAtAnyCutRow : OpenClaim := { program := "qxb6628603a", sum := "ee4c5fd5cb84c39b7b316350cd734df97891c93e478ef0d90447f6fcf6003b71", func := "example.com/dialplane/dialplane/zzlaws_sip_b1.FnParamsStringSplitsAtAnyCut", spec := "fnParamsStringSplitsAtAnyCut", inPlace := ["internal/abi.NoEscape"], apart := false }
def FnParamsStringSplitsAtAnyCutSaid : Prop := fnParamsStringSplitsAtAnyCutRow.holds Try.pinned (OpenSpec.ofChange fnParamsStringSplitsAtAnyCutSpec)

/-- ITS FALSE NEIGHBOUR: 'it returns false'. Refute it at one input. -/
def fnParamsStringSplitsAtAnyCutWrong : ChangeSpec := { name := "fnParamsStringSplitsAtAnyCut", fn := fun _ => fun
  | [d1, d2] => { results := [.lit (.bool false)], args := [d1, d2] }
  | _ => none }
def FnParamsStringSplitsAtAnyCutWrongFalsely : Prop := fnParamsStringSplitsAtAnyCutRow.holds Try.pinned (OpenSpec.ofChange fnParamsStringSplitsAtAnyCutWrong)

/-- 'zzlaws_sip_b1.FnParamsStringParsesBack': WHATEVER THE INPUT: true; the input reads as it did. -/
def fnParamsStringParsesBackSpec : ChangeSpec := { name := "fnParamsStringParsesBack", fn := fun _ => fun
  | [d] => { results := [.lit (.bool true)], args := [d] }
  | _ => none }
def fnParamsStringParsesBackRow : OpenClaim := { program := "qxb6628603a", sum := "ee4c5fd5cb84c39b7b316350cd734df97891c93e478ef0d90447f6fcf6003b71", func := "example.com/dialplane/dialplane/zzlaws_sip_b1.FnParamsStringParsesBack", spec := "fnParamsStringParsesBack", inPlace := ["internal/abi.NoEscape"], apart := false }
def FnParamsStringParsesBackSaid : Prop := fnParamsStringParsesBackRow.holds Try.pinned (OpenSpec.ofChange fnParamsStringParsesBackSpec)

/-- ITS FALSE NEIGHBOUR: 'it returns false'. Refute it at one input. -/
def fnParamsStringParsesBackWrong : ChangeSpec := { name := "fnParamsStringParsesBack", fn := fun _ => fun
  | [d] => { results := [.lit (.bool false)], args := [d] }
  | _ => none }
def FnParamsStringParsesBackWrongFalsely : Prop := fnParamsStringParsesBackRow.holds Try.pinned (OpenSpec.ofChange fnParamsStringParsesBackWrong)

end Rows
end Go.Proofs.Qxb6628603a
