/-
  No cell of these rows narrows 'for every input' (looked for: loops, veiled, ifaces, maps, wideKeys, modest, calm, conditions, laid).
  DERIVED. THE GIVEN ROWS OF THIS SEAT. 2 by the template 'for every input the law returns true; each argument reads behind the call as it read before'; 0 by the template 'total and deterministic' (their statements: Qxb6628516aTotals.lean).
  GIVEN WITH THE SEED: the statements are not yours to turn. If you find one false, say at which input.
  Laid BY PROGRAM, IN A SANDBOX (cutbox-rows.mjs): the forced cells as the released guide's own fill.sh prints them over the translation b4a865192770741d… (all of the seat's roots in one cut). By AI agents, Wed Nov 11 2026. No macro, syntax, notation, axiom, sorry.
-/
import Derived.Test.Qxb6628516aChecked
import GoSem.Claim
import GoSem.ClaimJoined
import GoSem.ClaimMapViews
import Derived.JoinedTies
import Derived.KernelRfl
namespace Go.Proofs.Qxb6628516a
/- THE CELL 'sum', in the pinned program and in every row, IS THE sha256 OF THE DUMP (.gsa) THAT Qxb6628516aProg.lean LOADS. Nothing in Lean hashes anything: it is a label: what it is worth is what the hold of that sum in a sandbox is worth. -/
noncomputable def Try.pinned : Pinned := { name := "qxb6628516a", sum := "b4a865192770741d6583c0d07e7fa98e4419abf02605bb28d8df057de4645432", checked := Try.checked }
namespace Rows
def none {H : Type} : Left H := { results := [], args := [] }

/-- 'zzlaws_internal_jcs_b1.FnSkipSpaceStopsAtFirstNonSpace': WHATEVER THE INPUT: true; the input reads as it did. -/
def fnSkipSpaceStopsAtFirstNonSpaceSpec : ChangeSpec := { name := "fnSkipSpaceStopsAtFirstNonSpace", fn := fun _ => fun
  | [d1, d2, d3] => { results := [.lit (.bool true)], args := [d1, d2, d3] }
  | _ => none }
def fnSkipSpaceStopsAtFirstNonSpaceRow : OpenClaim := { program := "qxb6628516a", sum := "b4a865192770741d6583c0d07e7fa98e4419abf02605bb28d8df057de4645432", func := "example.com/wardkey/wardkey/zzlaws_internal_jcs_b1.FnSkipSpaceStopsAtFirstNonSpace", spec := "fnSkipSpaceStopsAtFirstNonSpace", apart := false }
def FnSkipSpaceStopsAtFirstNonSpaceSaid : Prop := fnSkipSpaceStopsAtFirstNonSpaceRow.holds Try.pinned (OpenSpec.ofChange fnSkipSpaceStopsAtFirstNonSpaceSpec)

/-- ITS FALSE NEIGHBOUR: 'it returns false'. Refute it at one input. -/
def fnSkipSpaceStopsAtFirstNonSpaceWrong : ChangeSpec := { name := "fnSkipSpaceStopsAtFirstNonSpace", fn := fun _ => fun
  | [d1, d2, d3] => { results := [.lit (.bool false)], args := [d1, d2, d3] }
  | _ => none }
def FnSkipSpaceStopsAtFirstNonSpaceWrongFalsely : Prop := fnSkipSpaceStopsAtFirstNonSpaceRow.holds Try.pinned (OpenSpec.ofChange fnSkipSpaceStopsAtFirstNonSpaceWrong)

/-- 'zzlaws_internal_jcs_b1.FnSkipSpaceWhitespaceInsertedShifts': WHATEVER THE INPUT: true; the input reads as it did. -/
def fnSkipSpaceWhitespaceInsertedShiftsSpec : ChangeSpec := { name := "fnSkipSpaceWhitespaceInsertedShifts", fn := fun _ => fun
  | [d1, d2, d3, d4] => { results := [.lit (.bool true)], args := [d1, d2, d3, d4] }
  | _ => none }
def fnSkipSpaceWhitespaceInsertedShiftsRow : OpenClaim := { program := "qxb6628516a", sum := "b4a865192770741d6583c0d07e7fa98e4419abf02605bb28d8df057de4645432", func := "example.com/wardkey/wardkey/zzlaws_internal_jcs_b1.FnSkipSpaceWhitespaceInsertedShifts", spec := "fnSkipSpaceWhitespaceInsertedShifts", apart := false }
def FnSkipSpaceWhitespaceInsertedShiftsSaid : Prop := fnSkipSpaceWhitespaceInsertedShiftsRow.holds Try.pinned (OpenSpec.ofChange fnSkipSpaceWhitespaceInsertedShiftsSpec)

/-- ITS FALSE NEIGHBOUR: 'it returns false'. Refute it at one input. -/
def fnSkipSpaceWhitespaceInsertedShiftsWrong : ChangeSpec := { name := "fnSkipSpaceWhitespaceInsertedShifts", fn := fun _ => fun
  | [d1, d2, d3, d4] => { results := [.lit (.bool false)], args := [d1, d2, d3, d4] }
  | _ => none }
def FnSkipSpaceWhitespaceInsertedShiftsWrongFalsely : Prop := fnSkipSpaceWhitespaceInsertedShiftsRow.holds Try.pinned (OpenSpec.ofChange fnSkipSpaceWhitespaceInsertedShiftsWrong)

end Rows
end Go.Proofs.Qxb6628516a
