/-
  No cell of these rows narrows 'for every input' (looked for: loops, veiled, ifaces, maps, wideKeys, modest, calm, conditions, laid).
  DERIVED. THE GIVEN ROWS OF THIS SEAT. 2 by the template 'for every input the law returns true; each argument reads behind the call as it read before'; 0 by the template 'total and deterministic' (their statements: Qxb6628553aTotals.lean).
  GIVEN WITH THE SEED: the statements are not yours to turn. If you find one false, say at which input.
  Laid BY PROGRAM, IN A SANDBOX (cutbox-rows.mjs): the forced cells as the released guide's own fill.sh prints them over the translation aac57a1eeaa843d0… (all of the seat's roots in one cut). By AI agents, Wed Nov 11 2026. No macro, syntax, notation, axiom, sorry.
-/
import Derived.Test.Qxb6628553aChecked
import GoSem.Claim
import GoSem.ClaimJoined
import GoSem.ClaimMapViews
import Derived.JoinedTies
import Derived.KernelRfl
namespace Go.Proofs.Qxb6628553a
/- THE CELL 'sum', in the pinned program and in every row, IS THE sha256 OF THE DUMP (.gsa) THAT Qxb6628553aProg.lean LOADS. Nothing in Lean hashes anything: it is a label: what it is worth is what the hold of that sum in a sandbox is worth. -/
noncomputable def Try.pinned : Pinned := { name := "qxb6628553a", sum := "aac57a1eeaa843d03aeaefd3b2c1b9400be3ee2b9d2ee1cd8de37fd8a2f6d4e7", checked := Try.checked }
namespace Rows
def none {H : Type} : Left H := { results := [], args := [] }

/-- 'zzlaws_pkg_wire_b1.FnTxOffsetsSplitAtAnyCut': WHATEVER THE INPUT: true; the input reads as it did. -/
def fnTxOffsetsSplitAtAnyCutSpec : ChangeSpec := { name := "fnTxOffsetsSplitAtAnyCut", fn := fun _ => fun
  | [d1, d2, d3, d4] => { results := [.lit (.bool true)], args := [d1, d2, d3, d4] }
  | _ => none }
def fnTxOffsetsSplitAtAnyCutRow : OpenClaim := { program := "qxb6628553a", sum := "aac57a1eeaa843d03aeaefd3b2c1b9400be3ee2b9d2ee1cd8de37fd8a2f6d4e7", func := "example.com/expressway/expressway/zzlaws_pkg_wire_b1.FnTxOffsetsSplitAtAnyCut", spec := "fnTxOffsetsSplitAtAnyCut", apart := false }
def FnTxOffsetsSplitAtAnyCutSaid : Prop := fnTxOffsetsSplitAtAnyCutRow.holds Try.pinned (OpenSpec.ofChange fnTxOffsetsSplitAtAnyCutSpec)

/-- ITS FALSE NEIGHBOUR: 'it returns false'. Refute it at one input. -/
def fnTxOffsetsSplitAtAnyCutWrong : ChangeSpec := { name := "fnTxOffsetsSplitAtAnyCut", fn := fun _ => fun
  | [d1, d2, d3, d4] => { results := [.lit (.bool false)], args := [d1, d2, d3, d4] }
  | _ => none }
def FnTxOffsetsSplitAtAnyCutWrongFalsely : Prop := fnTxOffsetsSplitAtAnyCutRow.holds Try.pinned (OpenSpec.ofChange fnTxOffsetsSplitAtAnyCutWrong)

/-- 'zzlaws_pkg_wire_b1.FnTxOffsetsInsertOneAnywhere': WHATEVER THE INPUT: true; the input reads as it did. -/
def fnTxOffsetsInsertOneAnywhereSpec : ChangeSpec := { name := "fnTxOffsetsInsertOneAnywhere", fn := fun _ => fun
  | [d1, d2, d3, d4, d5] => { results := [.lit (.bool true)], args := [d1, d2, d3, d4, d5] }
  | _ => none }
def fnTxOffsetsInsertOneAnywhereRow : OpenClaim := { program := "qxb6628553a", sum := "aac57a1eeaa843d03aeaefd3b2c1b9400be3ee2b9d2ee1cd8de37fd8a2f6d4e7", func := "example.com/expressway/expressway/zzlaws_pkg_wire_b1.FnTxOffsetsInsertOneAnywhere", spec := "fnTxOffsetsInsertOneAnywhere", apart := false }
def FnTxOffsetsInsertOneAnywhereSaid : Prop := fnTxOffsetsInsertOneAnywhereRow.holds Try.pinned (OpenSpec.ofChange fnTxOffsetsInsertOneAnywhereSpec)

/-- ITS FALSE NEIGHBOUR: 'it returns false'. Refute it at one input. -/
def fnTxOffsetsInsertOneAnywhereWrong : ChangeSpec := { name := "fnTxOffsetsInsertOneAnywhere", fn := fun _ => fun
  | [d1, d2, d3, d4, d5] => { results := [.lit (.bool false)], args := [d1, d2, d3, d4, d5] }
  | _ => none }
def FnTxOffsetsInsertOneAnywhereWrongFalsely : Prop := fnTxOffsetsInsertOneAnywhereRow.holds Try.pinned (OpenSpec.ofChange fnTxOffsetsInsertOneAnywhereWrong)

end Rows
end Go.Proofs.Qxb6628553a
