/-
  No cell of these rows narrows 'for every input' (looked for: loops, veiled, ifaces, maps, wideKeys, modest, calm, conditions, laid).
  DERIVED. THE GIVEN ROWS OF THIS SEAT. 2 by the template 'for every input the law returns true; each argument reads behind the call as it read before'; 0 by the template 'total and deterministic' (their statements: Qxb6628022aTotals.lean).
  GIVEN WITH THE SEED: the statements are not yours to turn. If you find one false, say at which input.
  Laid BY PROGRAM, IN A SANDBOX (cutbox-rows.mjs): the forced cells as the released guide's own fill.sh prints them over the translation 199bfd005585e14e… (all of the seat's roots in one cut). By AI agents, Wed Nov 11 2026. No macro, syntax, notation, axiom, sorry.
-/
import Derived.Test.Qxb6628022aChecked
import GoSem.Claim
import GoSem.ClaimJoined
import GoSem.ClaimMapViews
import Derived.JoinedTies
import Derived.KernelRfl
namespace Go.Proofs.Qxb6628022a
/- THE CELL 'sum', in the pinned program and in every row, IS THE sha256 OF THE DUMP (.gsa) THAT Qxb6628022aProg.lean LOADS. Nothing in Lean hashes anything: it is a label: what it is worth is what the hold of that sum in a sandbox is worth. -/
noncomputable def Try.pinned : Pinned := { name := "qxb6628022a", sum := "199bfd005585e14ecdbc9b38a18f0fa187120f67378a616a853f4dec14e637b6", checked := Try.checked }
namespace Rows
def none {H : Type} : Left H := { results := [], args := [] }

/-- 'zzlaws_internal_http1_b1.FnGetInsertedField': WHATEVER THE INPUT: true; the input reads as it did. -/
def fnGetInsertedFieldSpec : ChangeSpec := { name := "fnGetInsertedField", fn := fun _ => fun
  | [d1, d2, d3, d4, d5] => { results := [.lit (.bool true)], args := [d1, d2, d3, d4, d5] }
  | _ => none }
def fnGetInsertedFieldRow : OpenClaim := { program := "qxb6628022a", sum := "199bfd005585e14ecdbc9b38a18f0fa187120f67378a616a853f4dec14e637b6", func := "example.com/ingress-for-inference/ingress-for-inference/zzlaws_internal_http1_b1.FnGetInsertedField", spec := "fnGetInsertedField", apart := false }
def FnGetInsertedFieldSaid : Prop := fnGetInsertedFieldRow.holds Try.pinned (OpenSpec.ofChange fnGetInsertedFieldSpec)

/-- ITS FALSE NEIGHBOUR: 'it returns false'. Refute it at one input. -/
def fnGetInsertedFieldWrong : ChangeSpec := { name := "fnGetInsertedField", fn := fun _ => fun
  | [d1, d2, d3, d4, d5] => { results := [.lit (.bool false)], args := [d1, d2, d3, d4, d5] }
  | _ => none }
def FnGetInsertedFieldWrongFalsely : Prop := fnGetInsertedFieldRow.holds Try.pinned (OpenSpec.ofChange fnGetInsertedFieldWrong)

/-- 'zzlaws_internal_http1_b1.FnGetOverCutFields': WHATEVER THE INPUT: true; the input reads as it did. -/
def fnGetOverCutFieldsSpec : ChangeSpec := { name := "fnGetOverCutFields", fn := fun _ => fun
  | [d1, d2, d3] => { results := [.lit (.bool true)], args := [d1, d2, d3] }
  | _ => none }
def fnGetOverCutFieldsRow : OpenClaim := { program := "qxb6628022a", sum := "199bfd005585e14ecdbc9b38a18f0fa187120f67378a616a853f4dec14e637b6", func := "example.com/ingress-for-inference/ingress-for-inference/zzlaws_internal_http1_b1.FnGetOverCutFields", spec := "fnGetOverCutFields", apart := false }
def FnGetOverCutFieldsSaid : Prop := fnGetOverCutFieldsRow.holds Try.pinned (OpenSpec.ofChange fnGetOverCutFieldsSpec)

/-- ITS FALSE NEIGHBOUR: 'it returns false'. Refute it at one input. -/
def fnGetOverCutFieldsWrong : ChangeSpec := { name := "fnGetOverCutFields", fn := fun _ => fun
  | [d1, d2, d3] => { results := [.lit (.bool false)], args := [d1, d2, d3] }
  | _ => none }
def FnGetOverCutFieldsWrongFalsely : Prop := fnGetOverCutFieldsRow.holds Try.pinned (OpenSpec.ofChange fnGetOverCutFieldsWrong)

end Rows
end Go.Proofs.Qxb6628022a
