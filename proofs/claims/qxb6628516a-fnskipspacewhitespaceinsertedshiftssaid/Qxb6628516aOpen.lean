/-
  A SLICE OF BYTES THAT CAME IN (the seat's shell's own 'IsRow'), opened into what the walks ask.
-/
import Derived.Test.Qxb6628516aRows
import Derived.Test.Qxb6628516aParts
import Derived.WalkKit
import Derived.ProofKit
namespace Go.Proofs.Qxb6628516a
open Go.ChangeShapes Go.WideShapes Go.ChangeAt Go.RowKit

theorem own : ownKnob Try.prog.godebug = none := by kernel_rfl
theorem laidOut : laidOutB Try.prog = true := by kernel_rfl

/-- WHAT THE WALK IS TOLD OF A SLICE OF INTEGERS THAT CAME IN: it is nil; or it leads to a row of 'cap' cells, the numbers 'zs' (the first 'len' are its elements, the rest its spare room), each fitting its kind. -/
def IsRow (k : IntKind) (w : World) (a : Option Addr) (len cap : Nat) (zs : List Int) : Prop :=
  (a = none ∧ len = 0 ∧ cap = 0 ∧ zs = []) ∨
  ∃ x, a = some x ∧ len ≤ cap ∧ cap ≤ maxLen ∧ zs.length = cap ∧ (∀ i, i < zs.length → w.cell? (x.add i) = some (.int k (zs.getD i 0))) ∧ ∀ n ∈ zs, (Lit.int k n).wf = true


theorem IsRow.facts {w : World} {a : Option Addr} {len cap : Nat} {zs : List Int} (h : IsRow .u8 w a len cap zs) :
    len ≤ maxLen ∧ len ≤ cap ∧ cap ≤ maxLen ∧ BRow w w.heap.size a len (fun i => zs.getD i 0) ∧ (a = none → len = 0 ∧ cap = 0) := by
  rcases h with ⟨rfl, rfl, rfl, rfl⟩ | ⟨x, rfl, h1, h2, h3, h4, _⟩
  · exact ⟨by simp [maxLen], Nat.le_refl _, by simp [maxLen], fun i hi => by omega, fun _ => ⟨rfl, rfl⟩⟩
  · refine ⟨by omega, h1, h2, fun i hi => ?_, fun h => by cases h⟩
    obtain ⟨b, off, spot⟩ := x
    have hspot : spot = .none := by
      have := h4 0 (by omega)
      simpa [Addr.add] using World.cell?_spot this
    subst hspot
    have hc := h4 i (by omega)
    rw [add_plain] at hc
    exact ⟨b, off, rfl, World.block_lt_of_cell? w _ hc, hc⟩

end Go.Proofs.Qxb6628516a
