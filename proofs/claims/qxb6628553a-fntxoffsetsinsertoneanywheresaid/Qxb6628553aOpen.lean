/-
  A SLICE OF SLICES THAT CAME IN, OPENED: the length of each element by index.
-/
import Derived.Test.Qxb6628553aRows
import Derived.Test.Qxb6628553aParts
import Derived.ProofKit
import Derived.OpenShut
import Derived.Deep.Slices
namespace Go.Proofs.Qxb6628553a
open Go.ChangeShapes Go.WideShapes Go.ChangeAt Go.RowKit Go.Deep

theorem own : ownKnob Try.prog.godebug = .none := by kernel_rfl
theorem laidOut : laidOutB Try.prog = true := by kernel_rfl
theorem cells25 : Try.prog.cellsOf 25 = 1 := by kernel_rfl

def lenVal : Value → Nat
  | .slice _ n _ => n
  | _ => 0

section
variable {H : Type} {enc : TypeId × Value → H} {w : World} {base : Nat}

theorem open_batch {r : Reach} {b0 : Nat} {v : Value} {d : DataW H} {p : List MemPlace} (hv : Value.okWide Try.prog w r b0 23 v) (h : DataW.Trod enc Try.prog w base (fun _ => true) true 23 v d p) :
    ∃ (a : Option Addr) (n cap : Nat) (L : Nat → Nat), v = .slice a n cap ∧ n ≤ maxLen ∧ n ≤ cap ∧ LRow w w.heap.size a n L := by
  obtain ⟨a, n, cap, rfl⟩ := okWide_slice Try.underlying23 hv
  obtain ⟨fuel, hf⟩ := h
  have hf' : DataW.trod enc Try.prog w base (fun _ => true) true fuel 23 [.slice a n cap] = some (d, p) := by simpa [Value.cells] using hf
  rcases open_slice1 Try.underlying23 cells25 hf' with ⟨hcs, _⟩ | ⟨x, len, cap', m, k, V, D, Pl, hcs, _, hl, hm, hmm, _, hx⟩
  · simp at hcs
    obtain ⟨rfl, rfl, rfl⟩ := hcs
    exact ⟨_, _, _, fun _ => 0, rfl, by simp [maxLen], Nat.le_refl _, fun i hi => absurd hi (by omega)⟩
  · simp at hcs hmm
    obtain ⟨rfl, rfl, rfl⟩ := hcs
    refine ⟨_, _, _, fun i => lenVal (V i), rfl, by omega, hl, fun i hi => ?_⟩
    obtain ⟨h0, t0⟩ := hx i (by omega)
    obtain ⟨b, off, spot⟩ := x
    have hspot : spot = none := by
      obtain ⟨k0, _⟩ := hx 0 (by omega)
      simpa [Addr.add] using World.cell?_spot k0
    subst hspot
    rw [add_plain] at h0
    obtain ⟨a2, l2, c2, e⟩ : ∃ a2 l2 c2, [V i] = [.slice a2 l2 c2] := by
      rcases open_slice Try.underlying25 t0 with ⟨hcs, _⟩ | ⟨_, _, _, _, _, _, _, hcs, _⟩
      · exact ⟨_, _, _, hcs⟩
      · exact ⟨_, _, _, hcs⟩
    simp at e
    exact ⟨b, off, rfl, World.block_lt_of_cell? w _ h0, a2, c2, by show _ = some (Value.slice a2 (lenVal (V i)) c2); rw [h0, e]; rfl⟩
end

end Go.Proofs.Qxb6628553a
