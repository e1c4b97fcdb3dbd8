/-
  A SLICE OF PAIRS OF STRINGS THAT CAME IN, OPENED: the strings by index.
-/
import Derived.Test.Qxb6628603aRows
import Derived.Test.Qxb6628603aParts
import Derived.ProofKit
import Derived.OpenShut
import Derived.Deep.SlicePairs
namespace Go.Proofs.Qxb6628603a
open Go.ChangeShapes Go.WideShapes Go.ChangeAt Go.RowKit Go.Deep

theorem own : ownKnob Try.prog.godebug = .none := by kernel_rfl
theorem laidOut : laidOutB Try.prog = true := by kernel_rfl
theorem cells9 : Try.prog.cellsOf 9 = 1 := by kernel_rfl
theorem cells31 : Try.prog.cellsOf 31 = 2 := by kernel_rfl

def strVal : Value → ByteArray
  | .string s => s
  | _ => ByteArray.empty

section
variable {H : Type} {enc : TypeId × Value → H} {w : World} {base : Nat}

theorem open_fields {fuel : Nat} {c : Value} {x : DataW H × List MemPlace} (h : DataW.trod enc Try.prog w base (fun _ => true) true fuel 22 [c] = some x) :
    ∃ a n cap N V, c = .slice a n cap ∧ n ≤ maxLen ∧ FRow w a n N V := by
  rcases open_slice_pairs Try.underlying22 Try.underlying31 cells31 rfl rfl cells9 cells9 h with ⟨hcs, _⟩ | ⟨a, len, cap, m, n, V0, V1, D0, D1, P0, P1, hcs, _, hl, hm, hmm, _, hx⟩
  · simp at hcs
    exact ⟨_, _, _, fun _ => ByteArray.empty, fun _ => ByteArray.empty, hcs, by simp [maxLen], fun i hi => absurd hi (by omega)⟩
  · simp at hcs hmm
    refine ⟨_, _, _, fun i => strVal (V0 i), fun i => strVal (V1 i), hcs, by omega, fun i hi => ?_⟩
    obtain ⟨h0, h1, t0, t1⟩ := hx i (by omega)
    obtain ⟨s, e0, _, _⟩ := DataW.trod_string Try.underlying9 t0
    obtain ⟨t, e1, _, _⟩ := DataW.trod_string Try.underlying9 t1
    simp at e0 e1
    rw [e0] at h0
    rw [e1] at h1
    obtain ⟨b, off, spot⟩ := a
    have hspot : spot = none := by
      obtain ⟨k0, _⟩ := hx 0 (by omega)
      simpa [Addr.add] using World.cell?_spot k0
    subst hspot
    rw [add_plain] at h0 h1
    exact ⟨b, off, rfl, by simpa [e0, strVal] using h0, by simpa [e1, strVal, Nat.add_assoc] using h1⟩

theorem open_params {r : Reach} {b0 : Nat} {v : Value} {d : DataW H} {p : List MemPlace} (hv : Value.okWide Try.prog w r b0 22 v) (h : DataW.Trod enc Try.prog w base (fun _ => true) true 22 v d p) :
    ∃ a n cap N V, v = .slice a n cap ∧ n ≤ maxLen ∧ FRow w a n N V := by
  obtain ⟨a, n, cap, rfl⟩ := okWide_slice Try.underlying22 hv
  obtain ⟨fuel, hf⟩ := h
  exact open_fields (by simpa [Value.cells] using hf)
end

end Go.Proofs.Qxb6628603a
