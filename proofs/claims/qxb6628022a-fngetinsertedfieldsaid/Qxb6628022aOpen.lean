/-
  A HEAD THAT CAME IN BY VALUE, OPENED: its ten cells; the strings of its fields by index.
-/
import Derived.Test.Qxb6628022aRows
import Derived.Test.Qxb6628022aParts
import Derived.ProofKit
import Derived.OpenShut
import Derived.Deep.SlicePairs
namespace Go.Proofs.Qxb6628022a
open Go.ChangeShapes Go.WideShapes Go.ChangeAt Go.RowKit Go.Deep

theorem own : ownKnob Try.prog.godebug = .none := by kernel_rfl
theorem laidOut : laidOutB Try.prog = true := by kernel_rfl
theorem cells9 : Try.prog.cellsOf 9 = 1 := by kernel_rfl
theorem cells3 : Try.prog.cellsOf 3 = 1 := by kernel_rfl
theorem cells2 : Try.prog.cellsOf 2 = 1 := by kernel_rfl
theorem cells4 : Try.prog.cellsOf 4 = 1 := by kernel_rfl
theorem cells22 : Try.prog.cellsOf 22 = 1 := by kernel_rfl
theorem cells24 : Try.prog.cellsOf 24 = 10 := by kernel_rfl
theorem cells32 : Try.prog.cellsOf 32 = 2 := by kernel_rfl

theorem array10 {α : Type} {cs : Array α} (h : cs.size = 10) : ∃ c0 c1 c2 c3 c4 c5 c6 c7 c8 c9, cs = #[c0, c1, c2, c3, c4, c5, c6, c7, c8, c9] := by
  obtain ⟨l⟩ := cs
  match l, h with
  | [c0, c1, c2, c3, c4, c5, c6, c7, c8, c9], _ => exact ⟨c0, c1, c2, c3, c4, c5, c6, c7, c8, c9, rfl⟩

def strVal : Value → ByteArray
  | .string s => s
  | _ => ByteArray.empty

section
variable {H : Type} {enc : TypeId × Value → H} {w : World} {base : Nat}

theorem open_fields {fuel : Nat} {c : Value} {x : DataW H × List MemPlace} (h : DataW.trod enc Try.prog w base (fun _ => true) true fuel 22 [c] = some x) :
    ∃ a n cap N V, c = .slice a n cap ∧ n ≤ maxLen ∧ FRow w a n N V := by
  rcases open_slice_pairs Try.underlying22 Try.underlying32 cells32 rfl rfl cells9 cells9 h with ⟨hcs, _⟩ | ⟨a, len, cap, m, n, V0, V1, D0, D1, P0, P1, hcs, _, hl, hm, hmm, _, hx⟩
  · simp at hcs
    exact ⟨_, _, _, fun _ => ByteArray.empty, fun _ => ByteArray.empty, hcs, by simp [maxLen], fun i hi => absurd hi (by omega)⟩
  · simp at hcs hmm
    refine ⟨_, _, _, fun i => strVal (V0 i), fun i => strVal (V1 i), hcs, by omega, fun i hi => ?_⟩
    obtain ⟨h0, h1, t0, t1⟩ := hx i (by omega)
    obtain ⟨s, e0, _, _⟩ := DataW.trod_string Try.underlying9 t0
    obtain ⟨t, e1, _, _⟩ := DataW.trod_string Try.underlying9 t1
    simp at e0 e1
    rw [e0] at h0
    rw [e1] at h1
    obtain ⟨b, off, spot⟩ := a
    have hspot : spot = none := by
      obtain ⟨k0, _⟩ := hx 0 (by omega)
      simpa [Addr.add] using World.cell?_spot k0
    subst hspot
    rw [add_plain] at h0 h1
    exact ⟨b, off, rfl, by simpa [e0, strVal] using h0, by simpa [e1, strVal, Nat.add_assoc] using h1⟩

theorem open_head {r : Reach} {b0 : Nat} {v : Value} {d : DataW H} {p : List MemPlace} (hv : Value.okWide Try.prog w r b0 24 v) (h : DataW.Trod enc Try.prog w base (fun _ => true) true 24 v d p) :
    ∃ (s0 s1 s3 : ByteArray) (z2 z4 z5 z7 : Int) (c8 c9 : Bool) (a : Option Addr) (n cap : Nat) (N V : Nat → ByteArray),
      v = .agg #[.string s0, .string s1, .int .i64 z2, .string s3, .int .i64 z4, .int .i64 z5, .slice a n cap, .int .i64 z7, .bool c8, .bool c9] ∧ n ≤ maxLen ∧ FRow w a n N V := by
  obtain ⟨cs, rfl, hsz⟩ := okWide_struct Try.underlying24 hv
  obtain ⟨c0, c1, c2, c3, c4, c5, c6, c7, c8, c9, rfl⟩ := array10 (hsz.trans cells24)
  obtain ⟨fuel, hf⟩ := h
  obtain ⟨xs, m, _, _, _, hlen, hfs⟩ := DataW.trod_struct Try.underlying24 hf
  have hl : xs.length = 10 := by simpa using hlen
  have g0 := hfs 0 _ rfl
  have g1 := hfs 1 _ rfl
  have g2 := hfs 2 _ rfl
  have g3 := hfs 3 _ rfl
  have g4 := hfs 4 _ rfl
  have g5 := hfs 5 _ rfl
  have g6 := hfs 6 _ rfl
  have g7 := hfs 7 _ rfl
  have g8 := hfs 8 _ rfl
  have g9 := hfs 9 _ rfl
  rw [List.getElem?_eq_getElem (by omega)] at g0 g1 g2 g3 g4 g5 g6 g7 g8 g9
  simp [Value.cells, cells9, cells3, cells2, cells4, cells22] at g0 g1 g2 g3 g4 g5 g6 g7 g8 g9
  obtain ⟨s0, e0, _, _⟩ := DataW.trod_string Try.underlying9 g0
  obtain ⟨s1, e1, _, _⟩ := DataW.trod_string Try.underlying9 g1
  obtain ⟨z2, e2, _, _⟩ := DataW.trod_int Try.underlying3 g2
  obtain ⟨s3, e3, _, _⟩ := DataW.trod_string Try.underlying9 g3
  obtain ⟨z4, e4, _, _⟩ := DataW.trod_int Try.underlying3 g4
  obtain ⟨z5, e5, _, _⟩ := DataW.trod_int Try.underlying3 g5
  obtain ⟨a, n, cap, N, V, e6, hn, hF⟩ := open_fields g6
  obtain ⟨z7, e7, _, _⟩ := DataW.trod_int Try.underlying2 g7
  obtain ⟨b8, e8, _⟩ := DataW.trod_bool Try.underlying4 g8
  obtain ⟨b9, e9, _⟩ := DataW.trod_bool Try.underlying4 g9
  simp at e0 e1 e2 e3 e4 e5 e7 e8 e9
  subst e0 e1 e2 e3 e4 e5 e6 e7 e8 e9
  exact ⟨s0, s1, s3, z2, z4, z5, z7, b8, b9, a, n, cap, N, V, rfl, hn, hF⟩
end

end Go.Proofs.Qxb6628022a
