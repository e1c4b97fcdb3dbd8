/-
  What stays true of the law's own box and of the fields that came in, from world to world.
-/
import Derived.Test.Qxb6628022aParts

namespace Go.Proofs.Qxb6628022a
open Go.RowKit

structure Ctx (w : World) (box : Array Value) (a : Option Addr) (n : Nat) (N V : Nat → ByteArray) (wx : World) : Prop where
  bel : Below w.heap.size w wx
  box : wx.heap[w.heap.size]? = some (.cells box 24 (0, 0))
  row : FRow wx a n N V

theorem Ctx.lt {w wx : World} {box : Array Value} {a : Option Addr} {n : Nat} {N V : Nat → ByteArray} (h : Ctx w box a n N V wx) : w.heap.size < wx.heap.size :=
  (Array.getElem?_eq_some_iff.1 h.box).1

theorem Ctx.later {w wx wy : World} {box : Array Value} {a : Option Addr} {n : Nat} {N V : Nat → ByteArray} (h : Ctx w box a n N V wx) (hb : Below wx.heap.size wx wy) : Ctx w box a n N V wy :=
  ⟨h.bel.trans (hb.mono h.bel.size), (hb.block _ h.lt).trans h.box, h.row.later hb⟩

theorem Ctx.start (w : World) (box : Array Value) {a : Option Addr} {n : Nat} {N V : Nat → ByteArray} (h : FRow w a n N V) : Ctx w box a n N V (w.alloc (.cells box 24)) :=
  ⟨(Below.refl _ _).alloc (Nat.le_refl _) _, heap_alloc_new w _, h.later ((Below.refl _ _).alloc (Nat.le_refl _) _)⟩

theorem Ctx.cell {w wx : World} {box : Array Value} {a : Option Addr} {n : Nat} {N V : Nat → ByteArray} (h : Ctx w box a n N V wx) (i : Nat) (v : Value) (hv : box[i]? = some v) : wx.cell? ⟨w.heap.size, i, .none⟩ = some v := by
  rw [← hv]; simp [World.cell?, h.box]

theorem Ctx.drew {w wx : World} {box : Array Value} {a : Option Addr} {n : Nat} {N V : Nat → ByteArray} (h : Ctx w box a n N V wx) : Ctx w box a n N V wx.drew :=
  h.later (Below.refl _ _).drew

/-- a pointer to a head that holds the slice -/
def Head (wx : World) (p : Nat) (fa : Option Addr) (fn fc : Nat) (N V : Nat → ByteArray) : Prop :=
  wx.cell? ⟨p, 6, .none⟩ = some (.slice fa fn fc) ∧ FRow wx fa fn N V
theorem Head.later {wx wy : World} {p : Nat} {fa : Option Addr} {fn fc : Nat} {N V : Nat → ByteArray} (h : Head wx p fa fn fc N V) (hb : Below wx.heap.size wx wy) : Head wy p fa fn fc N V :=
  ⟨cell_later hb h.1, h.2.later hb⟩

end Go.Proofs.Qxb6628022a
