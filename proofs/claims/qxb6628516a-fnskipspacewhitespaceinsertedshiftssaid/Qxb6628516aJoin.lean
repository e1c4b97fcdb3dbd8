/-
  Bytes joined out of three parts in a row of the call's own: plain parts for FnSkipSpaceWhitespaceInsertedShifts.
-/
import Derived.Test.Qxb6628516aLaw3
namespace Go.Proofs.Qxb6628516a
open Go.RowKit

/-- the slice data behind the copy (or nil as it came), and that nil means empty -/
def Data2 (w : World) (n : Nat) (Z : Nat → Int) (d : Value) (wc : World) : Prop :=
  ∃ a cap, d = .slice a n cap ∧ n ≤ cap ∧ BRow wc wc.heap.size a n Z ∧ (a = none → n = 0 ∧ cap = 0) ∧ Below w.heap.size w wc

def join3 (A B C : Nat → Int) (p m i : Nat) : Int := if i < p then A i else if i < p + m then B (i - p) else C (i - p - m)

theorem join3_get (A B C : Nat → Int) (p m q i : Nat) (h : i < p + m + q) : (cellsZ A p ++ cellsZ B m ++ cellsZ C q)[i]? = some (.int .u8 (join3 A B C p m i)) := by
  unfold join3
  by_cases h1 : i < p
  · rw [List.append_assoc, List.getElem?_append_left (by rw [cellsZ_length]; exact h1), cellsZ_at h1, if_pos h1]
  · by_cases h2 : i < p + m
    · rw [if_neg h1, if_pos h2, List.append_assoc, List.getElem?_append_right (by rw [cellsZ_length]; omega), cellsZ_length, List.getElem?_append_left (by rw [cellsZ_length]; omega), cellsZ_at (by omega)]
    · rw [if_neg h1, if_neg h2, List.getElem?_append_right (by simp [cellsZ_length]; omega)]
      have e : i - (cellsZ A p ++ cellsZ B m).length = i - p - m := by simp [cellsZ_length]; omega
      rw [e, cellsZ_at (by omega)]

theorem join3_row {w : World} {base g n cap p m q : Nat} {A B C : Nat → Int} (hn : n = p + m + q) (h : w.ownsRow base 5 1 (.slice (some ⟨g, 0, .none⟩) n cap) n (cellsZ A p ++ cellsZ B m ++ cellsZ C q)) :
    BRow w w.heap.size (some ⟨g, 0, .none⟩) n (join3 A B C p m) := by
  subst hn
  intro i hi
  have hc := h.cells (g := g) rfl i _ (join3_get A B C p m q i hi)
  rw [Addr.add_lit] at hc
  exact ⟨g, 0, rfl, World.block_lt_of_cell? w _ hc, hc⟩

theorem cut_none {a : Option Addr} {n cap p : Nat} (h : a = none → n = 0 ∧ cap = 0) : (if cap = p then a else a.map (·.add p)) = none → n - p = 0 ∧ cap - p = 0 := by
  intro e
  have ha : a = none := by
    split at e
    · exact e
    · cases a with
      | none => rfl
      | some x => simp at e
  obtain ⟨rfl, rfl⟩ := h ha
  exact ⟨by omega, by omega⟩

theorem cut_cells {w : World} {B n cap p : Nat} {a : Option Addr} {Z : Nat → Int} (hF : BRow w B a n Z) (hc : n ≤ cap) :
    ∀ ad, (if cap = p then a else a.map (·.add p)) = some ad → ∀ j u, (cellsZ (fun i => Z (p + i)) (n - p))[j]? = some u → w.cell? (ad.add j) = some u := by
  intro ad e j u hu
  obtain ⟨hj, rfl⟩ := cellsZ_get hu
  rw [if_neg (by omega)] at e
  obtain ⟨b, off, rfl, _, hx⟩ := hF (p + j) (by omega)
  simp at e
  subst e
  rw [Addr.add_lit, Addr.add_lit, Nat.add_assoc]
  exact hx

/-- the address of data[p:], named -/
theorem cut_named (a : Option Addr) (n cap p : Nat) (h : n ≤ cap ∧ (a = none → n = 0 ∧ cap = 0)) (Z : Nat → Int) :
    ∃ A, (if cap = p then a else Option.map (fun x => x.add p) a) = A ∧ (A = none → n - p = 0 ∧ cap - p = 0) ∧
      ∀ w B, BRow w B a n Z → ∀ ad, A = some ad → ∀ j u, (cellsZ (fun i => Z (p + i)) (n - p))[j]? = some u → w.cell? (ad.add j) = some u :=
  ⟨_, rfl, cut_none h.2, fun _ _ hF => cut_cells hF h.1⟩

theorem head_none {a : Option Addr} {n cap p : Nat} (h : a = none → n = 0 ∧ cap = 0) (hp : p ≤ n) : a = none → p = 0 ∧ cap = 0 := by
  intro e
  obtain ⟨rfl, rfl⟩ := h e
  exact ⟨by omega, rfl⟩

theorem head_cells {w : World} {B n p : Nat} {a : Option Addr} {Z : Nat → Int} (hF : BRow w B a n Z) (hp : p ≤ n) : ∀ ad, a = some ad → ∀ j u, (cellsZ Z p)[j]? = some u → w.cell? (ad.add j) = some u := by
  intro ad e j u hu
  subst e
  exact src_cells (hF.less hp) j u hu

theorem one_cell (w : World) (b : Int) : ∀ ad, some (⟨w.heap.size, 0, .none⟩ : Addr) = some ad → ∀ j u, (cellsZ (fun _ => b) 1)[j]? = some u → (w.alloc (.cells #[.int .u8 b] 5)).cell? (ad.add j) = some u := by
  intro ad e j u hu
  obtain ⟨hj, rfl⟩ := cellsZ_get hu
  obtain rfl : j = 0 := by omega
  obtain rfl := Option.some.inj e
  rw [Addr.add_lit, cell_at (heap_alloc_new w _)]
  rfl

theorem grown_below {w wx wy : World} {g : Nat} (hb : Below w.heap.size w wx) (hg : wx.grownBy wy (some g)) (hle : w.heap.size ≤ g) : Below w.heap.size w wy :=
  hb.grown hg hb.size (fun k h => by simp at h; omega)

end Go.Proofs.Qxb6628516a
