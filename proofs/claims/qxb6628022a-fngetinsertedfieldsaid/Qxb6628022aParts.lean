/-
  PLAIN PARTS for the two laws over (*Head).Get: rows of pairs of strings in memory; what Get answers; the laws with no Go in sight.
-/
import Derived.WalkKit
import Derived.WalkSpells
namespace Go.Proofs.Qxb6628022a
open Go.RowKit

/-- The slice at address 'a' of n elements holds, pair by pair, the strings N i and V i. -/
def FRow (w : World) (a : Option Addr) (n : Nat) (N V : Nat → ByteArray) : Prop :=
  ∀ i, i < n → ∃ b off, a = some ⟨b, off, .none⟩ ∧ w.cell? ⟨b, off + i * 2, .none⟩ = some (.string (N i)) ∧ w.cell? ⟨b, off + i * 2 + 1, .none⟩ = some (.string (V i))

theorem FRow.later {w w' : World} {a : Option Addr} {n : Nat} {N V : Nat → ByteArray} (h : FRow w a n N V) (hb : Below w.heap.size w w') : FRow w' a n N V := by
  intro i hi
  obtain ⟨b, off, ha, h1, h2⟩ := h i hi
  exact ⟨b, off, ha, cell_later hb h1, cell_later hb h2⟩

theorem FRow.congr {w : World} {a : Option Addr} {n : Nat} {N V N' V' : Nat → ByteArray} (h : FRow w a n N V) (hN : ∀ i, i < n → N i = N' i) (hV : ∀ i, i < n → V i = V' i) : FRow w a n N' V' := by
  intro i hi
  obtain ⟨b, off, ha, h1, h2⟩ := h i hi
  exact ⟨b, off, ha, hN i hi ▸ h1, hV i hi ▸ h2⟩

/-- The cells of m pairs. -/
def pairs (N V : Nat → ByteArray) : Nat → List Value
  | 0 => []
  | m + 1 => pairs N V m ++ [.string (N m), .string (V m)]

theorem pairs_length (N V : Nat → ByteArray) (m : Nat) : (pairs N V m).length = m * 2 := by
  induction m with
  | zero => rfl
  | succ m ih => simp [pairs, ih]; omega

theorem pairs_get (N V : Nat → ByteArray) (m : Nat) : ∀ i, i < m → (pairs N V m)[i * 2]? = some (.string (N i)) ∧ (pairs N V m)[i * 2 + 1]? = some (.string (V i)) := by
  induction m with
  | zero => intro i hi; omega
  | succ m ih =>
    intro i hi
    have hl := pairs_length N V m
    simp only [pairs]
    by_cases h : i < m
    · rw [List.getElem?_append_left (by omega), List.getElem?_append_left (by omega)]
      exact ih i h
    · have : i = m := by omega
      subst this
      rw [List.getElem?_append_right (by omega), List.getElem?_append_right (by omega)]
      have e1 : i * 2 - (pairs N V i).length = 0 := by omega
      have e2 : i * 2 + 1 - (pairs N V i).length = 1 := by omega
      rw [e1, e2]
      exact ⟨rfl, rfl⟩

theorem pairs_congr {N V N' V' : Nat → ByteArray} {m : Nat} (hN : ∀ i, i < m → N i = N' i) (hV : ∀ i, i < m → V i = V' i) : pairs N V m = pairs N' V' m := by
  induction m with
  | zero => rfl
  | succ m ih => simp only [pairs]; rw [ih (fun i hi => hN i (by omega)) (fun i hi => hV i (by omega)), hN m (by omega), hV m (by omega)]

theorem frow_of_owns {w : World} {base : Nat} {e : TypeId} {g n cap : Nat} {N V : Nat → ByteArray} (h : w.ownsRow base e 2 (.slice (some ⟨g, 0, .none⟩) n cap) n (pairs N V n)) : FRow w (some ⟨g, 0, .none⟩) n N V := by
  intro i hi
  have hc := h.cells (g := g) rfl
  obtain ⟨g1, g2⟩ := pairs_get N V n i hi
  have c1 := hc _ _ g1
  have c2 := hc _ _ g2
  rw [Addr.add_lit] at c1 c2
  exact ⟨g, 0, rfl, by simpa using c1, by simpa [Nat.add_assoc] using c2⟩

theorem str_eq {a b : ByteArray} : (a.toList == b.toList) = true ↔ a = b := by
  constructor
  · intro h
    rw [ByteArray.toList_eq, ByteArray.toList_eq] at h
    have h' : a.data.toList = b.data.toList := by simpa using h
    obtain ⟨⟨x⟩⟩ := a
    obtain ⟨⟨y⟩⟩ := b
    simp at h'
    rw [h']
  · intro h; subst h; simp
theorem str_ne {a b : ByteArray} : (a.toList == b.toList) = false ↔ a ≠ b := by
  rw [← Bool.not_eq_true, str_eq]

/-- What Get answers over n pairs: the value of the first one named so; the empty string where there is none. -/
def IsGet (N V : Nat → ByteArray) (n : Nat) (name s : ByteArray) : Prop :=
  (∃ i, i < n ∧ N i = name ∧ V i = s ∧ ∀ j, j < i → N j ≠ name) ∨ (s = ByteArray.empty ∧ ∀ j, j < n → N j ≠ name)

theorem IsGet.unique {N V : Nat → ByteArray} {n : Nat} {name s t : ByteArray} (h : IsGet N V n name s) (k : IsGet N V n name t) : s = t := by
  rcases h with ⟨i, hi, h1, h2, h3⟩ | ⟨h1, h2⟩ <;> rcases k with ⟨j, hj, k1, k2, k3⟩ | ⟨k1, k2⟩
  · have hij : i = j := by
      rcases Nat.lt_trichotomy i j with h | h | h
      · exact absurd h1 (k3 i h)
      · exact h
      · exact absurd k1 (h3 j h)
    subst hij
    exact h2.symm.trans k2
  · exact absurd h1 (k2 i hi)
  · exact absurd k1 (h2 j hj)
  · rw [h1, k1]

/-- some pair of from .. to - 1 is named so -/
def Named (N : Nat → ByteArray) (i0 i1 : Nat) (name : ByteArray) : Prop := ∃ i, i0 ≤ i ∧ i < i1 ∧ N i = name

/-! The posts of the walks, behind names (the walk's simp would take them apart). -/
def namedPost (N : Nat → ByteArray) (i0 i1 : Nat) (name : ByteArray) (w : World) (e : Ending) (w' : World) : Prop :=
  ∃ b, e = .returned (.bool b) ∧ (b = true ↔ Named N i0 i1 name) ∧ w = w'
def getPost (N V : Nat → ByteArray) (n : Nat) (name : ByteArray) (w : World) (e : Ending) (w' : World) : Prop :=
  ∃ s, e = .returned (.string s) ∧ IsGet N V n name s ∧ w = w'
def makePost (fa : Option Addr) (fn fc : Nat) (w : World) (e : Ending) (w' : World) : Prop :=
  ∃ p, e = .returned (.pointer (some ⟨p, 0, .none⟩)) ∧ w'.cell? ⟨p, 6, .none⟩ = some (.slice fa fn fc) ∧ Below w.heap.size w w'
def fieldsPost (N V : Nat → ByteArray) (i0 i1 : Nat) (w : World) (e : Ending) (w' : World) : Prop :=
  ∃ g cap, e = .returned (.slice (some ⟨g, 0, .none⟩) (i1 - i0) cap) ∧ FRow w' (some ⟨g, 0, .none⟩) (i1 - i0) (fun i => N (i0 + i)) (fun i => V (i0 + i)) ∧ Below w.heap.size w w'
def boolPost (w : World) (e : Ending) (w' : World) : Prop := ∃ b, e = .returned (.bool b) ∧ Below w.heap.size w w'
def overPost (n : Nat) (w : World) (e : Ending) (w' : World) : Prop := ∃ b, e = .returned (.bool b) ∧ (b = false → n ≤ 32768) ∧ Below w.heap.size w w'

end Go.Proofs.Qxb6628022a
