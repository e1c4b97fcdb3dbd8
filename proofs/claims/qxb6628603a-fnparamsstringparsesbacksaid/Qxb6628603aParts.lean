/-
  PLAIN PARTS for the two laws over (Params).String: rows of pairs of strings in memory; the text that String writes.
-/
import Derived.WalkKit
import Derived.WalkSpells
namespace Go.Proofs.Qxb6628603a
open Go.RowKit

/-- The slice at address 'a' of n elements holds, pair by pair, the strings N i and V i. -/
def FRow (w : World) (a : Option Addr) (n : Nat) (N V : Nat → ByteArray) : Prop :=
  ∀ i, i < n → ∃ b off, a = some ⟨b, off, .none⟩ ∧ w.cell? ⟨b, off + i * 2, .none⟩ = some (.string (N i)) ∧ w.cell? ⟨b, off + i * 2 + 1, .none⟩ = some (.string (V i))

theorem FRow.later {w w' : World} {a : Option Addr} {n : Nat} {N V : Nat → ByteArray} (h : FRow w a n N V) (hb : Below w.heap.size w w') : FRow w' a n N V := by
  intro i hi
  obtain ⟨b, off, ha, h1, h2⟩ := h i hi
  exact ⟨b, off, ha, cell_later hb h1, cell_later hb h2⟩

theorem FRow.less {w : World} {a : Option Addr} {n m : Nat} {N V : Nat → ByteArray} (h : FRow w a n N V) (hm : m ≤ n) : FRow w a m N V := fun i hi => h i (by omega)

/-- The cells of m pairs. -/
def pairs (N V : Nat → ByteArray) : Nat → List Value
  | 0 => []
  | m + 1 => pairs N V m ++ [.string (N m), .string (V m)]

theorem pairs_length (N V : Nat → ByteArray) (m : Nat) : (pairs N V m).length = m * 2 := by
  induction m with
  | zero => rfl
  | succ m ih => simp [pairs, ih]; omega

theorem pairs_get (N V : Nat → ByteArray) (m : Nat) : ∀ i, i < m → (pairs N V m)[i * 2]? = some (.string (N i)) ∧ (pairs N V m)[i * 2 + 1]? = some (.string (V i)) := by
  induction m with
  | zero => intro i hi; omega
  | succ m ih =>
    intro i hi
    have hl := pairs_length N V m
    simp only [pairs]
    by_cases h : i < m
    · rw [List.getElem?_append_left (by omega), List.getElem?_append_left (by omega)]
      exact ih i h
    · have : i = m := by omega
      subst this
      rw [List.getElem?_append_right (by omega), List.getElem?_append_right (by omega)]
      have e1 : i * 2 - (pairs N V i).length = 0 := by omega
      have e2 : i * 2 + 1 - (pairs N V i).length = 1 := by omega
      rw [e1, e2]
      exact ⟨rfl, rfl⟩

theorem frow_of_owns {w : World} {base : Nat} {e : TypeId} {g n cap : Nat} {N V : Nat → ByteArray} (h : w.ownsRow base e 2 (.slice (some ⟨g, 0, .none⟩) n cap) n (pairs N V n)) : FRow w (some ⟨g, 0, .none⟩) n N V := by
  intro i hi
  have hc := h.cells (g := g) rfl
  obtain ⟨g1, g2⟩ := pairs_get N V n i hi
  have c1 := hc _ _ g1
  have c2 := hc _ _ g2
  rw [Addr.add_lit] at c1 c2
  exact ⟨g, 0, rfl, by simpa using c1, by simpa [Nat.add_assoc] using c2⟩

theorem str_eq {a b : ByteArray} : (a.toList == b.toList) = true ↔ a = b := by
  constructor
  · intro h
    rw [ByteArray.toList_eq, ByteArray.toList_eq] at h
    have h' : a.data.toList = b.data.toList := by simpa using h
    obtain ⟨⟨x⟩⟩ := a
    obtain ⟨⟨y⟩⟩ := b
    simp at h'
    rw [h']
  · intro h; subst h; simp
theorem bytes_ext {a b : ByteArray} (h : a.data.toList = b.data.toList) : a = b := by
  obtain ⟨⟨x⟩⟩ := a
  obtain ⟨⟨y⟩⟩ := b
  simp at h
  rw [h]
theorem size_len (a : ByteArray) : a.size = a.data.toList.length := by simp

/-- one parameter's text -/
def one (n v : ByteArray) : List UInt8 := if v.toList.isEmpty = true then 59 :: n.data.toList else 59 :: n.data.toList ++ 61 :: v.data.toList
/-- the text of the first m parameters -/
def txt (N V : Nat → ByteArray) : Nat → List UInt8
  | 0 => []
  | m + 1 => txt N V m ++ one (N m) (V m)
/-- the sum of the strings' lengths -/
def szs (N V : Nat → ByteArray) : Nat → Nat
  | 0 => 0
  | m + 1 => szs N V m + (N m).size + (V m).size

theorem szs_mono (N V : Nat → ByteArray) {i j : Nat} (h : i ≤ j) : szs N V i ≤ szs N V j := by
  induction j with
  | zero => have : i = 0 := by omega
            subst this; exact Nat.le_refl _
  | succ j ih =>
    rcases Nat.lt_or_ge i (j + 1) with h' | h'
    · have := ih (by omega); simp only [szs]; omega
    · have : i = j + 1 := by omega
      subst this; exact Nat.le_refl _
theorem isEmpty_size {v : ByteArray} : v.toList.isEmpty = true ↔ v.size = 0 := by
  rw [ByteArray.toList_eq, size_len]
  cases v.data.toList <;> simp
theorem one_length (n v : ByteArray) : (one n v).length ≤ n.size + v.size + 2 ∧ 1 ≤ (one n v).length ∧ n.size + 1 ≤ (one n v).length := by
  unfold one
  split
  · simp; omega
  · simp; omega
theorem one_empty {n v : ByteArray} (h : v.toList.isEmpty = true) : one n v = 59 :: n.data.toList := by unfold one; rw [if_pos h]
theorem one_full {n v : ByteArray} (h : v.toList.isEmpty = false) : one n v = 59 :: n.data.toList ++ 61 :: v.data.toList := by unfold one; rw [h]; rfl
theorem txt_length (N V : Nat → ByteArray) (m : Nat) : (txt N V m).length ≤ szs N V m + 2 * m := by
  induction m with
  | zero => simp [txt, szs]
  | succ m ih => have := one_length (N m) (V m); simp only [txt, szs, List.length_append]; omega
theorem txt_mono (N V : Nat → ByteArray) {i j : Nat} (h : i ≤ j) : (txt N V i).length ≤ (txt N V j).length := by
  induction j with
  | zero => have : i = 0 := by omega
            subst this; exact Nat.le_refl _
  | succ j ih =>
    rcases Nat.lt_or_ge i (j + 1) with h' | h'
    · have := ih (by omega); simp only [txt, List.length_append]; omega
    · have : i = j + 1 := by omega
      subst this; exact Nat.le_refl _
theorem txt_nil {N V : Nat → ByteArray} {m : Nat} (h : txt N V m = []) : m = 0 := by
  cases m with
  | zero => rfl
  | succ m =>
    have := one_length (N m) (V m)
    have h2 := congrArg List.length h
    simp only [txt, List.length_append, List.length_nil] at h2
    omega
theorem txt_cut (N V : Nat → ByteArray) (k j : Nat) : txt N V k ++ txt (fun i => N (k + i)) (fun i => V (k + i)) j = txt N V (k + j) := by
  induction j with
  | zero => simp [txt]
  | succ j ih =>
    show txt N V k ++ (txt _ _ j ++ one (N (k + j)) (V (k + j))) = txt N V (k + j) ++ one (N (k + j)) (V (k + j))
    rw [← List.append_assoc, ih]

/-! The posts of the walks, behind names. -/
def bytesPost (n : Nat) (N V : Nat → ByteArray) (w : World) (e : Ending) (w' : World) : Prop := ∃ b, e = .returned (.bool b) ∧ (b = true → n + szs N V n ≤ 1048576) ∧ w = w'
def boolPost (w : World) (e : Ending) (w' : World) : Prop := ∃ b, e = .returned (.bool b) ∧ Below w.heap.size w w'
def toPost (n : Nat) (N V : Nat → ByteArray) (w : World) (e : Ending) (w' : World) : Prop :=
  ∃ g, e = .returned (.slice (some ⟨g, 0, .none⟩) n n) ∧ FRow w' (some ⟨g, 0, .none⟩) n N V ∧ Below w.heap.size w w'
def strPost (l : List UInt8) (w : World) (e : Ending) (w' : World) : Prop := ∃ s : ByteArray, e = .returned (.string s) ∧ s.data.toList = l ∧ Below w.heap.size w w'

end Go.Proofs.Qxb6628603a
