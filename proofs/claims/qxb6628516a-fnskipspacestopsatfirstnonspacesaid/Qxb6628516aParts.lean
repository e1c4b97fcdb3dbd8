/-
  PLAIN PARTS for the two laws over (*decoder).skipSpace: rows of bytes in memory; what skipSpace answers; the laws with no Go in sight.
-/
import Derived.WalkKit
import Derived.WalkSpells
namespace Go.Proofs.Qxb6628516a
open Go.RowKit

/-- One of the four whitespace bytes. -/
def sp (c : Int) : Bool := c == 32 || c == 9 || c == 10 || c == 13

theorem sp_no {z : Int} (h : sp z = false) : (z == 32) = false ∧ (z == 9) = false ∧ (z == 10) = false ∧ (z == 13) = false := by
  simp only [sp, Bool.or_eq_false_iff] at h
  exact ⟨h.1.1.1, h.1.1.2, h.1.2, h.2⟩
theorem sp_yes {z : Int} (h : sp z = true) : z = 32 ∨ z = 9 ∨ z = 10 ∨ z = 13 := by
  simp only [sp, Bool.or_eq_true, beq_iff_eq] at h
  omega

/-- The slice at address 'a' of n elements holds the bytes Z i, in blocks below B. -/
def BRow (w : World) (B : Nat) (a : Option Addr) (n : Nat) (Z : Nat → Int) : Prop :=
  ∀ i, i < n → ∃ b off, a = some ⟨b, off, .none⟩ ∧ b < B ∧ w.cell? ⟨b, off + i, .none⟩ = some (.int .u8 (Z i))

theorem BRow.later {w w' : World} {B : Nat} {a : Option Addr} {n : Nat} {Z : Nat → Int} (h : BRow w B a n Z) (hb : Below B w w') : BRow w' B a n Z := by
  intro i hi
  obtain ⟨b, off, ha, hlt, h1⟩ := h i hi
  exact ⟨b, off, ha, hlt, (hb.cell (p := ⟨b, off + i, .none⟩) hlt).trans h1⟩

theorem BRow.mono {w : World} {B B' : Nat} {a : Option Addr} {n : Nat} {Z : Nat → Int} (h : BRow w B a n Z) (hb : B ≤ B') : BRow w B' a n Z := by
  intro i hi
  obtain ⟨b, off, ha, hlt, h1⟩ := h i hi
  exact ⟨b, off, ha, by omega, h1⟩

theorem BRow.less {w : World} {B : Nat} {a : Option Addr} {n m : Nat} {Z : Nat → Int} (h : BRow w B a n Z) (hm : m ≤ n) : BRow w B a m Z := fun i hi => h i (by omega)

/-- What skipSpace answers over n bytes from pos on. -/
structure IsSkip (Z : Nat → Int) (n pos r : Nat) : Prop where
  lo : pos ≤ r
  hi : r ≤ n
  all : ∀ i, pos ≤ i → i < r → sp (Z i) = true
  halted : r < n → sp (Z r) = false

theorem IsSkip.unique {Z : Nat → Int} {n pos r r' : Nat} (h : IsSkip Z n pos r) (k : IsSkip Z n pos r') : r = r' := by
  rcases Nat.lt_trichotomy r r' with hl | hl | hl
  · have h1 := k.all r h.lo hl
    have h2 := h.halted (Nat.lt_of_lt_of_le hl k.hi)
    rw [h1] at h2; cases h2
  · exact hl
  · have h1 := h.all r' k.lo hl
    have h2 := k.halted (Nat.lt_of_lt_of_le hl h.hi)
    rw [h1] at h2; cases h2

/-- a second call stands still -/
theorem IsSkip.again {Z : Nat → Int} {n pos r r' : Nat} (h : IsSkip Z n pos r) (k : IsSkip Z n r r') : r' = r :=
  k.unique ⟨Nat.le_refl _, h.hi, fun i h1 h2 => by omega, h.halted⟩

/-- on the first c bytes -/
theorem IsSkip.cutAt {Z : Nat → Int} {n pos r c r' : Nat} (h : IsSkip Z n pos r) (hc : pos ≤ c) (hn : c ≤ n) (k : IsSkip Z c pos r') : r' = min r c := by
  refine k.unique ⟨by have := h.lo; omega, by omega, fun i h1 h2 => h.all i h1 (by omega), fun hlt => ?_⟩
  have e : min r c = r := by omega
  rw [e]
  exact h.halted (by omega)

/-- whitespace put in at pos: the m bytes 'X' -/
theorem IsSkip.inserted {Z X J : Nat → Int} {n m pos r r' : Nat} (h : IsSkip Z n pos r) (hX : ∀ i, i < m → sp (X i) = true) (hJ1 : ∀ i, i < m → J (pos + i) = X i) (hJ2 : ∀ i, pos ≤ i → i < n → J (m + i) = Z i)
    (k : IsSkip J (n + m) pos r') : r' = r + m := by
  have hlo := h.lo
  have hhi := h.hi
  refine k.unique ⟨by omega, by omega, fun i h1 h2 => ?_, fun hlt => ?_⟩
  · rcases Nat.lt_or_ge i (pos + m) with hi | hi
    · have := hJ1 (i - pos) (by omega)
      rw [show pos + (i - pos) = i from by omega] at this
      rw [this]; exact hX _ (by omega)
    · have := hJ2 (i - m) (by omega) (by omega)
      rw [show m + (i - m) = i from by omega] at this
      rw [this]; exact h.all _ (by omega) (by omega)
  · have := hJ2 r (by omega) (by omega)
    rw [show m + r = r + m from by omega] at this
    rw [this]; exact h.halted (by omega)

/-- a byte that is no whitespace put in at r -/
theorem IsSkip.halts {Z J : Nat → Int} {n pos r r' : Nat} {b : Int} (h : IsSkip Z n pos r) (hb : sp b = false) (hJ1 : ∀ i, i < r → J i = Z i) (hJ2 : J r = b) (k : IsSkip J (n + 1) pos r') : r' = r := by
  have hlo := h.lo
  have hhi := h.hi
  exact k.unique ⟨hlo, by omega, fun i h1 h2 => by rw [hJ1 i h2]; exact h.all i h1 h2, fun _ => by rw [hJ2]; exact hb⟩

/-! The posts of the walks, behind names. -/
def spPost (c : Int) (w : World) (e : Ending) (w' : World) : Prop := e = .returned (.bool (sp c)) ∧ w = w'
def skipPost (Z : Nat → Int) (a : Option Addr) (n cap pos p : Nat) (w : World) (e : Ending) (w' : World) : Prop :=
  ∃ r : Nat, e = .returned (.int .i64 r) ∧ IsSkip Z n pos r ∧ Below p w w' ∧ w'.heap[p]? = some (.cells #[.slice a n cap, .int .i64 r] 30 (0, 0))
def newPost (a : Option Addr) (n cap : Nat) (pos : Int) (w : World) (e : Ending) (w' : World) : Prop :=
  e = .returned (.pointer (some ⟨w.heap.size, 0, .none⟩)) ∧ w'.heap[w.heap.size]? = some (.cells #[.slice a n cap, .int .i64 pos] 30 (0, 0)) ∧ Below w.heap.size w w'
def boolPost (w : World) (e : Ending) (w' : World) : Prop := ∃ b, e = .returned (.bool b) ∧ w = w'

end Go.Proofs.Qxb6628516a
