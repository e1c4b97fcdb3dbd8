/-
  PLAIN PARTS for the two laws over wire.TxOffsets: the length of a varint, sums of lengths, rows of slices in memory.
-/
import Derived.WalkKit
import Derived.WalkSpells
namespace Go.Proofs.Qxb6628553a
open Go.RowKit

/-- How many bytes the base-128 varint of x takes, x below 128 ^ fuel. -/
def ulenF : Nat → Nat → Nat
  | 0, _ => 1
  | f + 1, x => if x < 128 then 1 else 1 + ulenF f (x / 128)
def ulen (x : Int) : Int := (ulenF 10 x.toNat : Nat)

theorem ulenF_small {f x : Nat} (h : x < 128) : ulenF f x = 1 := by
  cases f with
  | zero => rfl
  | succ f => simp [ulenF, h]
theorem ulenF_big {f x : Nat} (h : 128 ≤ x) : ulenF (f + 1) x = 1 + ulenF f (x / 128) := by
  simp only [ulenF]
  rw [if_neg (by omega)]
theorem ulenF_le (f x : Nat) : 1 ≤ ulenF f x ∧ ulenF f x ≤ f + 1 := by
  induction f generalizing x with
  | zero => simp [ulenF]
  | succ f ih =>
    simp only [ulenF]
    split
    · omega
    · have := ih (x / 128); omega
theorem ulen_bd (x : Int) : 1 ≤ ulen x ∧ ulen x ≤ 11 := by
  have := ulenF_le 10 x.toNat
  unfold ulen; omega

/-- in the loop over x: z is what is left of it, k groups are counted (from c0 on), f more may come -/
def UInv (x : Int) (c0 z k f : Nat) : Prop := k + f = 10 + c0 ∧ 1 ≤ f ∧ z < 128 ^ f ∧ ulenF 10 x.toNat + c0 = k + ulenF f z
theorem UInv.start (y c0 : Nat) (h : (y : Int) < 18446744073709551616) : UInv (y : Int) c0 y c0 10 := by
  have e : (128 : Nat) ^ 10 = 1180591620717411303424 := by decide
  refine ⟨by omega, by omega, ?_, ?_⟩
  · rw [e]; omega
  · rw [Int.toNat_natCast]; omega
theorem UInv.goOn {x : Int} {c0 z k f : Nat} (h : UInv x c0 z k f) (hz : 128 ≤ z) : ∃ f', f = f' + 1 ∧ UInv x c0 (z / 128) (k + 1) f' := by
  obtain ⟨h1, h2, h3, h4⟩ := h
  obtain ⟨f', rfl⟩ : ∃ f', f = f' + 1 := ⟨f - 1, by omega⟩
  have hf' : 1 ≤ f' := by
    rcases Nat.eq_zero_or_pos f' with h0 | h0
    · subst h0; simp at h3; omega
    · exact h0
  refine ⟨f', rfl, by omega, hf', ?_, ?_⟩
  · rw [Nat.pow_succ] at h3
    exact Nat.div_lt_of_lt_mul (by rw [Nat.mul_comm]; exact h3)
  · rw [ulenF_big hz] at h4; omega
theorem UInv.ended {x : Int} {c0 z k f : Nat} (h : UInv x c0 z k f) (hz : z < 128) : ulen x + (c0 : Int) = (k : Int) + 1 := by
  obtain ⟨_, _, _, h4⟩ := h
  rw [ulenF_small hz] at h4
  unfold ulen; omega
theorem UInv.bd {x : Int} {c0 z k f : Nat} (h : UInv x c0 z k f) : k ≤ 9 + c0 := by
  obtain ⟨h1, h2, _⟩ := h; omega

/-- the sum of the first k lengths -/
def sumL (L : Nat → Nat) : Nat → Nat
  | 0 => 0
  | k + 1 => sumL L k + L k
theorem sumL_mono (L : Nat → Nat) {i j : Nat} (h : i ≤ j) : sumL L i ≤ sumL L j := by
  induction j with
  | zero => have : i = 0 := by omega
            subst this; exact Nat.le_refl _
  | succ j ih =>
    rcases Nat.lt_or_ge i (j + 1) with h' | h'
    · have := ih (by omega); simp only [sumL]; omega
    · have : i = j + 1 := by omega
      subst this; exact Nat.le_refl _
theorem sumL_cut (L : Nat → Nat) (k j : Nat) : sumL (fun i => L (k + i)) j + sumL L k = sumL L (k + j) := by
  induction j with
  | zero => simp [sumL]
  | succ j ih =>
    show sumL (fun i => L (k + i)) j + L (k + j) + sumL L k = sumL L (k + j) + L (k + j)
    omega
theorem sumL_congr {L L' : Nat → Nat} {k : Nat} (h : ∀ i, i < k → L i = L' i) : sumL L k = sumL L' k := by
  induction k with
  | zero => rfl
  | succ k ih => simp only [sumL]; rw [ih (fun i hi => h i (by omega)), h k (by omega)]

/-- The slice at address 'a' of n slices, the i-th of length L i, in blocks below B. -/
def LRow (w : World) (B : Nat) (a : Option Addr) (n : Nat) (L : Nat → Nat) : Prop :=
  ∀ i, i < n → ∃ b off, a = some ⟨b, off, .none⟩ ∧ b < B ∧ ∃ x c, w.cell? ⟨b, off + i, .none⟩ = some (.slice x (L i) c)
theorem LRow.later {w w' : World} {B : Nat} {a : Option Addr} {n : Nat} {L : Nat → Nat} (h : LRow w B a n L) (hb : Below B w w') : LRow w' B a n L := by
  intro i hi
  obtain ⟨b, off, ha, hlt, x, c, h1⟩ := h i hi
  exact ⟨b, off, ha, hlt, x, c, (hb.cell (p := ⟨b, off + i, .none⟩) hlt).trans h1⟩
theorem LRow.mono {w : World} {B B' : Nat} {a : Option Addr} {n : Nat} {L : Nat → Nat} (h : LRow w B a n L) (hb : B ≤ B') : LRow w B' a n L := by
  intro i hi
  obtain ⟨b, off, ha, hlt, h1⟩ := h i hi
  exact ⟨b, off, ha, by omega, h1⟩
theorem LRow.less {w : World} {B : Nat} {a : Option Addr} {n m : Nat} {L : Nat → Nat} (h : LRow w B a n L) (hm : m ≤ n) : LRow w B a m L := fun i hi => h i (by omega)

/-- offset of transaction i in a car whose header takes 'h' bytes -/
def offI (h : Int) (L : Nat → Nat) (i : Nat) : Int := h + 4 * (i : Int) + (sumL L i : Int) + 4

/-- The n offsets lie in block g. -/
def ORow (w : World) (g n : Nat) (h : Int) (L : Nat → Nat) : Prop := ∀ i, i < n → w.cell? ⟨g, i, .none⟩ = some (.int .i64 (offI h L i))
theorem ORow.later {w w' : World} {g n : Nat} {h : Int} {L : Nat → Nat} (k : ORow w g n h L) (hb : Below w.heap.size w w') : ORow w' g n h L := fun i hi => cell_later hb (k i hi)

/-! The posts of the walks, behind names. -/
def lenPost (x : Int) (w : World) (e : Ending) (w' : World) : Prop := e = .returned (.int .i64 (ulen x)) ∧ Below w.heap.size w w'
def lenPost0 (x : Int) (w : World) (e : Ending) (w' : World) : Prop := e = .returned (.int .i64 (ulen x)) ∧ w = w'
def putPost (x : Int) (g : Nat) (w : World) (e : Ending) (w' : World) : Prop := e = .returned (.int .i64 (ulen x)) ∧ Below g w w'
def bytesPost (n : Nat) (L : Nat → Nat) (w : World) (e : Ending) (w' : World) : Prop := ∃ b, e = .returned (.bool b) ∧ (b = true → n + sumL L n ≤ 1048576) ∧ w = w'
def bytesPost8 (n m : Nat) (L : Nat → Nat) (w : World) (e : Ending) (w' : World) : Prop := ∃ b, e = .returned (.bool b) ∧ (b = true → n + sumL L n + m ≤ 1048576) ∧ w = w'
def offPost (h : Int) (n : Nat) (L : Nat → Nat) (w : World) (e : Ending) (w' : World) : Prop :=
  ∃ g, e = .returned (.slice (some ⟨g, 0, .none⟩) n n) ∧ ORow w' g n h L ∧ Below w.heap.size w w'

end Go.Proofs.Qxb6628553a
