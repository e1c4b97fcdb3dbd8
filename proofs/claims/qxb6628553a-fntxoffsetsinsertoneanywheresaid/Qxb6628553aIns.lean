/-
  ONE TRANSACTION PUT IN: plain parts and equations for FnTxOffsetsInsertOneAnywhere.
-/
import Derived.Test.Qxb6628553aLaw3
namespace Go.Proofs.Qxb6628553a
open Go.RowKit

theorem info25 : (Try.prog.info? 25).map (fun i => (i.zero, i.size, i.bytes)) = some (some (.slice none 0 0), 1, 24) := by kernel_rfl

/-- a length m put in at place p -/
def insL (L : Nat → Nat) (p m i : Nat) : Nat := if i < p then L i else if i = p then m else L (i - 1)
theorem insL_lt {L : Nat → Nat} {p m i : Nat} (h : i < p) : insL L p m i = L i := by simp [insL, h]
theorem insL_at {L : Nat → Nat} {p m : Nat} : insL L p m p = m := by simp [insL]
theorem insL_gt {L : Nat → Nat} {p m i : Nat} (h : p ≤ i) : insL L p m (i + 1) = L i := by
  unfold insL
  rw [if_neg (by omega), if_neg (by omega)]
  rfl
theorem sum_ins_le (L : Nat → Nat) (p m : Nat) {i : Nat} (h : i ≤ p) : sumL (insL L p m) i = sumL L i := sumL_congr fun _ hj => insL_lt (by omega)
theorem sum_ins_gt (L : Nat → Nat) (p m : Nat) (t : Nat) : sumL (insL L p m) (p + t + 1) = sumL L (p + t) + m := by
  induction t with
  | zero =>
    show sumL (insL L p m) p + insL L p m p = _
    rw [sum_ins_le L p m (Nat.le_refl _), insL_at]
    rfl
  | succ t ih =>
    show sumL (insL L p m) (p + t + 1) + insL L p m (p + t + 1) = sumL L (p + t) + L (p + t) + m
    rw [ih, insL_gt (by omega)]
    omega

/-- the new slice of slices: k of n cells are laid -/
def GPart (w : World) (g n k : Nat) (L : Nat → Nat) : Prop :=
  ∃ cur : Array Value, w.heap[g]? = some (.cells cur 25 (0, 0)) ∧ cur.size = n ∧ ∀ i, i < k → ∃ x c, cur[i]? = some (.slice x (L i) c)
theorem GPart.store {w : World} {g n k l : Nat} {L : Nat → Nat} {x : Option Addr} {c : Nat} (p : GPart w g n k L) (hk : k < n) (hz : l = L k) : GPart (w.setCell ⟨g, k, .none⟩ (.slice x l c)) g n (k + 1) L := by
  obtain ⟨cur, h1, h2, h3⟩ := p
  refine ⟨cur.setIfInBounds k (.slice x l c), ?_, by simpa using h2, fun i hi => ?_⟩
  · rw [setCell_eq_setRow w g k _ 25 (0, 0) _ h1]
    exact setRow_heap w g _ _ 25 _ h1
  · rw [Array.getElem?_setIfInBounds]
    by_cases e : k = i
    · subst e; rw [if_pos rfl, if_pos (by omega), hz]; exact ⟨x, c, rfl⟩
    · rw [if_neg e]; exact h3 i (by omega)
theorem GPart.facts {w : World} {g n k j : Nat} {L : Nat → Nat} (p : GPart w g n k L) (hj : j < n) : (∃ old, w.cell? ⟨g, j, .none⟩ = some old) ∧ w.frozen? ⟨g, j, .none⟩ = false := by
  obtain ⟨cur, h1, h2, _⟩ := p
  refine ⟨⟨cur[j]'(by omega), by simp [World.cell?, h1]⟩, by simp [World.frozen?, h1]⟩
theorem GPart.lrow {w : World} {g n : Nat} {L : Nat → Nat} (p : GPart w g n n L) : LRow w w.heap.size (some ⟨g, 0, .none⟩) n L := by
  obtain ⟨cur, h1, _, h3⟩ := p
  intro i hi
  obtain ⟨x, c, hc⟩ := h3 i hi
  refine ⟨g, 0, rfl, (Array.getElem?_eq_some_iff.1 h1).1, x, c, ?_⟩
  rw [← hc]
  simp [World.cell?, h1]
theorem GPart.made {w : World} {base g n : Nat} {L : Nat → Nat} {xs : List Value} (hw : w.ownsRow base 25 1 (.slice (some ⟨g, 0, .none⟩) n n) n xs) : GPart w g n 0 L := by
  rcases hw.2 with ⟨h0, _⟩ | ⟨g', cap', cur, hv, _, hg, _, _, hs, _⟩
  · cases h0
  · simp at hv
    obtain ⟨rfl, rfl⟩ := hv
    exact ⟨cur, hg, by simpa using hs, fun i hi => by omega⟩

/-- where the new transaction begins -/
theorem at_eq (L : Nat → Nat) (p m : Nat) (hd u1 : Int) (b1 : 0 ≤ hd ∧ hd ≤ 40) (b2 : 0 ≤ u1 ∧ u1 ≤ 20) (b3 : p ≤ 200000) (b4 : sumL L p ≤ 2097152) :
    (offI (hd + u1) (insL L p m) p != IntKind.i64.wrap (IntKind.i64.wrap (IntKind.i64.wrap (hd + u1) + IntKind.i64.wrap (4 * IntKind.i64.wrap ((p : Int) + 1))) + (sumL L p : Int))) = false := by
  have hs := sum_ins_le L p m (Nat.le_refl p)
  apply neq_false
  rw [i64w (hd + u1) (by omega) (by omega), i64w ((p : Int) + 1) (by omega) (by omega), i64w (4 * _) (by omega) (by omega), i64w (hd + u1 + _) (by omega) (by omega), i64w _ (by omega) (by omega)]
  unfold offI; omega

/-- the earlier ones -/
theorem early_eq (L : Nat → Nat) (p m j : Nat) (hd u0 u1 : Int) (hj : j < p) (b1 : 0 ≤ hd ∧ hd ≤ 40) (b2 : 0 ≤ u1 ∧ u1 ≤ 20) (b3 : j ≤ 200000) (b4 : sumL L j ≤ 2097152) :
    (offI (hd + u1) (insL L p m) j != IntKind.i64.wrap (offI (hd + u0) L j + (u1 - u0))) = false := by
  have hs := sum_ins_le L p m (Nat.le_of_lt hj)
  apply neq_false
  rw [i64w _ (by unfold offI; omega) (by unfold offI; omega)]
  unfold offI; omega

/-- the later ones -/
theorem late_eq (L : Nat → Nat) (p m j t : Nat) (hd u0 u1 : Int) (hj : j = t + 1) (ht : p ≤ t) (b1 : 0 ≤ hd ∧ hd ≤ 40) (b2 : 0 ≤ u1 ∧ u1 ≤ 20) (b3 : j ≤ 200000) (b4 : sumL L t ≤ 2097152) (b5 : m ≤ 2097152) :
    (offI (hd + u1) (insL L p m) j != IntKind.i64.wrap (IntKind.i64.wrap (IntKind.i64.wrap (offI (hd + u0) L t + (u1 - u0)) + 4) + (m : Int))) = false := by
  obtain ⟨s, rfl⟩ : ∃ s, t = p + s := ⟨t - p, by omega⟩
  subst hj
  have hs := sum_ins_gt L p m s
  apply neq_false
  rw [i64w (offI _ _ _ + _) (by unfold offI; omega) (by unfold offI; omega), i64w (_ + 4) (by unfold offI; omega) (by unfold offI; omega), i64w _ (by unfold offI; omega) (by unfold offI; omega)]
  unfold offI; omega

end Go.Proofs.Qxb6628553a
