/-
  THE EQUATIONS BETWEEN OFFSETS, in the walk's own spelling.
-/
import Derived.Test.Qxb6628553aWalkB
namespace Go.Proofs.Qxb6628553a
open Go.RowKit

theorem neq_false {a b : Int} (h : a = b) : (a != b) = false := by simp [h]

/-- the end of the last transaction -/
theorem end_eq (L : Nat → Nat) (m j : Nat) (hd un : Int) (hj : j = m + 1) (b1 : 0 ≤ hd ∧ hd ≤ 40) (b2 : 0 ≤ un ∧ un ≤ 20) (b3 : j ≤ 200000) (b4 : sumL L j ≤ 2097152) :
    (IntKind.i64.wrap (offI (hd + un) L m + (L m : Int)) != IntKind.i64.wrap (IntKind.i64.wrap (IntKind.i64.wrap (hd + un) + IntKind.i64.wrap (4 * (j : Int))) + (sumL L j : Int))) = false := by
  subst hj
  have hs : sumL L (m + 1) = sumL L m + L m := rfl
  apply neq_false
  rw [i64w (hd + un) (by omega) (by omega), i64w (4 * _) (by omega) (by omega), i64w (hd + un + _) (by omega) (by omega), i64w _ (by unfold offI; omega) (by unfold offI; omega), i64w _ (by omega) (by omega)]
  unfold offI; omega

/-- the first part -/
theorem pre_eq (L : Nat → Nat) (j : Nat) (hd un uk : Int) (b1 : 0 ≤ hd ∧ hd ≤ 40) (b2 : 0 ≤ un ∧ un ≤ 20) (b3 : j ≤ 200000) (b4 : sumL L j ≤ 2097152) :
    (offI (hd + un) L j != IntKind.i64.wrap (offI (hd + uk) L j + (un - uk))) = false := by
  apply neq_false
  rw [i64w _ (by unfold offI; omega) (by unfold offI; omega)]
  unfold offI; omega

/-- the second part -/
theorem suf_eq (L : Nat → Nat) (k t j : Nat) (hd un us : Int) (hj : j = k + t) (b1 : 0 ≤ hd ∧ hd ≤ 40) (b2 : 0 ≤ un ∧ un ≤ 20) (b3 : j ≤ 200000) (b4 : sumL L j ≤ 2097152) :
    (offI (hd + un) L j != IntKind.i64.wrap (offI (hd + us) (fun i => L (k + i)) t + (un - us + (4 * (k : Int) + (sumL L k : Int))))) = false := by
  subst hj
  have hs := sumL_cut L k t
  apply neq_false
  rw [i64w _ (by unfold offI; omega) (by unfold offI; omega)]
  unfold offI; omega

end Go.Proofs.Qxb6628553a
