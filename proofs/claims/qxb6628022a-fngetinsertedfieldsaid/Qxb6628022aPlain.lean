/-
  THE TWO LAWS WITH NO Go IN SIGHT.
-/
import Derived.Test.Qxb6628022aParts
namespace Go.Proofs.Qxb6628022a
open Go.RowKit

section
variable {N V : Nat → ByteArray} {n k : Nat} {name value other s t : ByteArray}

/-- the value of the first pair named so, up to n -/
theorem IsGet.of_named (h : Named N 0 n name) (g : IsGet N V n name s) : ∃ i, i < n ∧ N i = name ∧ V i = s ∧ ∀ j, j < i → N j ≠ name := by
  rcases g with g | ⟨_, g2⟩
  · exact g
  · obtain ⟨i, _, h2, h3⟩ := h
    exact absurd h3 (g2 i h2)

theorem IsGet.of_not (h : ¬ Named N 0 n name) (g : IsGet N V n name s) : s = ByteArray.empty := by
  rcases g with ⟨i, h1, h2, _⟩ | ⟨g1, _⟩
  · exact absurd ⟨i, Nat.zero_le _, h1, h2⟩ h
  · exact g1

theorem cut_pre (hk : k ≤ n) (h : Named N 0 k name) (g : IsGet N V n name s) (g1 : IsGet N V k name t) : s = t := by
  obtain ⟨i, hi, h1, h2, h3⟩ := g1.of_named h
  exact g.unique (.inl ⟨i, by omega, h1, h2, h3⟩)

theorem cut_suf (hk : k ≤ n) (h : ¬ Named N 0 k name) (g : IsGet N V n name s) (g1 : IsGet (fun i => N (k + i)) (fun i => V (k + i)) (n - k) name t) : s = t := by
  rcases g1 with ⟨i, hi, h1, h2, h3⟩ | ⟨h1, h2⟩
  · refine g.unique (.inl ⟨k + i, by omega, h1, h2, fun j hj e => ?_⟩)
    rcases Nat.lt_or_ge j k with hjk | hjk
    · exact h ⟨j, Nat.zero_le _, hjk, e⟩
    · refine h3 (j - k) (by omega) ?_
      show N (k + (j - k)) = name
      rw [show k + (j - k) = j from by omega]; exact e
  · refine g.unique (.inr ⟨h1, fun j hj e => ?_⟩)
    rcases Nat.lt_or_ge j k with hjk | hjk
    · exact h ⟨j, Nat.zero_le _, hjk, e⟩
    · refine h2 (j - k) (by omega) ?_
      show N (k + (j - k)) = name
      rw [show k + (j - k) = j from by omega]; exact e

/-- x put in at place k -/
def insAt (N : Nat → ByteArray) (k : Nat) (x : ByteArray) (i : Nat) : ByteArray := if i < k then N i else if i = k then x else N (i - 1)

theorem insAt_lt {i : Nat} (hi : i < k) : insAt N k s i = N i := by simp [insAt, hi]
theorem insAt_at : insAt N k s k = s := by simp [insAt]
theorem insAt_gt {i : Nat} (hi : k ≤ i) : insAt N k s (i + 1) = N i := by
  unfold insAt
  rw [if_neg (by omega), if_neg (by omega)]
  rfl

theorem ins_named (hk : k ≤ n) (h : Named N 0 k name) (g : IsGet (insAt N k name) (insAt V k value) (n + 1) name s) (g1 : IsGet N V n name t) : s = t := by
  have hN : Named N 0 n name := by obtain ⟨i, h1, h2, h3⟩ := h; exact ⟨i, h1, by omega, h3⟩
  obtain ⟨i, hi, h1, h2, h3⟩ := g1.of_named hN
  have hik : i < k := by
    obtain ⟨j, _, hj, e⟩ := h
    rcases Nat.lt_or_ge i k with h | h
    · exact h
    · exact absurd e (h3 j (by omega))
  refine g.unique (.inl ⟨i, by omega, ?_, ?_, fun j hj => ?_⟩)
  · rw [insAt_lt hik]; exact h1
  · rw [insAt_lt hik]; exact h2
  · rw [insAt_lt (by omega)]; exact h3 j hj

theorem ins_not (hk : k ≤ n) (h : ¬ Named N 0 k name) (g : IsGet (insAt N k name) (insAt V k value) (n + 1) name s) : s = value := by
  refine g.unique (.inl ⟨k, by omega, insAt_at, insAt_at, fun j hj e => ?_⟩)
  rw [insAt_lt hj] at e
  exact h ⟨j, Nat.zero_le _, hj, e⟩

theorem ins_other (hk : k ≤ n) (h : other ≠ name) (g : IsGet (insAt N k name) (insAt V k value) (n + 1) other s) (g1 : IsGet N V n other t) : s = t := by
  rcases g1 with ⟨i, hi, h1, h2, h3⟩ | ⟨h1, h2⟩
  · rcases Nat.lt_or_ge i k with hik | hik
    · refine g.unique (.inl ⟨i, by omega, ?_, ?_, fun j hj => ?_⟩)
      · rw [insAt_lt hik]; exact h1
      · rw [insAt_lt hik]; exact h2
      · rw [insAt_lt (by omega)]; exact h3 j hj
    · refine g.unique (.inl ⟨i + 1, by omega, ?_, ?_, fun j hj => ?_⟩)
      · rw [insAt_gt hik]; exact h1
      · rw [insAt_gt hik]; exact h2
      · rcases Nat.lt_trichotomy j k with hjk | hjk | hjk
        · rw [insAt_lt hjk]; exact h3 j (by omega)
        · subst hjk; rw [insAt_at]; exact fun e => h e.symm
        · obtain ⟨j, rfl⟩ : ∃ j', j = j' + 1 := ⟨j - 1, by omega⟩
          rw [insAt_gt (by omega)]; exact h3 j (by omega)
  · refine g.unique (.inr ⟨h1, fun j hj => ?_⟩)
    rcases Nat.lt_trichotomy j k with hjk | hjk | hjk
    · rw [insAt_lt hjk]; exact h2 j (by omega)
    · subst hjk; rw [insAt_at]; exact fun e => h e.symm
    · obtain ⟨j, rfl⟩ : ∃ j', j = j' + 1 := ⟨j - 1, by omega⟩
      rw [insAt_gt (by omega)]; exact h2 j (by omega)
end

end Go.Proofs.Qxb6628022a
