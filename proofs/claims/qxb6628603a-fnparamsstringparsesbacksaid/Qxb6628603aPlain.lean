/-
  WHAT zzParse MEETS IN A TEXT THAT String HAS WRITTEN: piece by piece, with no Go in sight.
-/
import Derived.Test.Qxb6628603aWalkA
import Derived.Lib.Strings
namespace Go.Proofs.Qxb6628603a
open Go.RowKit

/-- a piece's body -/
def bd (n v : ByteArray) : List UInt8 := if v.toList.isEmpty = true then n.data.toList else n.data.toList ++ 61 :: v.data.toList
theorem one_bd (n v : ByteArray) : one n v = 59 :: bd n v := by
  unfold one bd
  split <;> rfl

theorem byte_ne {s : ByteArray} {j : Nat} {c : UInt8} (h : j < s.size) (hne : s.data.toList[j]? ≠ some c) : ((s[j].toNat : Int) != (c.toNat : Int)) = true := by
  rw [get_at s j h] at hne
  have h1 : s[j] ≠ c := fun e => hne (by rw [e])
  have h2 : s[j].toNat ≠ c.toNat := fun e => h1 (UInt8.toNat_inj.1 e)
  simp
  omega
theorem byte_eq {s : ByteArray} {j : Nat} {c : UInt8} (h : j < s.size) (he : s.data.toList[j]? = some c) : ((s[j].toNat : Int) != (c.toNat : Int)) = false := by
  rw [get_at s j h] at he
  rw [Option.some.inj he]
  simp

theorem bd_no59 {n v : ByteArray} (c1 : ¬ hasB n 59) (c3 : ¬ hasB v 59) (k : Nat) : (bd n v)[k]? ≠ some 59 := by
  unfold bd
  split
  · exact fun h => c1 ⟨k, h⟩
  · intro h
    rcases Nat.lt_or_ge k n.data.toList.length with hk | hk
    · rw [List.getElem?_append_left hk] at h
      exact c1 ⟨k, h⟩
    · rw [List.getElem?_append_right hk] at h
      rcases Nat.eq_zero_or_pos (k - n.data.toList.length) with h0 | h0
      · rw [h0] at h; simp at h
      · obtain ⟨m, hm⟩ : ∃ m, k - n.data.toList.length = m + 1 := ⟨k - n.data.toList.length - 1, by omega⟩
        rw [hm, List.getElem?_cons_succ] at h
        exact c3 ⟨m, h⟩

section
variable {s : ByteArray} {N V : Nat → ByteArray} {n t : Nat}

theorem text_at (hs : s.data.toList = txt N V n) (ht : t < n) : ∃ rest, s.data.toList = txt N V t ++ (59 :: bd (N t) (V t) ++ rest) ∧ (t + 1 < n → ∃ r, rest = 59 :: r) ∧ (t + 1 = n → rest = []) := by
  have h := txt_cut N V (t + 1) (n - (t + 1))
  rw [show t + 1 + (n - (t + 1)) = n from by omega] at h
  refine ⟨txt (fun i => N (t + 1 + i)) (fun i => V (t + 1 + i)) (n - (t + 1)), ?_, ?_, ?_⟩
  · rw [hs, ← h]
    show txt N V t ++ one (N t) (V t) ++ _ = _
    rw [one_bd, List.append_assoc]
  · intro hlt
    have c := txt_cut (fun i => N (t + 1 + i)) (fun i => V (t + 1 + i)) 1 (n - (t + 1) - 1)
    rw [show 1 + (n - (t + 1) - 1) = n - (t + 1) from by omega] at c
    rw [← c]
    refine ⟨bd (N (t + 1 + 0)) (V (t + 1 + 0)) ++ txt (fun i => N (t + 1 + (1 + i))) (fun i => V (t + 1 + (1 + i))) (n - (t + 1) - 1), ?_⟩
    show ([] ++ one (N (t + 1 + 0)) (V (t + 1 + 0))) ++ _ = _
    rw [List.nil_append, one_bd]
    rfl
  · intro he
    rw [show n - (t + 1) = 0 from by omega]
    rfl

/-- piece t of the text -/
theorem piece (hs : s.data.toList = txt N V n) (ht : t < n) (c1 : ¬ hasB (N t) 59) (c3 : ¬ hasB (V t) 59) :
    ∃ j0, (txt N V (t + 1)).length = j0 ∧ (txt N V t).length + 1 ≤ j0 ∧ j0 ≤ s.size ∧
      (∀ j, ∀ h : j < s.size, (txt N V t).length + 1 ≤ j → j < j0 → ((s[j].toNat : Int) != 59) = true) ∧
      (s.extract ((txt N V t).length + 1) j0).data.toList = bd (N t) (V t) ∧
      (t + 1 = n → j0 = s.size) ∧ (t + 1 < n → ∃ h : j0 < s.size, ((s[j0].toNat : Int) != 59) = false) := by
  obtain ⟨rest, hT, hr1, hr2⟩ := text_at hs ht
  have hlen : (txt N V (t + 1)).length = (txt N V t).length + 1 + (bd (N t) (V t)).length := by
    show (txt N V t ++ one (N t) (V t)).length = _
    rw [one_bd]; simp; omega
  have hsz : s.size = (txt N V t).length + 1 + (bd (N t) (V t)).length + rest.length := by
    rw [size_len, hT]; simp; omega
  refine ⟨_, rfl, by omega, by omega, fun j h h1 h2 => ?_, ?_, fun h => ?_, fun h => ?_⟩
  · refine byte_ne (c := 59) h ?_
    rw [hT, List.getElem?_append_right (by omega)]
    obtain ⟨m, hm⟩ : ∃ m, j - (txt N V t).length = m + 1 := ⟨j - (txt N V t).length - 1, by omega⟩
    rw [hm, List.cons_append, List.getElem?_cons_succ, List.getElem?_append_left (by omega)]
    exact bd_no59 c1 c3 m
  · rw [Lib.extract_data, hT, hlen]
    have e1 : (txt N V t ++ (59 :: bd (N t) (V t) ++ rest)).drop ((txt N V t).length + 1) = bd (N t) (V t) ++ rest := by
      rw [List.drop_append]
      simp
    rw [e1, show (txt N V t).length + 1 + (bd (N t) (V t)).length - ((txt N V t).length + 1) = (bd (N t) (V t)).length from by omega]
    exact List.take_left
  · have := hr2 h; subst this; simp at hsz; omega
  · obtain ⟨r, rfl⟩ := hr1 h
    have hlt : (txt N V (t + 1)).length < s.size := by rw [hsz, hlen]; simp
    refine ⟨hlt, byte_eq (c := 59) hlt ?_⟩
    rw [hT, List.getElem?_append_right (by omega), List.cons_append]
    obtain ⟨m, hm⟩ : ∃ m, (txt N V (t + 1)).length - (txt N V t).length = m + 1 ∧ m = (bd (N t) (V t)).length := ⟨(bd (N t) (V t)).length, by omega, rfl⟩
    rw [hm.1, List.getElem?_cons_succ, hm.2, List.getElem?_append_right (Nat.le_refl _)]
    simp
end

/-- a body without a value -/
theorem seg_empty {n : ByteArray} (c2 : ¬ hasB n 61) : ∀ e, ∀ h : e < n.size, ((n[e].toNat : Int) != 61) = true := fun e h => byte_ne (c := 61) h (fun x => c2 ⟨e, x⟩)
/-- a body with a value -/
theorem seg_full {seg n v : ByteArray} (h : seg.data.toList = n.data.toList ++ 61 :: v.data.toList) (c2 : ¬ hasB n 61) :
    n.size < seg.size ∧ (∀ e, ∀ h : e < seg.size, e < n.size → ((seg[e].toNat : Int) != 61) = true) ∧ (∃ h : n.size < seg.size, ((seg[n.size].toNat : Int) != 61) = false) ∧
      seg.extract 0 n.size = n ∧ seg.extract (n.size + 1) seg.size = v := by
  have hl : n.data.toList.length = n.size := (size_len n).symm
  have hsz : seg.size = n.size + 1 + v.size := by rw [size_len, h, size_len n, size_len v]; simp; omega
  have hlt : n.size < seg.size := by omega
  refine ⟨hlt, fun e he hen => byte_ne (c := 61) he ?_, ⟨hlt, byte_eq (c := 61) hlt ?_⟩, bytes_ext ?_, bytes_ext ?_⟩
  · rw [h, List.getElem?_append_left (by omega)]
    exact fun x => c2 ⟨e, x⟩
  · rw [h, List.getElem?_append_right (by omega), hl]; simp
  · rw [Lib.extract_data, h, ← hl]; simp
  · rw [Lib.extract_data, h]
    have e1 : (n.data.toList ++ 61 :: v.data.toList).drop (n.size + 1) = v.data.toList := by
      rw [← hl, List.drop_append]; simp
    rw [e1, List.take_of_length_le (by rw [← size_len]; omega)]

end Go.Proofs.Qxb6628603a
