/-
  WALKS: zzBytes (5, 10), zzTooBig (6), zzHasByte (11).
-/
import Derived.Test.Qxb6628603aProg
import Derived.Test.Qxb6628603aParts
import Derived.WalkKit
import Derived.WalkSpells
import Derived.WalkLawsBesides
import Derived.Deep.LoopGhost
import Derived.Deep.RegionHeld3
import Derived.Deep.DrawnRows
namespace Go.Proofs.Qxb6628603a
open Go.RowKit

theorem bytes_end {n : Nat} {N V : Nat → ByteArray} {w : World} (b : Bool) (h : b = true → n + szs N V n ≤ 1048576) : bytesPost n N V w (.returned (.bool b)) w := ⟨b, rfl, h, rfl⟩

set_option maxHeartbeats 400000 in
theorem bytes5_any (a : Option Addr) (n cap : Nat) (z : Int) (N V : Nat → ByteArray) (w : World) (hn : n ≤ maxLen) (hF : FRow w a n N V) :
    Calls Try.prog 5 #[.slice a n cap, .int .i64 z] w (bytesPost n N V w) := by
  unfold maxLen at hn
  go_enter Try.func5, Try.ntmps5
  go_wp2
  all_goals (try (go_ret; exact bytes_end false (fun h => Bool.noConfusion h)))
  go_loopg [5, 6] n (fun f t i wr => ∃ k : Nat, k + f = n ∧ i = .int .i64 k ∧ n + szs N V k ≤ 1048576 ∧ t = .int .i64 ((n + szs N V k : Nat) : Int) ∧ w = wr)
  case atStart => exact ⟨0, by omega, rfl, by simp only [szs]; omega, by simp [szs], rfl⟩
  case round =>
    obtain ⟨k, hkf, rfl, hs, rfl, rfl⟩ := hrel
    have HK : Hid (k + gk = n) := hkf
    have hk : k ≤ n := by omega
    have HS : Hid (szs N V (k + 1) = szs N V k + (N k).size + (V k).size) := rfl
    clear hkf
    by_cases hlt : k < n
    · obtain ⟨b, off, rfl, hc, hd⟩ := hF k (by omega)
      go_wp2_with fail
      all_goals (try (go_ret; exact bytes_end false (fun h => Bool.noConfusion h)))
      go_roundg (gk - 1)
      case measure => have := HK.out; omega
      case rel => exact ⟨k + 1, by have := HK.out; omega, by go_num, by have := HS.out; omega, by have := HS.out; go_num, rfl⟩
    · have HN : Hid (k = n) := show k = n by omega
      go_wp2_with fail
      go_ret
      exact bytes_end _ (fun _ => by have e := HN.out; subst e; omega)

set_option maxHeartbeats 400000 in
theorem bytes10_any (a : Option Addr) (n cap : Nat) (N V : Nat → ByteArray) (w : World) (hn : n ≤ maxLen) (hF : FRow w a n N V) :
    Calls Try.prog 10 #[.slice a n cap] w (bytesPost n N V w) := by
  unfold maxLen at hn
  go_enter Try.func10, Try.ntmps10
  go_wp2
  all_goals (try (go_ret; exact bytes_end false (fun h => Bool.noConfusion h)))
  go_loopg [3, 4] n (fun f t i wr => ∃ k : Nat, k + f = n ∧ i = .int .i64 k ∧ n + szs N V k ≤ 1048576 ∧ t = .int .i64 ((n + szs N V k : Nat) : Int) ∧ w = wr)
  case atStart => exact ⟨0, by omega, rfl, by simp only [szs]; omega, by simp [szs], rfl⟩
  case round =>
    obtain ⟨k, hkf, rfl, hs, rfl, rfl⟩ := hrel
    have HK : Hid (k + gk = n) := hkf
    have hk : k ≤ n := by omega
    have HS : Hid (szs N V (k + 1) = szs N V k + (N k).size + (V k).size) := rfl
    clear hkf
    by_cases hlt : k < n
    · obtain ⟨b, off, rfl, hc, hd⟩ := hF k (by omega)
      go_wp2_with fail
      all_goals (try (go_ret; exact bytes_end false (fun h => Bool.noConfusion h)))
      go_roundg (gk - 1)
      case measure => have := HK.out; omega
      case rel => exact ⟨k + 1, by have := HK.out; omega, by go_num, by have := HS.out; omega, by have := HS.out; go_num, rfl⟩
    · have HN : Hid (k = n) := show k = n by omega
      go_wp2_with fail
      go_ret
      exact bytes_end _ (fun _ => by have e := HN.out; subst e; omega)

set_option maxHeartbeats 400000 in
theorem big_any (a : Option Addr) (n cap : Nat) (N V : Nat → ByteArray) (w : World) (hn : n ≤ 1048576) (hF : FRow w a n N V) :
    Calls Try.prog 6 #[.slice a n cap] w (boolPost w) := by
  go_enter Try.func6, Try.ntmps6
  go_wp2_with fail
  go_loopg [3, 4] n (fun f t i wr => ∃ k : Nat, k + f = n ∧ i = .int .i64 k ∧ (∃ z : Int, t = .int .i64 z) ∧ Below w.heap.size w wr)
  case atStart => exact ⟨0, by omega, rfl, ⟨_, rfl⟩, Below.refl _ _⟩
  case round =>
    obtain ⟨k, hkf, rfl, ⟨z, rfl⟩, hb⟩ := hrel
    have HK : Hid (k + gk = n) := hkf
    have hk : k ≤ n := by omega
    clear hkf
    by_cases hlt : k < n
    · obtain ⟨b, off, rfl, hc, hd⟩ := hF.later hb k (by omega)
      have hk0 : (0 : Int) ≤ (k : Int) := Int.natCast_nonneg _
      have hk1 : (k : Int) < (n : Int) := by omega
      go_wp2_with fail
      go_region_held3 (fun w' => w'.cell? ⟨b, off + k * 2, .none⟩ = some (.string (N k)) ∧ w'.cell? ⟨b, off + k * 2 + 1, .none⟩ = some (.string (V k))) (go_keep) (fail)
      go_wp2_with fail
      all_goals (try (go_ret; exact ⟨true, rfl, hb.drew⟩))
      go_roundg (gk - 1)
      case measure => have := HK.out; omega
      case rel => exact ⟨k + 1, by have := HK.out; omega, by go_num, ⟨_, rfl⟩, hb.drew⟩
    · go_wp2_with fail
      go_ret
      exact ⟨false, rfl, hb⟩

theorem get_at (s : ByteArray) (k : Nat) (h : k < s.size) : s.data.toList[k]? = some s[k] := by
  rw [List.getElem?_eq_getElem (by simpa using h)]; rfl
theorem get_ne {s : ByteArray} {k : Nat} {c : UInt8} {cv : Int} (h : k < s.size) (hcv : cv = c.toNat) (hne : ((s[k].toNat : Int) == cv) = false) : s.data.toList[k]? ≠ some c := by
  rw [get_at s k h]
  intro e
  have e' : s[k] = c := Option.some.inj e
  rw [e', hcv] at hne
  simp at hne
/-- the byte c occurs in s -/
def hasB (s : ByteArray) (c : UInt8) : Prop := ∃ k : Nat, s.data.toList[k]? = some c
def hasPost (s : ByteArray) (c : UInt8) (w : World) (e : Ending) (w' : World) : Prop := ∃ b, e = .returned (.bool b) ∧ (b = false → ¬ hasB s c) ∧ w = w'

set_option maxHeartbeats 400000 in
theorem has_any (s : ByteArray) (c : UInt8) (cv : Int) (hcv : cv = c.toNat) (w : World) (hs : s.size ≤ 1048576) :
    Calls Try.prog 11 #[.string s, .int .u8 cv] w (hasPost s c w) := by
  have HCV : Hid (cv = c.toNat) := hcv
  clear hcv
  go_enter Try.func11, Try.ntmps11
  go_wp2_with fail
  go_loopg [5] s.size (fun f i wr => ∃ k : Nat, k + f = s.size ∧ i = .int .i64 k ∧ (∀ j, j < k → s.data.toList[j]? ≠ some c) ∧ w = wr)
  case atStart => exact ⟨0, by omega, rfl, fun j h => by omega, rfl⟩
  case round =>
    obtain ⟨k, hkf, rfl, hno, rfl⟩ := hrel
    have HK : Hid (k + gk = s.size) := hkf
    have HN : Hid (∀ j, j < k → s.data.toList[j]? ≠ some c) := hno
    have hk : k ≤ s.size := by omega
    clear hkf hno
    by_cases hlt : k < s.size
    · cases hE : ((s[k].toNat : Int) == cv)
      · go_wp2_with fail
        go_roundg (gk - 1)
        case measure => have := HK.out; omega
        case rel =>
          refine ⟨k + 1, by have := HK.out; omega, by go_num, fun j hj => ?_, rfl⟩
          rcases Nat.lt_or_ge j k with h | h
          · exact HN.out j h
          · obtain rfl : j = k := by omega
            exact get_ne hlt HCV.out hE
      · go_wp2_with fail
        go_ret
        exact ⟨true, rfl, fun h => Bool.noConfusion h, rfl⟩
    · go_wp2_with fail
      go_ret
      refine ⟨false, rfl, fun _ ⟨j, hj⟩ => ?_, rfl⟩
      have := (List.getElem?_eq_some_iff.1 hj).1
      rw [← size_len] at this
      exact HN.out j (by omega) hj

end Go.Proofs.Qxb6628603a
