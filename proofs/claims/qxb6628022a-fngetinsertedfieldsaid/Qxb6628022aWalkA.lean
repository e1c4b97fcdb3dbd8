/-
  WALKS: zzNamed (9), Get (10), zzMakeHead (7).
-/
import Derived.Test.Qxb6628022aProg
import Derived.Test.Qxb6628022aParts
import Derived.WalkKit
import Derived.WalkSpells
import Derived.WalkLawsBesides
namespace Go.Proofs.Qxb6628022a
open Go.RowKit

set_option maxHeartbeats 400000 in
theorem named_any (a : Option Addr) (n cap i0 i1 : Nat) (N V : Nat → ByteArray) (name : ByteArray) (w : World) (hn : n ≤ 32768) (h1 : i1 ≤ n) (hF : FRow w a n N V) :
    Calls Try.prog 9 #[.slice a n cap, .int .i64 i0, .int .i64 i1, .string name] w (namedPost N i0 i1 name w) := by
  go_enter Try.func9, Try.ntmps9
  go_wp2
  go_loop [9] (fun i => ∃ k : Nat, i0 ≤ k ∧ i = .int .i64 k ∧ ∀ j, i0 ≤ j → j < k → N j ≠ name) (fun i => i1 - (intOf i).toNat)
  case atStart => exact ⟨i0, Nat.le_refl _, rfl, fun j h1 h2 => by omega⟩
  case round =>
    obtain ⟨k, hk, rfl, hno⟩ := hrel
    by_cases hlt : k < i1
    · obtain ⟨b, off, rfl, hc, _⟩ := hF k (by omega)
      cases hE : ((N k).toList == name.toList)
      · go_wp2
        go_round
        case rel =>
          refine ⟨k + 1, by omega, by go_num, fun j h1 h2 => ?_⟩
          rcases Nat.lt_or_ge j k with h | h
          · exact hno j h1 h
          · have : j = k := by omega
            subst this
            exact str_ne.1 hE
        case measure => simp [intOf]; omega
      · go_wp2
        go_ret
        exact ⟨true, rfl, ⟨fun _ => ⟨k, hk, hlt, str_eq.1 hE⟩, fun _ => rfl⟩, rfl⟩
    · go_wp2
      go_ret
      exact ⟨false, rfl, ⟨fun h => (by cases h), fun ⟨j, h1, h2, h3⟩ => absurd h3 (hno j h1 (by omega))⟩, rfl⟩

set_option maxHeartbeats 400000 in
theorem get_any (p : Nat) (a : Option Addr) (n cap : Nat) (N V : Nat → ByteArray) (name : ByteArray) (w : World) (hn : n ≤ 40000) (hp : w.cell? ⟨p, 6, .none⟩ = some (.slice a n cap)) (hF : FRow w a n N V) :
    Calls Try.prog 10 #[.pointer (some ⟨p, 0, .none⟩), .string name] w (getPost N V n name w) := by
  go_enter Try.func10, Try.ntmps10
  go_wp2
  go_loop [11] (fun i => ∃ k : Nat, k ≤ n ∧ i = .int .i64 k ∧ ∀ j, j < k → N j ≠ name) (fun i => n - (intOf i).toNat)
  case atStart => exact ⟨0, by omega, rfl, fun j h2 => by omega⟩
  case round =>
    obtain ⟨k, hk, rfl, hno⟩ := hrel
    by_cases hlt : k < n
    · obtain ⟨b, off, rfl, hc, hd⟩ := hF k (by omega)
      cases hE : ((N k).toList == name.toList)
      · go_wp2
        go_round
        case rel =>
          refine ⟨k + 1, by omega, by go_num, fun j h2 => ?_⟩
          rcases Nat.lt_or_ge j k with h | h
          · exact hno j h
          · have : j = k := by omega
            subst this
            exact str_ne.1 hE
        case measure => simp [intOf]; omega
      · go_wp2
        go_ret
        exact ⟨V k, rfl, .inl ⟨k, hlt, str_eq.1 hE, rfl, hno⟩, rfl⟩
    · go_wp2
      go_ret
      exact ⟨ByteArray.empty, rfl, .inr ⟨rfl, fun j hj => hno j (by omega)⟩, rfl⟩

set_option maxHeartbeats 400000 in
theorem make_any (s0 s1 s3 : ByteArray) (z2 z4 z5 z7 : Int) (c8 c9 : Bool) (a : Option Addr) (n cap : Nat) (fa : Option Addr) (fn fc : Nat) (w : World) :
    Calls Try.prog 7 #[.agg #[.string s0, .string s1, .int .i64 z2, .string s3, .int .i64 z4, .int .i64 z5, .slice a n cap, .int .i64 z7, .bool c8, .bool c9], .slice fa fn fc] w (makePost fa fn fc w) := by
  go_enter Try.func7, Try.ntmps7
  go_wp2
  go_ret
  exact ⟨w.heap.size + 1, rfl, by simp, ((Below.refl _ _).alloc (Nat.le_refl _) _).alloc (by simp) _⟩

end Go.Proofs.Qxb6628022a
