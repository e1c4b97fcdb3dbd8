/-
  WALKS: zzOverBytes (6), zzBytes (5, 11).
-/
import Derived.Test.Qxb6628022aProg
import Derived.Test.Qxb6628022aParts
import Derived.WalkKit
import Derived.WalkSpells
import Derived.WalkLawsBesides
namespace Go.Proofs.Qxb6628022a
open Go.RowKit

theorem bel1 (w : World) (o : Obj) : Below w.heap.size w (w.alloc o) := (Below.refl _ _).alloc (Nat.le_refl _) _
theorem ret_bool {w w' : World} (b : Bool) (h : Below w.heap.size w w') : boolPost w (.returned (.bool b)) w' := ⟨b, rfl, h⟩

set_option maxHeartbeats 400000 in
theorem bytes11_any (s0 s1 s3 : ByteArray) (z2 z4 z5 z7 : Int) (c8 c9 : Bool) (a : Option Addr) (n cap : Nat) (N V : Nat → ByteArray) (k : Int) (name : ByteArray) (w : World) (hn : n ≤ maxLen) (hF : FRow w a n N V) :
    Calls Try.prog 11 #[.agg #[.string s0, .string s1, .int .i64 z2, .string s3, .int .i64 z4, .int .i64 z5, .slice a n cap, .int .i64 z7, .bool c8, .bool c9], .int .i64 k, .string name] w (boolPost w) := by
  unfold maxLen at hn
  go_enter Try.func11, Try.ntmps11
  go_wp2
  all_goals (try (go_ret; exact ret_bool _ (bel1 _ _)))
  go_loop [7, 8] (fun zn i => ∃ k : Nat, k ≤ n ∧ i = .int .i64 k ∧ ∃ z : Int, 0 ≤ z ∧ z ≤ 1048576 ∧ zn = .int .i64 z) (fun _ i => n - (intOf i).toNat)
  case atStart => exact ⟨0, by omega, rfl, _, by omega, by omega, rfl⟩
  case round =>
    obtain ⟨k, hk, rfl, z, hz0, hz1, rfl⟩ := hrel
    by_cases hlt : k < n
    · obtain ⟨b, off, rfl, hc, hd⟩ := hF k (by omega)
      have hc' : ∀ o, (w.alloc o).cell? ⟨b, off + k * 2, .none⟩ = some (.string (N k)) := fun o => cell_later (bel1 _ _) hc
      have hd' : ∀ o, (w.alloc o).cell? ⟨b, off + k * 2 + 1, .none⟩ = some (.string (V k)) := fun o => cell_later (bel1 _ _) hd
      clear hc hd
      go_wp2
      all_goals (try (go_ret; exact ret_bool _ (bel1 _ _)))
      go_round
      case rel => exact ⟨k + 1, by omega, by go_num, _, by omega, by omega, rfl⟩
      case measure => simp [intOf]; omega
    · go_wp2
      all_goals (go_ret; exact ret_bool _ (bel1 _ _))

set_option maxHeartbeats 400000 in
theorem bytes5_any (s0 s1 s3 : ByteArray) (z2 z4 z5 z7 : Int) (c8 c9 : Bool) (a : Option Addr) (n cap : Nat) (N V : Nat → ByteArray) (k : Int) (name value other : ByteArray) (w : World) (hn : n ≤ maxLen) (hF : FRow w a n N V) :
    Calls Try.prog 5 #[.agg #[.string s0, .string s1, .int .i64 z2, .string s3, .int .i64 z4, .int .i64 z5, .slice a n cap, .int .i64 z7, .bool c8, .bool c9], .int .i64 k, .string name, .string value, .string other] w (boolPost w) := by
  unfold maxLen at hn
  go_enter Try.func5, Try.ntmps5
  go_wp2
  all_goals (try (go_ret; exact ret_bool _ (bel1 _ _)))
  go_loop [11, 12] (fun zn i => ∃ k : Nat, k ≤ n ∧ i = .int .i64 k ∧ ∃ z : Int, 0 ≤ z ∧ z ≤ 1048576 ∧ zn = .int .i64 z) (fun _ i => n - (intOf i).toNat)
  case atStart => exact ⟨0, by omega, rfl, _, by omega, by omega, rfl⟩
  case round =>
    obtain ⟨k, hk, rfl, z, hz0, hz1, rfl⟩ := hrel
    by_cases hlt : k < n
    · obtain ⟨b, off, rfl, hc, hd⟩ := hF k (by omega)
      have hc' : ∀ o, (w.alloc o).cell? ⟨b, off + k * 2, .none⟩ = some (.string (N k)) := fun o => cell_later (bel1 _ _) hc
      have hd' : ∀ o, (w.alloc o).cell? ⟨b, off + k * 2 + 1, .none⟩ = some (.string (V k)) := fun o => cell_later (bel1 _ _) hd
      clear hc hd
      go_wp2
      all_goals (try (go_ret; exact ret_bool _ (bel1 _ _)))
      go_round
      case rel => exact ⟨k + 1, by omega, by go_num, _, by omega, by omega, rfl⟩
      case measure => simp [intOf]; omega
    · go_wp2
      all_goals (go_ret; exact ret_bool _ (bel1 _ _))

theorem ret_over {w w' : World} {n : Nat} (b : Bool) (hb : b = false → n ≤ 32768) (h : Below w.heap.size w w') : overPost n w (.returned (.bool b)) w' := ⟨b, rfl, hb, h⟩

set_option maxHeartbeats 400000 in
theorem over_any (s0 s1 s3 : ByteArray) (z2 z4 z5 z7 : Int) (c8 c9 : Bool) (a : Option Addr) (n cap : Nat) (N V : Nat → ByteArray) (x y t : ByteArray) (w : World) (hn : n ≤ maxLen) (hF : FRow w a n N V) :
    Calls Try.prog 6 #[.agg #[.string s0, .string s1, .int .i64 z2, .string s3, .int .i64 z4, .int .i64 z5, .slice a n cap, .int .i64 z7, .bool c8, .bool c9], .string x, .string y, .string t] w (overPost n w) := by
  unfold maxLen at hn
  go_enter Try.func6, Try.ntmps6
  go_wp2
  all_goals (try (go_ret; exact ret_over true (fun h => by cases h) (bel1 _ _)))
  have hn1 : n ≤ 32768 := by omega
  go_loop [9, 10] (fun zn i => ∃ k : Nat, k ≤ n ∧ i = .int .i64 k ∧ ∃ z : Int, zn = .int .i64 z) (fun _ i => n - (intOf i).toNat)
  case atStart => exact ⟨0, by omega, rfl, _, rfl⟩
  case round =>
    obtain ⟨k, hk, rfl, z, rfl⟩ := hrel
    by_cases hlt : k < n
    · obtain ⟨b, off, rfl, hc, hd⟩ := hF k (by omega)
      have hc' : ∀ o, (w.alloc o).cell? ⟨b, off + k * 2, .none⟩ = some (.string (N k)) := fun o => cell_later (bel1 _ _) hc
      have hd' : ∀ o, (w.alloc o).cell? ⟨b, off + k * 2 + 1, .none⟩ = some (.string (V k)) := fun o => cell_later (bel1 _ _) hd
      clear hc hd
      go_wp2
      all_goals (try (go_ret; exact ret_over true (fun h => by cases h) (bel1 _ _)))
      go_round
      case rel => exact ⟨k + 1, by omega, by go_num, _, rfl⟩
      case measure => simp [intOf]; omega
    · go_wp2
      all_goals (go_ret; exact ret_over _ (fun _ => hn1) (bel1 _ _))

end Go.Proofs.Qxb6628022a
