/-
  WALKS: isJSONSpace (9), ZZnewDecoder (6), ZZpos (8), zzBytes (5, 10), skipSpace (11), ZZskipSpace (7).
-/
import Derived.Test.Qxb6628516aProg
import Derived.Test.Qxb6628516aParts
import Derived.WalkKit
import Derived.WalkSpells
import Derived.WalkLawsBesides
import Derived.Deep.LoopGhost
import Derived.Deep.RegionHeld3
import Derived.Deep.DrawnRows
namespace Go.Proofs.Qxb6628516a
open Go.RowKit

set_option maxHeartbeats 400000 in
theorem sp_any (c : Int) (w : World) : Calls Try.prog 9 #[.int .u8 c] w (spPost c w) := by
  cases h1 : c == 32 <;> cases h2 : c == 9 <;> cases h3 : c == 10 <;> cases h4 : c == 13
  all_goals
    go_enter Try.func9, Try.ntmps9
    go_wp2
    go_ret
    exact ⟨by simp [sp, h1, h2, h3, h4], rfl⟩

set_option maxHeartbeats 400000 in
theorem new_any (a : Option Addr) (n cap : Nat) (pos : Int) (w : World) :
    Calls Try.prog 6 #[.slice a n cap, .int .i64 pos] w (newPost a n cap pos w) := by
  go_enter Try.func6, Try.ntmps6
  go_wp2
  go_ret
  exact ⟨rfl, heap_alloc_new w _, (Below.refl _ _).alloc (Nat.le_refl _) _⟩

theorem cell_at {w : World} {p : Nat} {cs : Array Value} {t : TypeId} {fr : Nat × Nat} (h : w.heap[p]? = some (.cells cs t fr)) (i : Nat) : w.cell? ⟨p, i, .none⟩ = cs[i]? := by simp [World.cell?, h]

set_option maxHeartbeats 400000 in
theorem pos_any (p : Nat) (r : Int) (w : World) (h : w.cell? ⟨p, 1, .none⟩ = some (.int .i64 r)) :
    Calls Try.prog 8 #[.pointer (some ⟨p, 0, .none⟩)] w fun e w' => e = .returned (.int .i64 r) ∧ w = w' := by
  go_enter Try.func8, Try.ntmps8
  go_wp2
  go_ret
  exact ⟨rfl, rfl⟩

set_option maxHeartbeats 400000 in
theorem bytes5_any (a : Option Addr) (n cap : Nat) (x y : Int) (w : World) (hn : n ≤ maxLen) :
    Calls Try.prog 5 #[.slice a n cap, .int .i64 x, .int .i64 y] w (boolPost w) := by
  unfold maxLen at hn
  go_enter Try.func5, Try.ntmps5
  go_wp2
  all_goals (go_ret; exact ⟨_, rfl, rfl⟩)

set_option maxHeartbeats 400000 in
theorem bytes10_any (a : Option Addr) (n cap : Nat) (x : Int) (a2 : Option Addr) (n2 cap2 : Nat) (y : Int) (w : World) (hn : n ≤ maxLen) (hn2 : n2 ≤ maxLen) :
    Calls Try.prog 10 #[.slice a n cap, .int .i64 x, .slice a2 n2 cap2, .int .u8 y] w (boolPost w) := by
  unfold maxLen at hn hn2
  go_enter Try.func10, Try.ntmps10
  go_wp2
  all_goals (go_ret; exact ⟨_, rfl, rfl⟩)

/-- what the store of pos leaves -/
theorem stored {w wr : World} {p : Nat} {v : Value} {x y : Value} (hb : Below p w wr) (hD : wr.heap[p]? = some (.cells #[v, x] 30 (0, 0))) :
    (wr.setCell ⟨p, 1, .none⟩ y).drew.drew.heap[p]? = some (.cells #[v, y] 30 (0, 0)) ∧ Below p w (wr.setCell ⟨p, 1, .none⟩ y).drew.drew := by
  refine ⟨?_, (hb.setCell (Nat.le_refl _) _).drew.drew⟩
  show (wr.setCell ⟨p, 1, .none⟩ y).heap[p]? = _
  rw [setCell_eq_setRow wr p 1 _ 30 (0, 0) y hD]
  exact setRow_heap wr p _ _ 30 _ hD
theorem all_next {Z : Nat → Int} {pos q : Nat} (h : ∀ i, pos ≤ i → i < q → sp (Z i) = true) (h1 : sp (Z q) = true) : ∀ i, pos ≤ i → i < q + 1 → sp (Z i) = true := by
  intro i a b
  rcases Nat.lt_or_ge i q with c | c
  · exact h i a c
  · have : i = q := by omega
    subst this; exact h1

set_option maxHeartbeats 400000 in
theorem skip_any (a : Option Addr) (n cap pos p : Nat) (Z : Nat → Int) (w : World) (hn : n ≤ 4194304) (hp : pos ≤ n) (hF : BRow w p a n Z) (hD : w.heap[p]? = some (.cells #[.slice a n cap, .int .i64 pos] 30 (0, 0))) :
    Calls Try.prog 11 #[.pointer (some ⟨p, 0, .none⟩)] w (skipPost Z a n cap pos p w) := by
  go_enter Try.func11, Try.ntmps11
  go_wp2_with fail
  go_loopg [2] (n - pos) (fun k v wr => ∃ q : Nat, k = n - q ∧ pos ≤ q ∧ q ≤ n ∧ wr.heap[p]? = some (.cells #[.slice a n cap, .int .i64 q] 30 (0, 0)) ∧ Below p w wr ∧ ∀ i, pos ≤ i → i < q → sp (Z i) = true)
  case atStart => exact ⟨pos, rfl, Nat.le_refl _, hp, hD, Below.refl _ _, fun i h1 h2 => by omega⟩
  case round =>
    obtain ⟨q, rfl, hq1, hq2, hDr, hb, hall⟩ := hrel
    have HA : Hid (∀ i, pos ≤ i → i < q → sp (Z i) = true) := hall
    have HD : Hid (wr.heap[p]? = some (.cells #[.slice a n cap, .int .i64 q] 30 (0, 0))) := hDr
    have c0 : wr.cell? ⟨p, 0, .none⟩ = some (.slice a n cap) := by rw [cell_at hDr]; rfl
    have c1 : wr.cell? ⟨p, 1, .none⟩ = some (.int .i64 q) := by rw [cell_at hDr]; rfl
    have hfz : wr.frozen? ⟨p, 1, .none⟩ = false := by simp [World.frozen?, hDr]
    clear hall hDr hD
    have hq0 : (0 : Int) ≤ (q : Int) := Int.natCast_nonneg _
    by_cases hlt : q < n
    · obtain ⟨b, off, rfl, hlb, hc⟩ := hF.later hb q hlt
      have hq3 : (q : Int) < (n : Int) := by omega
      go_wp2_with fail
      go_region_held3 (fun w' => w'.cell? ⟨p, 0, .none⟩ = some (.slice (some ⟨b, off, .none⟩) n cap) ∧ w'.cell? ⟨p, 1, .none⟩ = some (.int .i64 q)) (go_keep) (fail)
      go_wp2_with fail
      cases hsp : sp (Z q)
      · obtain ⟨k1, k2, k3, k4⟩ := sp_no hsp
        have HS : Hid (sp (Z q) = false) := hsp
        clear hsp
        go_region_held3 (fun w' => w'.cell? ⟨p, 0, .none⟩ = some (.slice (some ⟨b, off, .none⟩) n cap) ∧ w'.cell? ⟨p, 1, .none⟩ = some (.int .i64 q) ∧ w'.cell? ⟨b, off + q, .none⟩ = some (.int .u8 (Z q))) (go_keep) (fail)
        go_wp2
        go_ret
        exact ⟨q, rfl, ⟨hq1, hq2, HA.out, fun _ => HS.out⟩, hb.drew.drew, HD.out⟩
      · have hz := sp_yes hsp
        have HS : Hid (sp (Z q) = true) := hsp
        clear hsp
        rcases hz with hz | hz | hz | hz
        all_goals
          rw [hz] at hc
          clear hz
        · go_region_held3 (fun w' => w'.cell? ⟨p, 0, .none⟩ = some (.slice (some ⟨b, off, .none⟩) n cap) ∧ w'.cell? ⟨p, 1, .none⟩ = some (.int .i64 q) ∧ w'.cell? ⟨b, off + q, .none⟩ = some (.int .u8 32)) (go_keep) (fail)
          go_wp2
          go_roundg (n - (q + 1))
          case measure => omega
          case rel => exact ⟨q + 1, rfl, by omega, by omega, (stored hb HD.out).1, (stored hb HD.out).2, all_next HA.out HS.out⟩
        · go_region_held3 (fun w' => w'.cell? ⟨p, 0, .none⟩ = some (.slice (some ⟨b, off, .none⟩) n cap) ∧ w'.cell? ⟨p, 1, .none⟩ = some (.int .i64 q) ∧ w'.cell? ⟨b, off + q, .none⟩ = some (.int .u8 9)) (go_keep) (fail)
          go_wp2
          go_roundg (n - (q + 1))
          case measure => omega
          case rel => exact ⟨q + 1, rfl, by omega, by omega, (stored hb HD.out).1, (stored hb HD.out).2, all_next HA.out HS.out⟩
        · go_region_held3 (fun w' => w'.cell? ⟨p, 0, .none⟩ = some (.slice (some ⟨b, off, .none⟩) n cap) ∧ w'.cell? ⟨p, 1, .none⟩ = some (.int .i64 q) ∧ w'.cell? ⟨b, off + q, .none⟩ = some (.int .u8 10)) (go_keep) (fail)
          go_wp2
          go_roundg (n - (q + 1))
          case measure => omega
          case rel => exact ⟨q + 1, rfl, by omega, by omega, (stored hb HD.out).1, (stored hb HD.out).2, all_next HA.out HS.out⟩
        · go_region_held3 (fun w' => w'.cell? ⟨p, 0, .none⟩ = some (.slice (some ⟨b, off, .none⟩) n cap) ∧ w'.cell? ⟨p, 1, .none⟩ = some (.int .i64 q) ∧ w'.cell? ⟨b, off + q, .none⟩ = some (.int .u8 13)) (go_keep) (fail)
          go_wp2
          go_roundg (n - (q + 1))
          case measure => omega
          case rel => exact ⟨q + 1, rfl, by omega, by omega, (stored hb HD.out).1, (stored hb HD.out).2, all_next HA.out HS.out⟩
    · obtain rfl : q = n := by omega
      go_wp2_with fail
      go_region_held3 (fun w' => w'.cell? ⟨p, 0, .none⟩ = some (.slice a q cap) ∧ w'.cell? ⟨p, 1, .none⟩ = some (.int .i64 q)) (go_keep) (fail)
      go_wp2
      go_ret
      exact ⟨q, rfl, ⟨hq1, hq2, HA.out, fun h => absurd h (Nat.lt_irrefl _)⟩, hb.drew, HD.out⟩

set_option maxHeartbeats 400000 in
theorem zskip_any (a : Option Addr) (n cap pos p : Nat) (Z : Nat → Int) (w : World) (hn : n ≤ 4194304) (hp : pos ≤ n) (hF : BRow w p a n Z) (hD : w.heap[p]? = some (.cells #[.slice a n cap, .int .i64 pos] 30 (0, 0))) :
    Calls Try.prog 7 #[.pointer (some ⟨p, 0, .none⟩)] w (skipPost Z a n cap pos p w) := by
  have HD : Hid (w.heap[p]? = some (.cells #[.slice a n cap, .int .i64 pos] 30 (0, 0))) := hD
  clear hD
  go_enter Try.func7, Try.ntmps7
  go_wp2_with fail
  refine (skip_any a n cap pos p Z w hn hp hF HD.out).mono ?_
  rintro e w' ⟨r, rfl, h1, h2, h3⟩
  have H3 : Hid (w'.heap[p]? = some (.cells #[.slice a n cap, .int .i64 r] 30 (0, 0))) := h3
  clear h3
  go_wp2_with fail
  go_ret
  exact ⟨r, rfl, h1, h2, H3.out⟩

end Go.Proofs.Qxb6628516a
