/-
  WALKS: uvarLen (7), PutUvarint (10), uintLen (9).
-/
import Derived.Test.Qxb6628553aProg
import Derived.Test.Qxb6628553aParts
import Derived.WalkKit
import Derived.WalkSpells
import Derived.WalkLawsBesides
import Derived.Deep.LoopGhost
namespace Go.Proofs.Qxb6628553a
open Go.RowKit

theorem ret_int {k : IntKind} {a b : Int} (h : a = b) : Ending.returned (.int k a) = .returned (.int k b) := by rw [h]

set_option maxHeartbeats 400000 in
set_option maxRecDepth 100000 in
theorem uvar_any (x : Int) (w : World) (h0 : 0 ≤ x) (h1 : x < 18446744073709551616) : Calls Try.prog 7 #[.int .u64 x] w (lenPost0 x w) := by
  obtain ⟨y, rfl⟩ := Int.eq_ofNat_of_zero_le h0
  have HT := UInv.start y 1 h1
  clear h0 h1
  go_enter Try.func7, Try.ntmps7
  go_wp2_with fail
  go_loopg [0, 3] 10 (fun f v nn wr => ∃ z k : Nat, v = .int .u64 z ∧ nn = .int .i64 k ∧ UInv (y : Int) 1 z k f ∧ w = wr)
  case atStart => exact ⟨y, 1, rfl, rfl, HT, rfl⟩
  case round =>
    obtain ⟨z, k, rfl, rfl, hu, rfl⟩ := hrel
    clear HT
    have hk := hu.bd
    by_cases hlt : z < 128
    · go_wp2_with fail
      go_ret
      exact ⟨ret_int (by have := hu.ended hlt; omega), rfl⟩
    · obtain ⟨f', rfl, hu'⟩ := hu.goOn (by omega)
      clear hu
      go_wp2_with fail
      go_roundg f'
      case measure => omega
      case rel => exact ⟨z / 128, k + 1, by go_num, by go_num, hu', rfl⟩

theorem info5 : (Try.prog.info? 5).map (fun i => (i.zero, i.size, i.bytes)) = some (some (.int .u8 0), 1, 1) := by kernel_rfl

/-- a store into the buffer leaves a buffer -/
theorem buf_stored {w wr : World} {g i : Nat} {cur : Array Value} {T : TypeId} (v : Value) (hb : Below g w wr) (hg : wr.heap[g]? = some (.cells cur T (0, 0))) (hs : cur.size = 10) :
    (∃ cur', cur'.size = 10 ∧ (wr.setCell ⟨g, i, .none⟩ v).heap[g]? = some (.cells cur' T (0, 0))) ∧ Below g w (wr.setCell ⟨g, i, .none⟩ v) := by
  refine ⟨⟨cur.setIfInBounds i v, by simpa using hs, ?_⟩, hb.setCell (Nat.le_refl _) _⟩
  rw [setCell_eq_setRow wr g i _ T (0, 0) v hg]
  exact setRow_heap wr g _ _ T _ hg

set_option maxHeartbeats 400000 in
set_option maxRecDepth 100000 in
theorem put_any (x : Int) (g : Nat) (cur : Array Value) (T : TypeId) (w : World) (h0 : 0 ≤ x) (h1 : x < 18446744073709551616) (hg : w.heap[g]? = some (.cells cur T (0, 0))) (hs : cur.size = 10) :
    Calls Try.prog 10 #[.slice (some ⟨g, 0, .none⟩) 10 10, .int .u64 x] w (putPost x g w) := by
  obtain ⟨y, rfl⟩ := Int.eq_ofNat_of_zero_le h0
  have HT := UInv.start y 0 h1
  have HG : Hid (∃ cur : Array Value, cur.size = 10 ∧ w.heap[g]? = some (.cells cur T (0, 0))) := ⟨cur, hs, hg⟩
  clear h0 h1 hg hs cur
  go_enter Try.func10, Try.ntmps10
  go_wp2_with fail
  go_loopg [1, 5] 10 (fun f v nn wr => ∃ z k : Nat, v = .int .u64 z ∧ nn = .int .i64 k ∧ UInv (y : Int) 0 z k f ∧ (∃ cur : Array Value, cur.size = 10 ∧ wr.heap[g]? = some (.cells cur T (0, 0))) ∧ Below g w wr)
  case atStart => exact ⟨y, 0, rfl, rfl, HT, HG.out, Below.refl _ _⟩
  case round =>
    obtain ⟨z, k, rfl, rfl, hu, ⟨cur, hs, hg⟩, hb⟩ := hrel
    clear HT HG
    have hk := hu.bd
    have hk0 : (0 : Int) ≤ (k : Int) := Int.natCast_nonneg _
    have hk1 : (k : Int) < 10 := by omega
    obtain ⟨old, hold⟩ : ∃ old, wr.cell? ⟨g, k, .none⟩ = some old := by
      refine ⟨cur[k]'(by omega), ?_⟩
      simp [World.cell?, hg]
    have hfz : wr.frozen? ⟨g, k, .none⟩ = false := by simp [World.frozen?, hg]
    have HG : Hid (wr.heap[g]? = some (.cells cur T (0, 0)) ∧ cur.size = 10) := ⟨hg, hs⟩
    clear hg hs
    by_cases hlt : z < 128
    · go_wp2_with fail
      go_ret
      exact ⟨ret_int (by have := hu.ended hlt; omega), (buf_stored _ hb HG.out.1 HG.out.2).2⟩
    · obtain ⟨f', rfl, hu'⟩ := hu.goOn (by omega)
      clear hu
      go_wp2_with fail
      go_roundg f'
      case measure => omega
      case rel => exact ⟨z / 128, k + 1, by go_num, by go_num, hu', (buf_stored _ hb HG.out.1 HG.out.2).1, (buf_stored _ hb HG.out.1 HG.out.2).2⟩

set_option maxHeartbeats 400000 in
set_option maxRecDepth 100000 in
theorem uint_any (x : Int) (w : World) (h0 : 0 ≤ x) (h1 : x < 18446744073709551616) : Calls Try.prog 9 #[.int .u64 x] w (lenPost x w) := by
  go_enter Try.func9, Try.ntmps9
  go_wp2_with fail
  refine (put_any x w.heap.size _ 37 _ h0 h1 (heap_alloc_new w _) rfl).mono ?_
  rintro e w' ⟨rfl, hb⟩
  go_wp2_with fail
  go_ret
  exact ⟨rfl, ((Below.refl _ _).alloc (Nat.le_refl _) _).trans hb⟩

theorem bytes_end {n : Nat} {L : Nat → Nat} {w : World} (b : Bool) (h : b = true → n + sumL L n ≤ 1048576) : bytesPost n L w (.returned (.bool b)) w := ⟨b, rfl, h, rfl⟩

set_option maxHeartbeats 400000 in
theorem bytes5_any (x y z : Int) (a : Option Addr) (n cap B : Nat) (L : Nat → Nat) (w : World) (hn : n ≤ maxLen) (hF : LRow w B a n L) :
    Calls Try.prog 5 #[.int .i64 x, .int .u64 y, .slice a n cap, .int .i64 z] w (bytesPost n L w) := by
  unfold maxLen at hn
  go_enter Try.func5, Try.ntmps5
  go_wp2
  all_goals (try (go_ret; exact bytes_end false (fun h => Bool.noConfusion h)))
  go_loopg [9, 10] n (fun f t i wr => ∃ k : Nat, k + f = n ∧ i = .int .i64 k ∧ n + sumL L k ≤ 1048576 ∧ t = .int .i64 ((n + sumL L k : Nat) : Int) ∧ w = wr)
  case atStart => exact ⟨0, by omega, rfl, by simp only [sumL]; omega, by simp [sumL], rfl⟩
  case round =>
    obtain ⟨k, hkf, rfl, hs, rfl, rfl⟩ := hrel
    have HK : Hid (k + gk = n) := hkf
    have hk : k ≤ n := by omega
    have HS : Hid (sumL L (k + 1) = sumL L k + L k) := rfl
    clear hkf
    by_cases hlt : k < n
    · obtain ⟨b, off, rfl, _, x, c, hc⟩ := hF k (by omega)
      go_wp2_with fail
      all_goals (try (go_ret; exact bytes_end false (fun h => Bool.noConfusion h)))
      go_roundg (gk - 1)
      case measure => have := HK.out; omega
      case rel => exact ⟨k + 1, by have := HK.out; omega, by go_num, by have := HS.out; omega, by have := HS.out; go_num, rfl⟩
    · have hkn : k = n := by omega
      go_wp2_with fail
      go_ret
      exact bytes_end _ (fun _ => by rw [← hkn]; omega)

theorem bytes_end8 {n m : Nat} {L : Nat → Nat} {w : World} (b : Bool) (h : b = true → n + sumL L n + m ≤ 1048576) : bytesPost8 n m L w (.returned (.bool b)) w := ⟨b, rfl, h, rfl⟩

set_option maxHeartbeats 400000 in
theorem bytes8_any (x y z : Int) (a : Option Addr) (n cap B : Nat) (L : Nat → Nat) (a2 : Option Addr) (m cap2 : Nat) (w : World) (hn : n ≤ maxLen) (hm : m ≤ maxLen) (hF : LRow w B a n L) :
    Calls Try.prog 8 #[.int .i64 x, .int .u64 y, .slice a n cap, .slice a2 m cap2, .int .i64 z] w (bytesPost8 n m L w) := by
  unfold maxLen at hn hm
  go_enter Try.func8, Try.ntmps8
  go_wp2
  all_goals (try (go_ret; exact bytes_end8 false (fun h => Bool.noConfusion h)))
  go_loopg [11, 12] n (fun f t i wr => ∃ k : Nat, k + f = n ∧ i = .int .i64 k ∧ n + sumL L k ≤ 1048576 ∧ t = .int .i64 ((n + sumL L k : Nat) : Int) ∧ w = wr)
  case atStart => exact ⟨0, by omega, rfl, by simp only [sumL]; omega, by simp [sumL], rfl⟩
  case round =>
    obtain ⟨k, hkf, rfl, hs, rfl, rfl⟩ := hrel
    have HK : Hid (k + gk = n) := hkf
    have hk : k ≤ n := by omega
    have HS : Hid (sumL L (k + 1) = sumL L k + L k) := rfl
    clear hkf
    by_cases hlt : k < n
    · obtain ⟨b, off, rfl, _, x, c, hc⟩ := hF k (by omega)
      go_wp2_with fail
      all_goals (try (go_ret; exact bytes_end8 false (fun h => Bool.noConfusion h)))
      go_roundg (gk - 1)
      case measure => have := HK.out; omega
      case rel => exact ⟨k + 1, by have := HK.out; omega, by go_num, by have := HS.out; omega, by have := HS.out; go_num, rfl⟩
    · have hkn : k = n := by omega
      have HN : Hid (k = n) := hkn
      clear hkn
      go_wp2_with fail
      all_goals (try (go_ret; exact bytes_end8 false (fun h => Bool.noConfusion h)))
      go_ret
      exact bytes_end8 _ (fun _ => by have e := HN.out; subst e; omega)

end Go.Proofs.Qxb6628553a
