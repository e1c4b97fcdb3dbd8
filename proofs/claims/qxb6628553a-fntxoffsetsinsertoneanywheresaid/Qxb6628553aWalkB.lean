/-
  WALK: TxOffsets (6).
-/
import Derived.Test.Qxb6628553aWalkA
import Derived.Deep.RegionHeld3
import Derived.Deep.DrawnRows
namespace Go.Proofs.Qxb6628553a
open Go.RowKit

theorem info3 : (Try.prog.info? 3).map (fun i => (i.zero, i.size, i.bytes)) = some (some (.int .i64 0), 1, 8) := by kernel_rfl

theorem wrapU_bd (x : Int) : 0 ≤ IntKind.u64.wrap x ∧ IntKind.u64.wrap x < 18446744073709551616 := by rw [IntKind.wrap_u64]; omega

/-- offsets so far: k of n cells are laid -/
def Part (w : World) (g n k : Nat) (h : Int) (L : Nat → Nat) : Prop :=
  ∃ cur : Array Value, w.heap[g]? = some (.cells cur 3 (0, 0)) ∧ cur.size = n ∧ ∀ i, i < k → cur[i]? = some (.int .i64 (offI h L i))
theorem Part.store {w : World} {g n k : Nat} {h : Int} {L : Nat → Nat} {z : Int} (p : Part w g n k h L) (hk : k < n) (hz : z = offI h L k) : Part (w.setCell ⟨g, k, .none⟩ (.int .i64 z)) g n (k + 1) h L := by
  obtain ⟨cur, h1, h2, h3⟩ := p
  refine ⟨cur.setIfInBounds k (.int .i64 z), ?_, by simpa using h2, fun i hi => ?_⟩
  · rw [setCell_eq_setRow w g k _ 3 (0, 0) _ h1]
    exact setRow_heap w g _ _ 3 _ h1
  · rw [Array.getElem?_setIfInBounds]
    by_cases e : k = i
    · subst e; rw [if_pos rfl, if_pos (by omega), hz]
    · rw [if_neg e]; exact h3 i (by omega)
theorem Part.facts {w : World} {g n k : Nat} {h : Int} {L : Nat → Nat} (p : Part w g n k h L) (hk : k < n) : (∃ old, w.cell? ⟨g, k, .none⟩ = some old) ∧ w.frozen? ⟨g, k, .none⟩ = false := by
  obtain ⟨cur, h1, h2, _⟩ := p
  refine ⟨⟨cur[k]'(by omega), by simp [World.cell?, h1]⟩, by simp [World.frozen?, h1]⟩
theorem Part.orow {w : World} {g n : Nat} {h : Int} {L : Nat → Nat} (p : Part w g n n h L) : ORow w g n h L := by
  obtain ⟨cur, h1, _, h3⟩ := p
  intro i hi
  rw [← h3 i hi]
  simp [World.cell?, h1]
theorem Part.made {w : World} {base g n : Nat} {h : Int} {L : Nat → Nat} {xs : List Value} (hw : w.ownsRow base 3 1 (.slice (some ⟨g, 0, .none⟩) n n) n xs) : Part w g n 0 h L := by
  rcases hw.2 with ⟨h0, _⟩ | ⟨g', cap', cur, hv, _, hg, _, _, hs, _⟩
  · cases h0
  · simp at hv
    obtain ⟨rfl, rfl⟩ := hv
    exact ⟨cur, hg, by simpa using hs, fun i hi => by omega⟩

theorem i64w (x : Int) (h0 : -9223372036854775808 ≤ x) (h1 : x ≤ 9223372036854775807) : IntKind.i64.wrap x = x := by rw [IntKind.wrap_i64]; omega

set_option maxHeartbeats 800000 in
set_option maxRecDepth 100000 in
theorem off_any (p : Nat) (lane pos : Int) (a : Option Addr) (n cap : Nat) (L : Nat → Nat) (w : World) (hn : n ≤ 140000) (hs : sumL L n ≤ 2097152) (hp0 : 0 ≤ pos) (hp1 : pos < 18446744073709551616)
    (c0 : w.cell? ⟨p, 0, .none⟩ = some (.int .i64 lane)) (c1 : w.cell? ⟨p, 1, .none⟩ = some (.int .u64 pos)) (c2 : w.cell? ⟨p, 2, .none⟩ = some (.slice a n cap)) (hF : LRow w w.heap.size a n L) :
    Calls Try.prog 6 #[.pointer (some ⟨p, 0, .none⟩)] w (offPost (1 + ulen (IntKind.u64.wrap lane) + ulen pos + ulen n) n L w) := by
  obtain ⟨it, hi, hz0, hz1, hz2⟩ := info_parts info3
  obtain ⟨hU0, hU1⟩ := wrapU_bd lane
  generalize hU : IntKind.u64.wrap lane = U at *
  have hUn : IntKind.u64.wrap (n : Int) = (n : Int) := IntWalk.u64_in _ ⟨by omega, by omega⟩
  have b1 := ulen_bd U
  have b2 := ulen_bd pos
  have b3 := ulen_bd n
  have hw1 : IntKind.i64.wrap (1 + ulen U) = 1 + ulen U := i64w _ (by omega) (by omega)
  have hw2 : IntKind.i64.wrap (1 + ulen U + ulen pos) = 1 + ulen U + ulen pos := i64w _ (by omega) (by omega)
  obtain ⟨h0, hH⟩ : ∃ h0, 1 + ulen U + ulen pos + ulen n = h0 := ⟨_, rfl⟩
  have bh : 4 ≤ h0 ∧ h0 ≤ 34 := by omega
  have hw3 : IntKind.i64.wrap h0 = h0 := i64w _ (by omega) (by omega)
  rw [hH]
  clear b1 b2 b3
  go_enter Try.func6, Try.ntmps6
  go_wp2_with fail
  go_region_held3 (fun w' => w'.cell? ⟨p, 0, .none⟩ = some (.int .i64 lane) ∧ w'.cell? ⟨p, 1, .none⟩ = some (.int .u64 pos) ∧ w'.cell? ⟨p, 2, .none⟩ = some (.slice a n cap))
    (first
      | go_keep
      | (exact ⟨cell_later hb3 (cell_later hb2 (cell_later hb1 c0)), cell_later hb3 (cell_later hb2 (cell_later hb1 c1)), cell_later hb3 (cell_later hb2 (cell_later hb1 c2))⟩)
      | (exact ⟨cell_later hb2 (cell_later hb1 c0), cell_later hb2 (cell_later hb1 c1), cell_later hb2 (cell_later hb1 c2)⟩)
      | (exact ⟨cell_later hb1 c0, cell_later hb1 c1, cell_later hb1 c2⟩))
    (first
      | (go_at_call_of 9 (Value.int .u64 U); refine (uint_any U _ hU0 hU1).mono ?_; rintro e w1 ⟨rfl, hb1⟩)
      | (go_at_call_of 9 (Value.int .u64 pos); refine (uint_any pos _ hp0 hp1).mono ?_; rintro e w2 ⟨rfl, hb2⟩)
      | (go_at_call_of 9 (Value.int .u64 (n : Int)); refine (uint_any (n : Int) _ (by omega) (by omega)).mono ?_; rintro e w3 ⟨rfl, hb3⟩))
  have hbA : Below w.heap.size w w3 := ((Below.refl _ _).drew.trans hb1).trans ((hb2.mono hb1.size).trans (hb3.mono (Nat.le_trans hb1.size hb2.size)))
  have q2 := cell_later hbA c2
  clear hb1 hb2 hb3 c0 c1 c2 hU hUn hw1 hw2 hw3 hH
  go_wp2_with (at_make; refine wpList_make_full _ rfl (.tmp 32) (.tmp 32) 26 rfl w3.heap.size 3 it _ 1 Try.underlying26 hi hz0 hz1 .i64 .i64 _ _ n rfl rfl rfl rfl (by rw [hz2]; omega) (by unfold maxLen; omega) (Nat.le_refl _) ?_; intro w4 hown hgrow; have hb4 : Below w3.heap.size w3 w4 := (Below.refl _ _).grown hgrow (Nat.le_refl _) (fun k h => by cases h); have q2 := cell_later hb4 q2; clear hgrow)
  have hP0 : Part w4 w3.heap.size n 0 h0 L := Part.made hown
  have hF3 := (hF.later hbA).mono hbA.size
  clear hown q2 hF
  go_loopg [3, 39] n (fun f v i wr => ∃ k : Nat, k + f = n ∧ i = .int .i64 k ∧ v = .int .i64 (h0 + 4 * (k : Int) + (sumL L k : Int)) ∧ Part wr w3.heap.size n k h0 L ∧ Below w3.heap.size w3 wr)
  case atStart => exact ⟨0, by omega, rfl, by simp [sumL], hP0, hb4⟩
  case round =>
    obtain ⟨k, hkf, rfl, rfl, hP, hb⟩ := hrel
    have HK : Hid (k + gk = n) := hkf
    have hk : k ≤ n := by omega
    have hsk := sumL_mono L hk
    clear hkf hP0 hb4
    by_cases hlt : k < n
    · obtain ⟨b, off, rfl, hbl, x, c, hc⟩ := hF3.later hb k hlt
      have hsk1 := sumL_mono L (show k + 1 ≤ n from hlt)
      have HS : Hid (sumL L (k + 1) = sumL L k + L k) := rfl
      have hlk : L k ≤ 2097152 := by have := HS.out; omega
      obtain ⟨⟨old, hold⟩, hfz⟩ := hP.facts hlt
      have hk0 : (0 : Int) ≤ (k : Int) := Int.natCast_nonneg _
      have hk1 : (k : Int) < (n : Int) := by omega
      clear hsk1
      go_wp2_with fail
      go_roundg (gk - 1)
      case measure => have := HK.out; omega
      case rel => exact ⟨k + 1, by have := HK.out; omega, by go_num, by have := HS.out; go_num, hP.store hlt (by unfold offI; omega), hb.setCell (Nat.le_refl _) _⟩
    · have HN : Hid (k = n) := show k = n by omega
      go_wp2_with fail
      go_ret
      exact ⟨w3.heap.size, rfl, by have e := HN.out; subst e; exact hP.orow, hbA.trans (hb.mono hbA.size)⟩

end Go.Proofs.Qxb6628553a
