/-
  WALKS: zzToParams (7), zzOne (9).
-/
import Derived.Test.Qxb6628603aWalkA
namespace Go.Proofs.Qxb6628603a
open Go.RowKit

theorem info35 : (Try.prog.info? 35).map (fun i => (i.zero, i.size, i.bytes)) = some (some (.agg #[.string ⟨#[]⟩, .string ⟨#[]⟩]), 2, 32) := by kernel_rfl

/-- k of n pairs are laid in block g -/
def PPart (w : World) (g n k : Nat) (N V : Nat → ByteArray) : Prop :=
  ∃ cur : Array Value, w.heap[g]? = some (.cells cur 35 (0, 0)) ∧ cur.size = n * 2 ∧ ∀ i, i < k → cur[i * 2]? = some (.string (N i)) ∧ cur[i * 2 + 1]? = some (.string (V i))
theorem PPart.facts {w : World} {g n k : Nat} {N V : Nat → ByteArray} (p : PPart w g n k N V) (hk : k < n) :
    (∃ x, w.cell? ⟨g, k * 2, .none⟩ = some x) ∧ (∃ y, w.cell? ⟨g, k * 2 + 1, .none⟩ = some y) ∧ w.frozen? ⟨g, k * 2, .none⟩ = false ∧ w.frozen? ⟨g, k * 2 + 1, .none⟩ = false := by
  obtain ⟨cur, h1, h2, _⟩ := p
  exact ⟨⟨cur[k * 2]'(by omega), by simp [World.cell?, h1]⟩, ⟨cur[k * 2 + 1]'(by omega), by simp [World.cell?, h1]⟩, by simp [World.frozen?, h1], by simp [World.frozen?, h1]⟩
theorem PPart.frow {w : World} {g n : Nat} {N V : Nat → ByteArray} (p : PPart w g n n N V) : FRow w (some ⟨g, 0, .none⟩) n N V := by
  obtain ⟨cur, h1, _, h3⟩ := p
  intro i hi
  obtain ⟨e1, e2⟩ := h3 i hi
  refine ⟨g, 0, rfl, ?_, ?_⟩
  · rw [← e1]; simp [World.cell?, h1]
  · rw [← e2]; simp [World.cell?, h1]
theorem PPart.made {w : World} {base g n : Nat} {N V : Nat → ByteArray} {xs : List Value} (hw : w.ownsRow base 35 2 (.slice (some ⟨g, 0, .none⟩) n n) n xs) : PPart w g n 0 N V := by
  rcases hw.2 with ⟨h0, _⟩ | ⟨g', cap', cur, hv, _, hg, _, _, hs, _⟩
  · cases h0
  · simp at hv
    obtain ⟨rfl, rfl⟩ := hv
    exact ⟨cur, hg, hs, fun i hi => by omega⟩

theorem set2_cell {w : World} {g i j b o : Nat} {v1 v2 : Value} (h : b ≠ g) : ((w.setCell ⟨g, i, .none⟩ v1).setCell ⟨g, j, .none⟩ v2).drew.cell? ⟨b, o, .none⟩ = w.cell? ⟨b, o, .none⟩ := by
  refine World.cell?_of_block (w := w) (a := ⟨b, o, .none⟩) ?_
  show ((w.setCell ⟨g, i, .none⟩ v1).setCell ⟨g, j, .none⟩ v2).heap[b]? = w.heap[b]?
  rw [Below.heap_setCell _ _ _ _ h, Below.heap_setCell _ _ _ _ h]
theorem set2_plain {w : World} {g i j b o : Nat} {v1 v2 : Value} (h : b ≠ g) : ((w.setCell ⟨g, i, .none⟩ v1).setCell ⟨g, j, .none⟩ v2).cell? ⟨b, o, .none⟩ = w.cell? ⟨b, o, .none⟩ := set2_cell h
theorem PPart.store {w : World} {g n k : Nat} {N V : Nat → ByteArray} (p : PPart w g n k N V) (hk : k < n) :
    PPart ((w.setCell ⟨g, k * 2, .none⟩ (.string (N k))).setCell ⟨g, k * 2 + 1, .none⟩ (.string (V k))).drew g n (k + 1) N V := by
  obtain ⟨cur, h1, h2, h3⟩ := p
  refine ⟨(cur.setIfInBounds (k * 2) (.string (N k))).setIfInBounds (k * 2 + 1) (.string (V k)), ?_, by simpa using h2, fun i hi => ?_⟩
  · show ((w.setCell ⟨g, k * 2, .none⟩ (.string (N k))).setCell ⟨g, k * 2 + 1, .none⟩ (.string (V k))).heap[g]? = _
    have e1 : (w.setCell ⟨g, k * 2, .none⟩ (.string (N k))).heap[g]? = some (.cells (cur.setIfInBounds (k * 2) (.string (N k))) 35 (0, 0)) := by
      rw [setCell_eq_setRow w g (k * 2) _ 35 (0, 0) _ h1]
      exact setRow_heap w g _ _ 35 _ h1
    rw [setCell_eq_setRow _ g (k * 2 + 1) _ 35 (0, 0) _ e1]
    exact setRow_heap _ g _ _ 35 _ e1
  · rcases Nat.lt_or_ge i k with h | h
    · obtain ⟨c1, c2⟩ := h3 i h
      simp only [Array.getElem?_setIfInBounds]
      rw [if_neg (by omega), if_neg (by omega), if_neg (by omega), if_neg (by omega)]
      exact ⟨c1, c2⟩
    · obtain rfl : i = k := by omega
      simp only [Array.getElem?_setIfInBounds]
      rw [if_neg (by omega), if_pos trivial, if_pos (by omega), if_pos trivial, if_pos (by simp; omega)]
      exact ⟨rfl, rfl⟩

set_option maxHeartbeats 800000 in
theorem to_any (a : Option Addr) (n cap : Nat) (N V : Nat → ByteArray) (w : World) (hn : n ≤ 1048576) (hF : FRow w a n N V) :
    Calls Try.prog 7 #[.slice a n cap] w (toPost n N V w) := by
  obtain ⟨it, hi, hz0, hz1, hz2⟩ := info_parts info35
  go_enter Try.func7, Try.ntmps7
  go_wp2_with (at_make; refine wpList_make_full _ rfl (.tmp 6) (.tmp 6) 26 rfl w.heap.size 35 it _ 2 Try.underlying26 hi hz0 hz1 .i64 .i64 _ _ n rfl rfl rfl rfl (by rw [hz2]; omega) (by unfold maxLen; omega) (Nat.le_refl _) ?_; intro w4 hown hgrow; have hb4 : Below w.heap.size w w4 := (Below.refl _ _).grown hgrow (Nat.le_refl _) (fun k h => by cases h); clear hgrow)
  have hP0 : PPart w4 w.heap.size n 0 N V := PPart.made hown
  clear hown hi hz0 hz1 hz2 it
  go_loopg [4] n (fun f i wr => ∃ k : Nat, k + f = n ∧ i = .int .i64 k ∧ PPart wr w.heap.size n k N V ∧ Below w.heap.size w wr)
  case atStart => exact ⟨0, by omega, rfl, hP0, hb4⟩
  case round =>
    obtain ⟨k, hkf, rfl, hP, hb⟩ := hrel
    have HK : Hid (k + gk = n) := hkf
    have hk : k ≤ n := by omega
    clear hkf hP0 hb4
    by_cases hlt : k < n
    · obtain ⟨b, off, rfl, hc0, hd0⟩ := hF k (by omega)
      have lb := World.block_lt_of_cell? w _ hc0
      have hc := cell_later hb hc0
      have hd := cell_later hb hd0
      have hne : b ≠ w.heap.size := by simp at lb; omega
      clear hc0 hd0
      obtain ⟨⟨x, hx⟩, ⟨y, hy⟩, f0, f1⟩ := hP.facts hlt
      have hk0 : (0 : Int) ≤ (k : Int) := Int.natCast_nonneg _
      have hk1 : (k : Int) < (n : Int) := by omega
      go_wp2_with fail
      go_region_held3 (fun w' => w'.cell? ⟨b, off + k * 2, .none⟩ = some (.string (N k)) ∧ w'.cell? ⟨b, off + k * 2 + 1, .none⟩ = some (.string (V k)))
        (first
          | (exact ⟨(set2_cell hne).trans hc, (set2_cell hne).trans hd⟩)
          | go_keep)
        (fail)
      go_wp2_with fail
      go_roundg (gk - 1)
      case measure => have := HK.out; omega
      case rel => exact ⟨k + 1, by have := HK.out; omega, by go_num, hP.store hlt, ((hb.setCell (p := ⟨w.heap.size, k * 2, .none⟩) (Nat.le_refl _) _).setCell (p := ⟨w.heap.size, k * 2 + 1, .none⟩) (Nat.le_refl _) _).drew⟩
    · go_wp2_with fail
      go_ret
      have e : k = n := by omega
      subst e
      exact ⟨_, rfl, hP.frow, hb⟩

theorem app_data (a b : ByteArray) : (a ++ b).data.toList = a.data.toList ++ b.data.toList := by
  obtain ⟨a⟩ := a
  obtain ⟨b⟩ := b
  rw [ByteArray.mk_append_mk]

set_option maxHeartbeats 800000 in
theorem one_any (n v : ByteArray) (w : World) (hn : n.size ≤ 1048576) (hv : v.size ≤ 1048576) :
    Calls Try.prog 9 #[.agg #[.string n, .string v]] w (strPost (one n v) w) := by
  cases hE : v.toList.isEmpty
  · have HE : Hid (one n v = 59 :: n.data.toList ++ 61 :: v.data.toList) := one_full hE
    go_enter Try.func9, Try.ntmps9
    go_wp2_with fail
    go_ret
    refine ⟨_, rfl, ?_, (Below.refl _ _).alloc (Nat.le_refl _) _⟩
    rw [HE.out]
    simp
  · have HE : Hid (one n v = 59 :: n.data.toList) := one_empty hE
    go_enter Try.func9, Try.ntmps9
    go_wp2_with fail
    go_ret
    refine ⟨_, rfl, ?_, (Below.refl _ _).alloc (Nat.le_refl _) _⟩
    rw [HE.out]
    simp

end Go.Proofs.Qxb6628603a
