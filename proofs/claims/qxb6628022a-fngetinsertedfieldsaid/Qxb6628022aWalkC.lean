/-
  WALK: zzFieldsOf (8): the fields from .. to, one by one, in a fresh slice.
-/
import Derived.Test.Qxb6628022aProg
import Derived.Test.Qxb6628022aParts
import Derived.WalkKit
import Derived.WalkSpells
import Derived.WalkLawsBesides
import Derived.Deep.RegionHeld3
import Derived.Deep.AppendLies
import Derived.Deep.DrawnRows
namespace Go.Proofs.Qxb6628022a
open Go.RowKit

theorem info33 : (Try.prog.info? 33).map (fun i => (i.zero, i.size, i.bytes)) = some (some (.agg #[.string ⟨#[]⟩, .string ⟨#[]⟩]), 2, 32) := by kernel_rfl

/-- one round of a loop that appends the pair k: what it leaves -/
theorem step_rel {w wr wx w1 : World} {g c g1 c1 m : Nat} {N V : Nat → ByteArray} {x y : ByteArray} (hb : Below w.heap.size w wx) (hx : N m = x) (hy : V m = y)
    (hown : wr.ownsRow w.heap.size 33 2 (.slice (some ⟨g, 0, .none⟩) m c) m (pairs N V m))
    (hown1 : w1.ownsRow w.heap.size 33 2 (.slice (some ⟨g1, 0, .none⟩) (m + 1) c1) (m + 1) (pairs N V m ++ [.string x, .string y]))
    (hg : wx.grownBy w1 (Value.ownBlock (.slice (some ⟨g, 0, .none⟩) m c))) :
    w1.ownsRow w.heap.size 33 2 (.slice (some ⟨g1, 0, .none⟩) (m + 1) c1) (m + 1) (pairs N V (m + 1)) ∧ Below w.heap.size w w1 := by
  subst hx; subst hy
  exact ⟨hown1, hb.grown hg hb.size (fun k hk => (hown.lt k hk).1)⟩

set_option maxHeartbeats 800000 in
theorem fields_any (a : Option Addr) (n cap i0 i1 : Nat) (N V : Nat → ByteArray) (w : World) (hn : n ≤ 32768) (h01 : i0 ≤ i1) (h1 : i1 ≤ n) (hF : FRow w a n N V) :
    Calls Try.prog 8 #[.slice a n cap, .int .i64 i0, .int .i64 i1] w (fieldsPost N V i0 i1 w) := by
  obtain ⟨it, hi, hz0, hz1, hz2⟩ := info_parts info33
  go_enter Try.func8, Try.ntmps8
  go_wp2_with (at_make; refine wpList_make_own _ rfl (.const (.int .i64 0)) (.tmp 11) 29 rfl w.heap.size 33 it _ 2 Try.underlying29 hi hz0 hz1 .i64 .i64 _ (i1 - i0) rfl rfl (by omega) (by rw [hz2]; omega) (by unfold maxLen; omega) (Nat.le_refl _) ?_; intro w1 hown hgrow)
  have hb1 : Below w.heap.size w w1 := (Below.refl _ _).grown hgrow (Nat.le_refl _) (fun k h => by cases h)
  clear hgrow
  go_loopw [7, 8] (fun v i wr => ∃ k m : Nat, i0 + m = k ∧ k ≤ i1 ∧ i = .int .i64 k ∧ ∃ g c, v = .slice (some ⟨g, 0, .none⟩) m c ∧
      wr.ownsRow w.heap.size 33 2 (.slice (some ⟨g, 0, .none⟩) m c) m (pairs (fun i => N (i0 + i)) (fun i => V (i0 + i)) m) ∧ Below w.heap.size w wr) (fun _ i _ => i1 - (intOf i).toNat)
  case atStart => exact ⟨i0, 0, rfl, h01, rfl, _, _, rfl, hown, hb1⟩
  case round =>
    obtain ⟨k, m, hkm, hk, rfl, g, c, rfl, hown1, hb⟩ := hrel
    have HK : Hid (i0 + m = k) := hkm
    have hmk : m ≤ k := by omega
    clear hkm
    by_cases hlt : k < i1
    · obtain ⟨b, off, rfl, hc, hd⟩ := hF k (by omega)
      have lb := World.block_lt_of_cell? w _ hc
      have hcr := cell_later hb hc
      have hdr := cell_later hb hd
      have hg := (hown1.lt g rfl).1
      have ag : Value.ownBlock (.slice (some ⟨g, 0, .none⟩) m c) ≠ some b := by simp [Value.ownBlock]; simp at lb; omega
      have lbr := World.block_lt_of_cell? wr _ hcr
      have hb0 : (0 : Int) ≤ (k : Int) := Int.natCast_nonneg _
      have hb2 : (k : Int) < (n : Int) := by omega
      have hbs := hb.size
      clear hc hd hown hb1
      go_wp2_with fail
      go_region_held3 (fun w' => w'.cell? ⟨b, off + k * 2, .none⟩ = some (.string (N k)) ∧ w'.cell? ⟨b, off + k * 2 + 1, .none⟩ = some (.string (V k)))
        (first
          | go_keep
          | (go_split_ands
             refine ⟨?_, ?_⟩
             · (rw [hgrow.cell_far _ (by simp; omega) (Ne.symm ag)]; assumption)
             · (rw [hgrow.cell_far _ (by simp; omega) (Ne.symm ag)]; assumption)))
        ((refine step_append_lies _ (by rfl) _ _ _ (by rfl) w.heap.size 33 it _ 2 32 Try.underlying29 hi hz0 hz1 hz2 rfl (by omega) (.slice (some ⟨g, 0, .none⟩) m c) m (pairs (fun i => N (i0 + i)) (fun i => V (i0 + i)) m) (by rfl) ((hown1.alloc _).drew)
            ⟨wr.heap.size, 0, .none⟩ 1 1 [.string (N k), .string (V k)] (by rfl) (by rfl) (World.news_of_block (cs := #[.string (N k), .string (V k)]) (t := 33) (fr := (0, 0)) (heap_alloc_new wr _)) (by simp [Value.oneCell'])
            (by omega) (by unfold maxLen; omega) (by omega) (by simp; omega) (wr.heap.size + 1) (by simp) ?_; intro gg cap1 w2 hown2 hgrow hat hlt2))
      have R := step_rel (N := fun i => N (i0 + i)) (V := fun i => V (i0 + i)) ((hb.alloc hbs _).drew) (by show N (i0 + m) = N k; rw [HK.out]) (by show V (i0 + m) = V k; rw [HK.out]) hown1 hown2 hgrow
      clear hown2 hgrow hown1 hcr hdr
      go_wp2
      go_roundw
      case rel => exact ⟨k + 1, m + 1, by have := HK.out; omega, by omega, by go_num, _, _, rfl, R.1, R.2⟩
      case measure => simp [intOf]; omega
    · go_wp2
      go_ret
      have e : m = i1 - i0 := by have := HK.out; omega
      subst e
      exact ⟨_, _, rfl, frow_of_owns hown1, hb⟩

end Go.Proofs.Qxb6628022a
