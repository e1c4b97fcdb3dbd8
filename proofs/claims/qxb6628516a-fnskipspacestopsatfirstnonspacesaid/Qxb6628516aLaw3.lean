/-
  THE LAW FnSkipSpaceStopsAtFirstNonSpace (3), walked.
-/
import Derived.Test.Qxb6628516aWalkA
import Derived.Laws.CopyOwn
import Derived.Deep.DeepCutAuto
namespace Go.Proofs.Qxb6628516a
open Go.RowKit

def lawPost (w : World) (e : Ending) (w' : World) : Prop := e = .returned (.bool true) ∧ Below w.heap.size w w'
theorem info5 : (Try.prog.info? 5).map (fun i => (i.zero, i.size, i.bytes)) = some (some (.int .u8 0), 1, 1) := by kernel_rfl
theorem size5 : (Try.prog.info? 5).map (·.size) = some 1 := by kernel_rfl

/-- the cells of n bytes -/
def cellsZ (Z : Nat → Int) (n : Nat) : List Value := (List.range n).map fun i => .int .u8 (Z i)
theorem cellsZ_length (Z : Nat → Int) (n : Nat) : (cellsZ Z n).length = n := by simp [cellsZ]
theorem cellsZ_get {Z : Nat → Int} {n j : Nat} {u : Value} (h : (cellsZ Z n)[j]? = some u) : j < n ∧ u = .int .u8 (Z j) := by
  have hlt := (List.getElem?_eq_some_iff.1 h).1
  rw [cellsZ_length] at hlt
  simp [cellsZ, hlt] at h
  exact ⟨hlt, h.symm⟩
theorem cellsZ_at {Z : Nat → Int} {n j : Nat} (h : j < n) : (cellsZ Z n)[j]? = some (.int .u8 (Z j)) := by simp [cellsZ, h]
theorem cellsZ_one (Z : Nat → Int) (n : Nat) : ∀ v ∈ cellsZ Z n, v.oneCell' = true := by
  intro v hv
  obtain ⟨_, _, rfl⟩ := List.mem_map.1 hv
  rfl

/-- the slice data behind the copy (or nil as it came): what the rest of the law is told -/
def Data (w : World) (n : Nat) (Z : Nat → Int) (d : Value) (wc : World) : Prop :=
  ∃ a cap, d = .slice a n cap ∧ n ≤ cap ∧ cap ≤ maxLen ∧ BRow wc wc.heap.size a n Z ∧ (∀ x, a = some x → x.spot = .none) ∧ Below w.heap.size w wc

theorem row_of_copy {w : World} {g n : Nat} {cur : List Value} {Z : Nat → Int} (hl : cur.length = n) (h : w.heap[g]? = some (.cells (splice cur 0 (cellsZ Z n)).toArray 5 (0, 0))) : BRow w w.heap.size (some ⟨g, 0, .none⟩) n Z := by
  intro i hi
  refine ⟨g, 0, rfl, (Array.getElem?_eq_some_iff.1 h).1, ?_⟩
  rw [cell_at h]
  have : splice cur 0 (cellsZ Z n) = cellsZ Z n := by
    unfold splice
    rw [cellsZ_length, List.drop_of_length_le (by omega)]
    simp
  rw [this]
  simpa using cellsZ_at (Z := Z) hi

theorem made_block {w : World} {base g n : Nat} {xs : List Value} (h : w.ownsRow base 5 1 (.slice (some ⟨g, 0, .none⟩) n n) n xs) : ∃ cur : List Value, cur.length = n ∧ w.heap[g]? = some (.cells cur.toArray 5 (0, 0)) := by
  rcases h.2 with ⟨h0, _⟩ | ⟨g', cap', cur, hv, _, hg, _, _, hs, _⟩
  · cases h0
  · simp at hv
    obtain ⟨rfl, rfl⟩ := hv
    exact ⟨cur.toList, by simpa using hs, by simpa using hg⟩
theorem src_cells {w : World} {B n : Nat} {x : Addr} {Z : Nat → Int} (h : BRow w B (some x) n Z) : ∀ j v, (cellsZ Z n)[j]? = some v → w.cell? (x.add j) = some v := by
  intro j v hv
  obtain ⟨hj, rfl⟩ := cellsZ_get hv
  obtain ⟨b, off, hx, _, hc⟩ := h j hj
  obtain rfl := Option.some.inj hx
  rw [Addr.add_lit]; exact hc

set_option maxHeartbeats 800000 in
set_option maxRecDepth 100000 in
theorem law3 (a : Option Addr) (n cap : Nat) (Z : Nat → Int) (x y : Int) (w : World) (hn : n ≤ maxLen) (hcap : n ≤ cap) (hcm : cap ≤ maxLen) (hF : BRow w w.heap.size a n Z) (hno : a = none → n = 0 ∧ cap = 0) :
    Calls Try.prog 3 #[.slice a n cap, .int .i64 x, .int .i64 y] w (lawPost w) := by
  obtain ⟨it, hi, hz0, hz1, hz2⟩ := info_parts info5
  have hneq := fun w => run_neq_slice_nil_any (P := Try.prog) w 22 5 a n cap 0 0 Try.underlying22
  have HC : Hid (n ≤ cap ∧ cap ≤ maxLen ∧ (a = none → n = 0 ∧ cap = 0)) := ⟨hcap, hcm, hno⟩
  have HN : Hid (n ≤ maxLen) := hn
  clear hcap hcm hno hn
  go_enter Try.func3, Try.ntmps3
  go_wp2_with fail
  refine (bytes5_any a n cap x y _ HN.out).mono ?_
  rintro e w1 ⟨b, rfl, rfl⟩
  cases b
  · go_wp2_with fail
    go_ret
    exact ⟨rfl, Below.refl _ _⟩
  by_cases hn1 : 1048576 < n
  · go_wp2_with fail
    go_ret
    exact ⟨rfl, Below.refl _ _⟩
  by_cases hx : x < 0 ∨ (n : Int) < x
  · rcases hx with hx | hx
    all_goals
      go_wp2_with fail
      go_ret
      exact ⟨rfl, Below.refl _ _⟩
  obtain ⟨pos, rfl⟩ := Int.eq_ofNat_of_zero_le (show 0 ≤ x by omega)
  have hpos : pos ≤ n := by omega
  clear hx
  by_cases hy : y < (pos : Int) ∨ (n : Int) < y
  · rcases hy with hy | hy
    all_goals
      go_wp2_with fail
      go_ret
      exact ⟨rfl, Below.refl _ _⟩
  obtain ⟨c, rfl⟩ := Int.eq_ofNat_of_zero_le (show 0 ≤ y by omega)
  have hc1 : pos ≤ c := by omega
  have hc2 : c ≤ n := by omega
  clear hy HN
  have hn2 : n ≤ 1048576 := by omega
  clear hn1
  go_upto_if 41 with (fail)
  clear hneq
  go_cut [0] (fun d wc => Data w n Z d wc)
  case first =>
    cases a with
    | none =>
      go_wp2_with fail
      go_meet
      case rel => exact ⟨none, cap, rfl, HC.out.1, HC.out.2.1, hF, fun x h => (by cases h), Below.refl _ _⟩
    | some ad =>
      go_wp2_with (first
        | (at_make; refine wpList_make_full _ rfl (.tmp 43) (.tmp 43) 22 rfl w.heap.size 5 it _ 1 Try.underlying22 hi hz0 hz1 .i64 .i64 _ _ n rfl rfl rfl rfl (by rw [hz2]; omega) (by unfold maxLen; omega) (Nat.le_refl _) ?_; intro w2 hown hgrow; have hb2 : Below w.heap.size w w2 := (Below.refl _ _).grown hgrow (Nat.le_refl _) (fun k h => by cases h); obtain ⟨cur, hcl, hblk⟩ := made_block hown; have HB : Hid (cur.length = n ∧ w2.heap[w.heap.size]? = some (.cells cur.toArray 5 (0, 0))) := ⟨hcl, hblk⟩; clear hown hgrow hcl hblk)
        | (refine wpList_copy_splice rfl (.tmp 45) (.tmp 46) 22 22 rfl 5 Try.underlying22 size5 _ _ _ _ _ _ rfl rfl w.heap.size 0 cur 5 HB.out.2 (cellsZ Z n) (by rw [cellsZ_length]; exact (Nat.min_self n).symm) (fun _ => ⟨rfl, ad, rfl, src_cells (hF.later hb2)⟩) (by rw [cellsZ_length, HB.out.1]; omega) (cellsZ_one Z n) w.heap.size w hb2 (Nat.le_refl _) ?_; intro w3 HG hb3))
      go_meet
      case rel => exact ⟨_, _, rfl, Nat.le_refl _, by unfold maxLen; omega, row_of_copy HB.out.1 HG.out, fun x h => (by cases h; rfl), hb3⟩
  case rest =>
    clear hF hi hz0 hz1 hz2 it HC
    obtain ⟨a1, cap1, rfl, hcap, hcm, hF, hsp, hbw⟩ := hcut
    clear a cap
    go_wp2_with fail
    refine (new_any a1 n cap1 pos _).mono ?_
    rintro e w1 ⟨rfl, hD1, hb1⟩
    have HC : Hid (n ≤ cap1 ∧ cap1 ≤ maxLen) := ⟨hcap, hcm⟩
    have HD1 : Hid (w1.heap[wc.heap.size]? = some (.cells #[.slice a1 n cap1, .int .i64 pos] 30 (0, 0))) := hD1
    have HSP : Hid (∀ x, a1 = some x → x.spot = .none) := hsp
    clear hcap hcm hD1 hsp
    have hF1 := hF.later hb1
    have hbw1 := hbw.trans (hb1.mono hbw.size)
    clear hF
    go_wp2_with fail
    refine (zskip_any a1 n cap1 pos wc.heap.size Z _ (by omega) hpos hF1 HD1.out).mono ?_
    rintro e w2 ⟨r, rfl, hr, hb2, hD2⟩
    have hr1 := hr.lo
    have hr2 := hr.hi
    have HR : Hid (IsSkip Z n pos r) := hr
    have HD2 : Hid (w2.heap[wc.heap.size]? = some (.cells #[.slice a1 n cap1, .int .i64 r] 30 (0, 0))) := hD2
    have c1 : w2.cell? ⟨wc.heap.size, 1, .none⟩ = some (.int .i64 r) := by rw [cell_at hD2]; rfl
    have hF2 := hF1.later hb2
    have hbw2 := hbw1.trans (hb2.mono hbw.size)
    clear hr hD2 HD1 hF1 hbw1 hb1 hb2
    have f1 : decide (r < pos) = false := decide_eq_false (by omega)
    have f2 : decide (n < r) = false := decide_eq_false (by omega)
    go_wp2_with fail
    refine (pos_any wc.heap.size r _ c1).mono ?_
    rintro e _ ⟨rfl, rfl⟩
    go_wp2_with fail
    go_loopg [10] (r - pos) (fun gh i wr => ∃ k : Nat, gh = r - k ∧ pos ≤ k ∧ k ≤ r ∧ i = .int .i64 k ∧ w2 = wr)
    case atStart => exact ⟨pos, rfl, Nat.le_refl _, hr1, rfl, rfl⟩
    case round =>
      obtain ⟨k, rfl, hk1, hk2, rfl, rfl⟩ := hrel
      by_cases hlt : k < r
      · obtain ⟨b, off, rfl, _, hc⟩ := hF2 k (by omega)
        have hs1 : sp (Z k) = true := HR.out.all k hk1 hlt
        go_wp2_with fail
        refine (sp_any _ _).mono ?_
        rintro e _ ⟨rfl, rfl⟩
        rw [hs1]
        go_wp2_with fail
        go_roundg (r - (k + 1))
        case measure => omega
        case rel => exact ⟨k + 1, rfl, by omega, by omega, by go_num, rfl⟩
      · obtain rfl : k = r := by omega
        clear hlt hk1 hk2
        by_cases hlt : k < n
        case' pos =>
          obtain ⟨b, off, rfl, _, hc⟩ := hF2 k (by omega)
          have hs1 : sp (Z k) = false := HR.out.halted hlt
          go_wp2_with fail
          refine (sp_any _ _).mono ?_
          rintro e _ ⟨rfl, rfl⟩
          rw [hs1]
          go_wp2_with fail
          clear hs1 hc
        case' neg =>
          go_wp2_with fail
        all_goals
          refine (zskip_any _ n cap1 k wc.heap.size Z _ (by omega) hr2 hF2 HD2.out).mono ?_
          rintro e w3 ⟨r3, rfl, hr3, hb3, hD3⟩
          obtain rfl := HR.out.again hr3
          have c3 : w3.cell? ⟨wc.heap.size, 1, .none⟩ = some (.int .i64 r3) := by rw [cell_at hD3]; rfl
          have hF3 := hF2.later hb3
          have hbw3 := hbw2.trans (hb3.mono hbw.size)
          have hz3 : wc.heap.size ≤ w3.heap.size := Nat.le_of_lt (Array.getElem?_eq_some_iff.1 hD3).1
          clear hr3 hD3 c1 HD2 hF2 hbw2 hb3
          go_wp2_with fail
          refine (pos_any wc.heap.size r3 _ c3).mono ?_
          rintro e _ ⟨rfl, rfl⟩
          clear c3
          have hcc : c ≤ cap1 := by have := HC.out.1; omega
          go_wp2_with fail
          refine (new_any _ c cap1 pos _).mono ?_
          rintro e w4 ⟨rfl, hD4, hb4⟩
          have HD4 := show Hid _ from hD4
          have hF4 := ((hF3.mono hz3).later hb4).less hc2
          have hbw4 := hbw3.trans (hb4.mono hbw3.size)
          clear hD4 hb4 hF3
          go_wp2_with fail
          refine (zskip_any _ c cap1 pos w3.heap.size Z _ (by omega) hc1 hF4 HD4.out).mono ?_
          rintro e w5 ⟨rc, rfl, hr5, hb5, hD5⟩
          have hrc := HR.out.cutAt hc1 hc2 hr5
          have c5 : w5.cell? ⟨w3.heap.size, 1, .none⟩ = some (.int .i64 rc) := by rw [cell_at hD5]; rfl
          have hbw5 := hbw4.trans (hb5.mono hbw3.size)
          clear hr5 hD5 hb5 hF4 HD4 hbw4
          rcases (show (c < r3 ∧ rc = c) ∨ (¬ c < r3 ∧ rc = r3) by omega) with ⟨hcr, rfl⟩ | ⟨hcr, rfl⟩
          all_goals
            clear hrc
            go_wp2_with fail
            refine (pos_any w3.heap.size _ _ c5).mono ?_
            rintro e _ ⟨rfl, rfl⟩
            go_wp2_with fail
            go_ret
            exact ⟨rfl, hbw5⟩

end Go.Proofs.Qxb6628516a
