/-
  THE LAW FnSkipSpaceWhitespaceInsertedShifts (4), walked.
-/
import Derived.Test.Qxb6628516aJoin
namespace Go.Proofs.Qxb6628516a
open Go.RowKit

set_option maxHeartbeats 1600000 in
set_option maxRecDepth 100000 in
theorem law4 (a : Option Addr) (n cap : Nat) (Z : Nat → Int) (x : Int) (a2 : Option Addr) (m cap2 : Nat) (X : Nat → Int) (y : Int) (w : World) (hn : n ≤ maxLen) (hcap : n ≤ cap) (hF : BRow w w.heap.size a n Z) (hno : a = none → n = 0 ∧ cap = 0)
    (hm : m ≤ maxLen) (hF2 : BRow w w.heap.size a2 m X) (hno2 : a2 = none → m = 0 ∧ cap2 = 0) :
    Calls Try.prog 4 #[.slice a n cap, .int .i64 x, .slice a2 m cap2, .int .u8 y] w (lawPost w) := by
  obtain ⟨it, hi, hz0, hz1, hz2⟩ := info_parts info5
  have hneq := fun w => run_neq_slice_nil_any (P := Try.prog) w 22 5 a n cap 0 0 Try.underlying22
  have HC : Hid (n ≤ cap ∧ (a = none → n = 0 ∧ cap = 0)) := ⟨hcap, hno⟩
  have HC2 : Hid (a2 = none → m = 0 ∧ cap2 = 0) := hno2
  have HN : Hid (n ≤ maxLen ∧ m ≤ maxLen) := ⟨hn, hm⟩
  clear hcap hno hno2 hn hm
  go_enter Try.func4, Try.ntmps4
  go_wp2_with fail
  refine (bytes10_any a n cap x a2 m cap2 y _ HN.out.1 HN.out.2).mono ?_
  rintro e w1 ⟨b, rfl, rfl⟩
  cases b
  · go_wp2_with fail
    go_ret
    exact ⟨rfl, Below.refl _ _⟩
  by_cases hn1 : 524288 < n
  · go_wp2_with fail
    go_ret
    exact ⟨rfl, Below.refl _ _⟩
  have hn2 : n ≤ 524288 := by omega
  clear hn1
  by_cases hm1 : 524288 < m
  · go_wp2_with fail
    go_ret
    exact ⟨rfl, Below.refl _ _⟩
  have hm2 : m ≤ 524288 := by omega
  clear hm1
  by_cases hx : x < 0 ∨ (n : Int) < x
  · rcases hx with hx | hx
    all_goals
      go_wp2_with fail
      go_ret
      exact ⟨rfl, Below.refl _ _⟩
  obtain ⟨pos, rfl⟩ := Int.eq_ofNat_of_zero_le (show 0 ≤ x by omega)
  have hpos : pos ≤ n := by omega
  clear hx HN
  go_upto_if 40 with (fail)
  clear hneq
  go_cut [0] (fun d wc => Data2 w n Z d wc)
  case first =>
    cases a with
    | none =>
      go_wp2_with fail
      go_meet
      case rel => exact ⟨none, cap, rfl, HC.out.1, hF, fun _ => HC.out.2 trivial, Below.refl _ _⟩
    | some ad =>
      go_wp2_with (first
        | (at_make; refine wpList_make_full _ rfl (.tmp 42) (.tmp 42) 22 rfl w.heap.size 5 it _ 1 Try.underlying22 hi hz0 hz1 .i64 .i64 _ _ n rfl rfl rfl rfl (by rw [hz2]; omega) (by unfold maxLen; omega) (Nat.le_refl _) ?_; intro w2 hown hgrow; have hb2 : Below w.heap.size w w2 := (Below.refl _ _).grown hgrow (Nat.le_refl _) (fun k h => by cases h); obtain ⟨cur, hcl, hblk⟩ := made_block hown; have HB : Hid (cur.length = n ∧ w2.heap[w.heap.size]? = some (.cells cur.toArray 5 (0, 0))) := ⟨hcl, hblk⟩; clear hown hgrow hcl hblk)
        | (refine wpList_copy_splice rfl (.tmp 44) (.tmp 45) 22 22 rfl 5 Try.underlying22 size5 _ _ _ _ _ _ rfl rfl w.heap.size 0 cur 5 HB.out.2 (cellsZ Z n) (by rw [cellsZ_length]; exact (Nat.min_self n).symm) (fun _ => ⟨rfl, ad, rfl, src_cells (hF.later hb2)⟩) (by rw [cellsZ_length, HB.out.1]; omega) (cellsZ_one Z n) w.heap.size w hb2 (Nat.le_refl _) ?_; intro w3 HG hb3))
      go_meet
      case rel => exact ⟨_, _, rfl, Nat.le_refl _, row_of_copy HB.out.1 HG.out, fun h => (by cases h), hb3⟩
  case rest =>
    clear hF HC
    obtain ⟨a1, cap1, rfl, hcap, hF, hno, hbw⟩ := hcut
    clear a cap
    have HC : Hid (n ≤ cap1 ∧ (a1 = none → n = 0 ∧ cap1 = 0)) := ⟨hcap, hno⟩
    have hF2 := (hF2.later hbw).mono hbw.size
    clear hcap hno
    go_wp2_with fail
    go_loopg [10] m (fun gh i wr => ∃ k : Nat, gh = m - k ∧ k ≤ m ∧ i = .int .i64 k ∧ wc = wr ∧ ∀ i, i < k → sp (X i) = true)
    case atStart => exact ⟨0, rfl, Nat.zero_le _, rfl, rfl, fun i h => by omega⟩
    case round =>
      obtain ⟨k, rfl, hk2, rfl, rfl, hall⟩ := hrel
      have HA : Hid (∀ i, i < k → sp (X i) = true) := hall
      clear hall
      by_cases hlt : k < m
      · obtain ⟨b, off, rfl, _, hc⟩ := hF2 k hlt
        cases hs1 : sp (X k)
        · go_wp2_with fail
          refine (sp_any _ _).mono ?_
          rintro e _ ⟨rfl, rfl⟩
          rw [hs1]
          go_wp2_with fail
          go_ret
          exact ⟨rfl, hbw⟩
        · go_wp2_with fail
          refine (sp_any _ _).mono ?_
          rintro e _ ⟨rfl, rfl⟩
          rw [hs1]
          go_wp2_with fail
          go_roundg (m - (k + 1))
          case measure => omega
          case rel =>
            refine ⟨k + 1, rfl, by omega, by go_num, rfl, fun i h => ?_⟩
            rcases Nat.lt_or_ge i k with h' | h'
            · exact HA.out i h'
            · obtain rfl : i = k := by omega
              exact hs1
      · obtain rfl : k = m := by omega
        clear hlt hk2
        go_wp2_with fail
        refine (new_any a1 n cap1 pos _).mono ?_
        rintro e w1 ⟨rfl, hD1, hb1⟩
        have HD1 : Hid (w1.heap[wc.heap.size]? = some (.cells #[.slice a1 n cap1, .int .i64 pos] 30 (0, 0))) := hD1
        have hF1 := hF.later hb1
        have hF21 := hF2.later hb1
        have hbw1 := hbw.trans (hb1.mono hbw.size)
        clear hD1 hF hF2
        go_wp2_with fail
        refine (zskip_any a1 n cap1 pos wc.heap.size Z _ (by omega) hpos hF1 HD1.out).mono ?_
        rintro e w2 ⟨r, rfl, hr, hb2, hD2⟩
        have hr1 := hr.lo
        have hr2 := hr.hi
        have HR : Hid (IsSkip Z n pos r) := hr
        have hz2' : wc.heap.size ≤ w2.heap.size := Nat.le_of_lt (Array.getElem?_eq_some_iff.1 hD2).1
        have hF1 := (hF1.later hb2).mono hz2'
        have hF21 := (hF21.later hb2).mono hz2'
        have hbw2 := hbw1.trans (hb2.mono hbw.size)
        clear hr hD2 HD1 hbw1 hb1 hb2 hz2'
        have hccp : pos ≤ cap1 := by have := HC.out.1; omega
        have hccr : r ≤ cap1 := by have := HC.out.1; omega
        obtain ⟨A1, hA1, hA1n, hA1c⟩ := cut_named a1 n cap1 pos HC.out Z
        obtain ⟨A2, hA2, hA2n, hA2c⟩ := cut_named a1 n cap1 r HC.out Z
        have HA1 : Hid ((A1 = none → n - pos = 0 ∧ cap1 - pos = 0) ∧ ∀ w B, BRow w B a1 n Z → ∀ ad, A1 = some ad → ∀ j u, (cellsZ (fun i => Z (pos + i)) (n - pos))[j]? = some u → w.cell? (ad.add j) = some u) := ⟨hA1n, hA1c⟩
        have HA2 : Hid ((A2 = none → n - r = 0 ∧ cap1 - r = 0) ∧ ∀ w B, BRow w B a1 n Z → ∀ ad, A2 = some ad → ∀ j u, (cellsZ (fun i => Z (r + i)) (n - r))[j]? = some u → w.cell? (ad.add j) = some u) := ⟨hA2n, hA2c⟩
        clear hA1n hA1c hA2n hA2c
        go_wp2_with (first
          | (at_make; refine wpList_make_own _ rfl (.const (.int .i64 0)) (.tmp 78) 22 rfl w2.heap.size 5 it _ 1 Try.underlying22 hi hz0 hz1 .i64 .i64 _ (n + k) rfl rfl (by omega) (by rw [hz2]; omega) (by unfold maxLen; omega) (Nat.le_refl _) ?_; intro w3 hown0 hg0; have hb3 : Below w2.heap.size w2 w3 := (Below.refl _ _).grown hg0 (Nat.le_refl _) (fun k h => by cases h); clear hg0)
          | (at_builtin; refine wpList_append_fits_any _ rfl (.tmp 80) (.tmp 83) 22 rfl w2.heap.size 5 it 1 Try.underlying22 hi hz1 w2.heap.size 0 (n + k) [] rfl hown0 a1 pos cap1 (cellsZ Z pos) rfl (by rw [cellsZ_length]; omega) (head_none HC.out.2 hpos) (head_cells (hF1.later hb3) hpos) (cellsZ_one _ _) (by omega) ?_; intro w4 hown1 hg1; simp only [Nat.zero_add, List.nil_append] at hown1; have hb4 := grown_below hb3 hg1 (Nat.le_refl _); clear hg1 hown0)
          | (at_builtin; refine wpList_append_fits_any _ rfl (.tmp 85) (.tmp 86) 22 rfl w2.heap.size 5 it 1 Try.underlying22 hi hz1 w2.heap.size pos (n + k) (cellsZ Z pos) rfl hown1 a2 k cap2 (cellsZ X k) rfl (by rw [cellsZ_length]; omega) HC2.out (head_cells (hF21.later hb4) (Nat.le_refl _)) (cellsZ_one _ _) (by omega) ?_; intro w5 hown2 hg2; have hb5 := grown_below hb4 hg2 (Nat.le_refl _); clear hg2 hown1)
          | (at_builtin; refine wpList_append_fits_any _ rfl (.tmp 88) (.tmp 91) 22 rfl w2.heap.size 5 it 1 Try.underlying22 hi hz1 w2.heap.size (pos + k) (n + k) (cellsZ Z pos ++ cellsZ X k) rfl hown2 A1 (n - pos) (cap1 - pos) (cellsZ (fun i => Z (pos + i)) (n - pos)) rfl (by rw [cellsZ_length]; omega) HA1.out.1 (HA1.out.2 _ _ (hF1.later hb5)) (cellsZ_one _ _) (by omega) ?_; intro w6 hown3 hg3; have hb6 := grown_below hb5 hg3 (Nat.le_refl _); clear hg3 hown2))
        clear hA1 HA1
        have hFJ := join3_row (by rfl) hown3
        have hF1 := hF1.later hb6
        have hbw6 := hbw2.trans (hb6.mono hbw2.size)
        have hz6 := hb6.size
        clear hown3 hb3 hb4 hb5 hF21 hbw2
        refine (new_any _ _ _ pos _).mono ?_
        rintro e w7 ⟨rfl, hD7, hb7⟩
        have HD7 := show Hid _ from hD7
        have hFJ := hFJ.later hb7
        have hF1 := (hF1.mono hz6).later hb7
        have hbw7 := hbw6.trans (hb7.mono hbw6.size)
        clear hD7
        go_wp2_with fail
        refine (zskip_any _ _ _ pos w6.heap.size _ _ (by omega) (by omega) hFJ HD7.out).mono ?_
        rintro e w8 ⟨r2, rfl, hr2', hb8, hD8⟩
        rw [show pos + k + (n - pos) = n + k from by omega] at hr2'
        have hrk : r2 = r + k := HR.out.inserted (X := X) HA.out (fun i hi => by simp only [join3]; rw [if_neg (by omega), if_pos (by omega)]; congr 1; omega) (fun i h1 h2 => by simp only [join3]; rw [if_neg (by omega), if_neg (by omega)]; congr 1; omega) hr2'
        have c8 : w8.cell? ⟨w6.heap.size, 1, .none⟩ = some (.int .i64 r2) := by rw [cell_at hD8]; rfl
        have hz8 : w6.heap.size ≤ w8.heap.size := Nat.le_of_lt (Array.getElem?_eq_some_iff.1 hD8).1
        have hF1 := (hF1.later hb8).mono hz8
        have hbw8 := hbw7.trans (hb8.mono hbw6.size)
        have hne : ((r2 : Int) != (r : Int) + (k : Int)) = false := by rw [hrk]; simp
        have hbd : r2 ≤ 2000000 := by omega
        clear hr2' hD8 hb8 hFJ HD7 hbw7 hbw6 hb7 hb6 hz6 hz8 hrk
        go_wp2_with fail
        refine (pos_any w6.heap.size _ _ c8).mono ?_
        rintro e _ ⟨rfl, rfl⟩
        go_wp2_with fail
        refine (sp_any _ _).mono ?_
        rintro e _ ⟨rfl, rfl⟩
        clear c8 hne
        cases hsy : sp y
        case true =>
          go_wp2_with fail
          go_ret
          exact ⟨rfl, hbw8⟩
        have HY : Hid (sp y = false) := hsy
        clear hsy
        go_wp2_with (first
          | (at_make; refine wpList_make_own _ rfl (.const (.int .i64 0)) (.tmp 114) 22 rfl w8.heap.size 5 it _ 1 Try.underlying22 hi hz0 hz1 .i64 .i64 _ (n + 1) rfl rfl (by omega) (by rw [hz2]; omega) (by unfold maxLen; omega) (Nat.le_refl _) ?_; intro w9 hown0 hg0; have hb9 : Below w8.heap.size w8 w9 := (Below.refl _ _).grown hg0 (Nat.le_refl _) (fun k h => by cases h); clear hg0)
          | (at_builtin; refine wpList_append_fits_any _ rfl (.tmp 116) (.tmp 119) 22 rfl w8.heap.size 5 it 1 Try.underlying22 hi hz1 w8.heap.size 0 (n + 1) [] rfl hown0 a1 r cap1 (cellsZ Z r) rfl (by rw [cellsZ_length]; omega) (head_none HC.out.2 hr2) (head_cells (hF1.later hb9) hr2) (cellsZ_one _ _) (by omega) ?_; intro w10 hown1 hg1; simp only [Nat.zero_add, List.nil_append] at hown1; have hb10 := grown_below hb9 hg1 (Nat.le_refl _); clear hg1 hown0)
          | (at_builtin; refine wpList_append_fits_any _ rfl (.tmp 121) (.tmp 123) 22 rfl w8.heap.size 5 it 1 Try.underlying22 hi hz1 w8.heap.size r (n + 1) (cellsZ Z r) rfl (hown1.alloc _) (some ⟨w10.heap.size, 0, .none⟩) 1 1 (cellsZ (fun _ => y) 1) rfl (by rw [cellsZ_length]) (fun h => by cases h) (one_cell w10 y) (cellsZ_one _ _) (by omega) ?_; intro w11 hown2 hg2; have hb11 := grown_below (hb10.alloc hb10.size _) hg2 (Nat.le_refl _); clear hg2 hown1)
          | (at_builtin; refine wpList_append_fits_any _ rfl (.tmp 125) (.tmp 128) 22 rfl w8.heap.size 5 it 1 Try.underlying22 hi hz1 w8.heap.size (r + 1) (n + 1) (cellsZ Z r ++ cellsZ (fun _ => y) 1) rfl hown2 A2 (n - r) (cap1 - r) (cellsZ (fun i => Z (r + i)) (n - r)) rfl (by rw [cellsZ_length]; omega) HA2.out.1 (HA2.out.2 _ _ (hF1.later hb11)) (cellsZ_one _ _) (by omega) ?_; intro w12 hown3 hg3; have hb12 := grown_below hb11 hg3 (Nat.le_refl _); clear hg3 hown2))
        have hFJ := join3_row (by rfl) hown3
        have hbw12 := hbw8.trans (hb12.mono hbw8.size)
        clear hown3 hb9 hb10 hb11 hb12 hF1 hbw8 hA2 HA2
        refine (new_any _ _ _ pos _).mono ?_
        rintro e w13 ⟨rfl, hD13, hb13⟩
        have HD13 := show Hid _ from hD13
        have hFJ := hFJ.later hb13
        have hbw13 := hbw12.trans (hb13.mono hbw12.size)
        clear hD13
        go_wp2_with fail
        refine (zskip_any _ _ _ pos w12.heap.size _ _ (by omega) (by omega) hFJ HD13.out).mono ?_
        rintro e w14 ⟨r3, rfl, hr3', hb14, hD14⟩
        rw [show r + 1 + (n - r) = n + 1 from by omega] at hr3'
        have hrk : r3 = r := HR.out.halts HY.out (fun i hi => by simp only [join3]; rw [if_pos hi]) (by simp only [join3]; rw [if_neg (by omega), if_pos (by omega)]) hr3'
        have c14 : w14.cell? ⟨w12.heap.size, 1, .none⟩ = some (.int .i64 r3) := by rw [cell_at hD14]; rfl
        have hbw14 := hbw13.trans (hb14.mono hbw12.size)
        clear hr3' hD14 hb14 hFJ HD13 hbw13 hb13 HR
        obtain rfl := hrk
        go_wp2_with fail
        refine (pos_any w12.heap.size _ _ c14).mono ?_
        rintro e _ ⟨rfl, rfl⟩
        go_wp2_with fail
        go_ret
        exact ⟨rfl, hbw14⟩

end Go.Proofs.Qxb6628516a
