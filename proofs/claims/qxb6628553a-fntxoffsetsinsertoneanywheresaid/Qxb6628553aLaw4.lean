/-
  THE LAW FnTxOffsetsInsertOneAnywhere (4), walked.
-/
import Derived.Test.Qxb6628553aIns
namespace Go.Proofs.Qxb6628553a
open Go.RowKit

set_option maxHeartbeats 1600000 in
set_option maxRecDepth 100000 in
theorem law4 (lane pos : Int) (a : Option Addr) (n cap : Nat) (L : Nat → Nat) (a2 : Option Addr) (m cap2 : Nat) (pp : Int) (w : World) (hn : n ≤ maxLen) (hm : m ≤ maxLen) (hp0 : 0 ≤ pos) (hp1 : pos < 18446744073709551616) (hF : LRow w w.heap.size a n L) :
    Calls Try.prog 4 #[.int .i64 lane, .int .u64 pos, .slice a n cap, .slice a2 m cap2, .int .i64 pp] w (lawPost w) := by
  obtain ⟨it, hi, hz0, hz1, hz2⟩ := info_parts info25
  have HN : Hid (n ≤ maxLen ∧ m ≤ maxLen) := ⟨hn, hm⟩
  clear hn hm
  go_enter Try.func4, Try.ntmps4
  go_wp2_with fail
  refine (bytes8_any lane pos pp a n cap _ L a2 m cap2 _ HN.out.1 HN.out.2 hF).mono ?_
  rintro e w1 ⟨b, rfl, hbs, rfl⟩
  cases b
  · go_wp2_with fail
    go_ret
    exact ⟨rfl, Below.refl _ _⟩
  have hns := hbs rfl
  clear hbs HN
  have hm2 : m ≤ 1048576 := by omega
  have hs2 : sumL L n + m ≤ 1048576 := by omega
  clear hns
  by_cases hn1 : 131072 < n
  · go_wp2_with fail
    go_ret
    exact ⟨rfl, Below.refl _ _⟩
  have hn2 : n ≤ 131072 := by omega
  clear hn1
  by_cases ht : 1048576 < 8 * (n + 1) + m
  · go_wp2_with fail
    go_ret
    exact ⟨rfl, Below.refl _ _⟩
  have ht1 : 8 * (n + 1) + m ≤ 1048576 := by omega
  clear ht
  go_wp2_with fail
  go_loopg [11, 12] n (fun f t i wr => ∃ k : Nat, k + f = n ∧ i = .int .i64 k ∧ t = .int .i64 ((8 * (n + 1) + m + sumL L k : Nat) : Int) ∧ w = wr)
  case atStart => exact ⟨0, by omega, rfl, by simp [sumL], rfl⟩
  case round =>
    obtain ⟨i, hkf, rfl, rfl, rfl⟩ := hrel
    have HK : Hid (i + gk = n) := hkf
    have hii : i ≤ n := by omega
    have hsi := sumL_mono L hii
    clear hkf
    by_cases hlt : i < n
    · obtain ⟨b, off, rfl, _, x, c, hc⟩ := hF i hlt
      have hs1 := sumL_mono L (show i + 1 ≤ n from hlt)
      have HS : Hid (sumL L (i + 1) = sumL L i + L i) := rfl
      have hlk : L i ≤ 1048576 := by have := HS.out; omega
      clear hs1
      go_wp2_with fail
      · go_ret
        exact ⟨rfl, Below.refl _ _⟩
      · go_roundg (gk - 1)
        case measure => have := HK.out; omega
        case rel => exact ⟨i + 1, by have := HK.out; omega, by go_num, by have := HS.out; go_num, rfl⟩
    · obtain rfl : n = i := by omega
      clear hlt hii hsi HK
      by_cases hk : pp < 0 ∨ (n : Int) < pp
      · rcases hk with hk | hk
        all_goals
          go_wp2_with fail
          go_ret
          exact ⟨rfl, Below.refl _ _⟩
      obtain ⟨p, rfl⟩ := Int.eq_ofNat_of_zero_le (show 0 ≤ pp by omega)
      have hp : p ≤ n := by omega
      clear hk
      obtain ⟨M, hM⟩ : ∃ M, M = insL L p m := ⟨_, rfl⟩
      have HM : Hid (M = insL L p m) := hM
      clear hM
      go_wp2_with (at_make; refine wpList_make_full _ rfl (.tmp 75) (.tmp 75) 23 rfl w.heap.size 25 it _ 1 Try.underlying23 hi hz0 hz1 .i64 .i64 _ _ (n + 1) rfl rfl (by omega) (by omega) (by rw [hz2]; omega) (by unfold maxLen; omega) (Nat.le_refl _) ?_; intro w4 hown hgrow; have hb4 : Below w.heap.size w w4 := (Below.refl _ _).grown hgrow (Nat.le_refl _) (fun k h => by cases h); clear hgrow)
      have hP0 : GPart w4 w.heap.size (n + 1) 0 M := GPart.made hown
      clear hown hi hz0 hz1 hz2 it
      go_loopg [15] p (fun f x wr => ∃ j : Nat, j + f = p ∧ x = .int .i64 j ∧ GPart wr w.heap.size (n + 1) j M ∧ Below w.heap.size w wr)
      case atStart => exact ⟨0, by omega, rfl, hP0, hb4⟩
      case round =>
        obtain ⟨j, hjf, rfl, hP, hb⟩ := hrel
        have HK : Hid (j + gk = p) := hjf
        have hj : j ≤ p := by omega
        clear hjf hP0 hb4
        obtain ⟨⟨old, hold⟩, hfz⟩ := hP.facts (show j < n + 1 by omega)
        have hj0 : (0 : Int) ≤ (j : Int) := Int.natCast_nonneg _
        have hj2 : (j : Int) < (n : Int) + 1 := by omega
        by_cases hlt : j < p
        · obtain ⟨b, off, rfl, hbl, x, c, hc⟩ := hF.later hb j (by omega)
          have hj1 : (j : Int) < (n : Int) := by omega
          go_wp2_with fail
          go_roundg (gk - 1)
          case measure => have := HK.out; omega
          case rel => exact ⟨j + 1, by have := HK.out; omega, by go_num, hP.store (by omega) (by rw [HM.out, insL_lt hlt]), hb.setCell (Nat.le_refl _) _⟩
        · obtain rfl : p = j := by omega
          clear hlt hj HK
          go_wp2_with fail
          have hP1 := hP.store (x := a2) (c := cap2) (l := m) (show p < n + 1 by omega) (by rw [HM.out, insL_at])
          have hb1 := hb.setCell (p := ⟨w.heap.size, p, .none⟩) (Nat.le_refl _) (.slice a2 m cap2)
          clear hP hb hold hfz
          go_loopg [16] (n - p) (fun f x wy => ∃ j : Nat, j + f = n ∧ p ≤ j ∧ x = .int .i64 j ∧ GPart wy w.heap.size (n + 1) (j + 1) M ∧ Below w.heap.size w wy)
          case atStart => exact ⟨p, by omega, Nat.le_refl _, rfl, hP1, hb1⟩
          case round =>
            obtain ⟨j, hjf, hpj, rfl, hP, hb⟩ := hrel
            have HK : Hid (j + gk = n) := hjf
            have hj : j ≤ n := by omega
            clear hjf hP1 hb1
            by_cases hlt : j < n
            · obtain ⟨⟨old, hold⟩, hfz⟩ := hP.facts (show j + 1 < n + 1 by omega)
              obtain ⟨b, off, rfl, hbl, x, c, hc⟩ := hF.later hb j (by omega)
              have hj1 : (j : Int) < (n : Int) := by omega
              go_wp2_with fail
              go_roundg (gk - 1)
              case measure => have := HK.out; omega
              case rel => exact ⟨j + 1, by have := HK.out; omega, by omega, by go_num, hP.store (by omega) (by rw [HM.out, insL_gt hpj]), hb.setCell (Nat.le_refl _) _⟩
            · obtain rfl : n = j := by omega
              clear hlt hj HK hpj
              have hG := hP.lrow
              have hFx := (hF.later hb).mono hb.size
              have hsM : sumL M (n + 1) ≤ 2097152 := by
                rw [HM.out]
                have := sum_ins_gt L p m (n - p)
                rw [show p + (n - p) = n from by omega] at this
                omega
              clear hP hF
              go_wp2_with fail
              refine (off_any _ lane pos a n cap L _ (by omega) (by omega) hp0 hp1 (by simp) (by simp) (by simp) ((hFx.later (bel1 _ _)).mono (by simp))).mono ?_
              rintro e w1 ⟨g1, rfl, hO1, hb1⟩
              obtain ⟨hG1, _⟩ := after_box hG hb1
              obtain ⟨hF1, hbw1⟩ := after_box hFx hb1
              replace hbw1 := hb.trans (hbw1.mono hb.size)
              clear hb1 hFx hG hb
              go_wp2_with fail
              refine (off_any _ lane pos (some ⟨w.heap.size, 0, .none⟩) (n + 1) (n + 1) M _ (by omega) hsM hp0 hp1 (by simp) (by simp) (by simp) ((hG1.later (bel1 _ _)).mono (by simp))).mono ?_
              rintro e w2 ⟨g2, rfl, hO2, hb2⟩
              obtain ⟨hF2, hbw2⟩ := after_box hF1 hb2
              replace hO1 := hO1.later hbw2
              replace hbw2 := hbw1.trans (hbw2.mono hbw1.size)
              clear hb2 hF1 hG1 hbw1 hsM
              obtain ⟨hU0, hU1⟩ := wrapU_bd lane
              generalize hU : IntKind.u64.wrap lane = U at *
              have hlen : ((n + 1 : Nat) : Int) = (n : Int) + 1 := by omega
              rw [hlen] at hO2
              go_wp2_with fail
              refine (uvar_any U _ hU0 hU1).mono ?_
              rintro e _ ⟨rfl, rfl⟩
              have b1 := ulen_bd U
              have b2 := ulen_bd pos
              go_wp2_with fail
              refine (uvar_any pos _ hp0 hp1).mono ?_
              rintro e _ ⟨rfl, rfl⟩
              clear hU hU0 hU1 hp0 hp1
              have bI := ulen_bd n
              have bJ := ulen_bd ((n : Int) + 1)
              have hsp := sumL_mono L hp
              go_wp2_with fail
              go_loopg [20, 21] p (fun f t x wy => ∃ j : Nat, j + f = p ∧ x = .int .i64 j ∧ t = .int .i64 ((sumL L j : Nat) : Int) ∧ w2 = wy)
              case atStart => exact ⟨0, by omega, rfl, by simp [sumL], rfl⟩
              case round =>
                obtain ⟨j, hjf, rfl, rfl, rfl⟩ := hrel
                have HK : Hid (j + gk = p) := hjf
                have hj : j ≤ p := by omega
                have hsj := sumL_mono L hj
                clear hjf
                by_cases hlt : j < p
                · obtain ⟨b, off, rfl, _, x, c, hc⟩ := hF2 j (by omega)
                  have hs1 := sumL_mono L (show j + 1 ≤ p from hlt)
                  have HS : Hid (sumL L (j + 1) = sumL L j + L j) := rfl
                  have hlk : L j ≤ 1048576 := by have := HS.out; omega
                  clear hs1
                  go_wp2_with fail
                  go_roundg (gk - 1)
                  case measure => have := HK.out; omega
                  case rel => exact ⟨j + 1, by have := HK.out; omega, by go_num, by have := HS.out; go_num, rfl⟩
                · obtain rfl : p = j := by omega
                  clear hlt hj hsj HK hF2
                  have o2 := hO2 p (by omega)
                  have hq0 : (0 : Int) ≤ (p : Int) := Int.natCast_nonneg _
                  have hq1 : (p : Int) < (n : Int) + 1 := by omega
                  have hwn : IntKind.i64.wrap ((n : Int) + 1) = (n : Int) + 1 := i64w _ (by omega) (by omega)
                  have hUn1 : IntKind.u64.wrap ((n : Int) + 1) = (n : Int) + 1 := IntWalk.u64_in _ ⟨by omega, by omega⟩
                  have hUn : IntKind.u64.wrap (n : Int) = (n : Int) := IntWalk.u64_in _ ⟨by omega, by omega⟩
                  have hne := at_eq L p m (1 + ulen U + ulen pos) (ulen ((n : Int) + 1)) (by omega) (by omega) (by omega) (by omega)
                  rw [← HM.out] at hne
                  go_wp2_with fail
                  go_region_held3 (fun w' => w'.cell? ⟨g2, p, .none⟩ = some (.int .i64 (offI (1 + ulen U + ulen pos + ulen ((n : Int) + 1)) M p))) (go_keep)
                    (first | (go_at_call 7; refine (uvar_any _ _ (by omega) (by omega)).mono ?_; rintro e _ ⟨rfl, rfl⟩))
                  go_wp2_with fail
                  refine (uvar_any ((n : Int) + 1) _ (by omega) (by omega)).mono ?_
                  rintro e _ ⟨rfl, rfl⟩
                  go_wp2_with fail
                  refine (uvar_any (n : Int) _ (by omega) (by omega)).mono ?_
                  rintro e _ ⟨rfl, rfl⟩
                  clear hne o2 hUn hUn1 hwn hq0 hq1
                  go_wp2_with fail
                  go_loopg [23] p (fun f x wy => ∃ j : Nat, j + f = p ∧ x = .int .i64 j ∧ Below w2.heap.size w2 wy)
                  case atStart => exact ⟨0, by omega, rfl, (Below.refl _ _).drew⟩
                  case round =>
                    obtain ⟨j, hjf, rfl, hb⟩ := hrel
                    have HK : Hid (j + gk = p) := hjf
                    have hj : j ≤ p := by omega
                    clear hjf
                    by_cases hlt : j < p
                    · have o1 := cell_later hb (hO1 j (by omega))
                      have o2 := cell_later hb (hO2 j (by omega))
                      have hj0 : (0 : Int) ≤ (j : Int) := Int.natCast_nonneg _
                      have hj1 : (j : Int) < (n : Int) := by omega
                      have hj2 : (j : Int) < (n : Int) + 1 := by omega
                      have hsj := sumL_mono L hj
                      have hne := early_eq L p m j (1 + ulen U + ulen pos) (ulen n) (ulen ((n : Int) + 1)) hlt (by omega) (by omega) (by omega) (by omega)
                      rw [← HM.out] at hne
                      clear hsj
                      go_wp2_with fail
                      go_region_held3 (fun w' => w'.cell? ⟨g2, j, .none⟩ = some (.int .i64 (offI (1 + ulen U + ulen pos + ulen ((n : Int) + 1)) M j)) ∧ w'.cell? ⟨g1, j, .none⟩ = some (.int .i64 (offI (1 + ulen U + ulen pos + ulen n) L j))) (go_keep) (fail)
                      go_wp2_with fail
                      go_roundg (gk - 1)
                      case measure => have := HK.out; omega
                      case rel => exact ⟨j + 1, by have := HK.out; omega, by go_num, hb.drew⟩
                    · obtain rfl : p = j := by omega
                      clear hlt hj HK
                      replace hO1 := hO1.later hb
                      replace hO2 := hO2.later hb
                      replace hbw2 := hbw2.trans (hb.mono hbw2.size)
                      clear hb
                      go_wp2_with fail
                      go_loopg [24] (n - p) (fun f x wy => ∃ j t : Nat, j = t + 1 ∧ t + f = n ∧ p ≤ t ∧ x = .int .i64 j ∧ Below wr.heap.size wr wy)
                      case atStart => exact ⟨p + 1, p, rfl, by omega, Nat.le_refl _, by go_num, Below.refl _ _⟩
                      case round =>
                        obtain ⟨j, t, hjt, htf, hpt, rfl, hb⟩ := hrel
                        have HK : Hid (j = t + 1 ∧ t + gk = n) := ⟨hjt, htf⟩
                        have htn : t ≤ n := by omega
                        by_cases hlt : j ≤ n
                        · have o1 := cell_later hb (hO1 t (by omega))
                          have o2 := cell_later hb (hO2 j (by omega))
                          have hj0 : (0 : Int) ≤ (j : Int) := Int.natCast_nonneg _
                          have hj2 : (j : Int) < (n : Int) + 1 := by omega
                          have ht0 : (0 : Int) ≤ (t : Int) := Int.natCast_nonneg _
                          have ht1' : (t : Int) < (n : Int) := by omega
                          have hj1t : (j : Int) - 1 = (t : Int) := by omega
                          have hwt : IntKind.i64.wrap (t : Int) = (t : Int) := i64w _ (by omega) (by omega)
                          have hst := sumL_mono L htn
                          have hne := late_eq L p m j t (1 + ulen U + ulen pos) (ulen n) (ulen ((n : Int) + 1)) hjt hpt (by omega) (by omega) (by omega) (by omega) (by omega)
                          rw [← HM.out] at hne
                          clear hst hjt htf
                          go_wp2_with fail
                          go_region_held3 (fun w' => w'.cell? ⟨g2, j, .none⟩ = some (.int .i64 (offI (1 + ulen U + ulen pos + ulen ((n : Int) + 1)) M j)) ∧ w'.cell? ⟨g1, t, .none⟩ = some (.int .i64 (offI (1 + ulen U + ulen pos + ulen n) L t))) (go_keep) (fail)
                          go_wp2_with fail
                          go_roundg (gk - 1)
                          case measure => have := HK.out; omega
                          case rel => exact ⟨j + 1, t + 1, by have := HK.out; omega, by have := HK.out; omega, by omega, by go_num, hb.drew⟩
                        · clear hjt htf
                          go_wp2_with fail
                          go_ret
                          exact ⟨rfl, hbw2.trans (hb.mono hbw2.size)⟩

end Go.Proofs.Qxb6628553a
