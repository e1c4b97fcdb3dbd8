/-
  THE LAW FnTxOffsetsSplitAtAnyCut (3), walked.
-/
import Derived.Test.Qxb6628553aEqs
import Derived.Deep.DeepCutAuto
namespace Go.Proofs.Qxb6628553a
open Go.RowKit

def lawPost (w : World) (e : Ending) (w' : World) : Prop := e = .returned (.bool true) ∧ Below w.heap.size w w'
theorem bel1 (w : World) (o : Obj) : Below w.heap.size w (w.alloc o) := (Below.refl _ _).alloc (Nat.le_refl _) _

/-- the address of batch[p:], named -/
theorem cut_row (a : Option Addr) (n cap p : Nat) (L : Nat → Nat) (hc : n ≤ cap) :
    ∃ A, (if cap = p then a else Option.map (fun x => x.add p) a) = A ∧ ∀ w B, LRow w B a n L → LRow w B A (n - p) (fun i => L (p + i)) := by
  refine ⟨_, rfl, fun w B hF i hi => ?_⟩
  rw [if_neg (by omega)]
  obtain ⟨b, off, rfl, hb, x, c, h⟩ := hF (p + i) (by omega)
  refine ⟨b, off + p, by simp [Addr.add_lit], hb, x, c, ?_⟩
  rw [Nat.add_assoc]; exact h

/-- behind a call that was handed a new box -/
theorem after_box {w w1 : World} {o : Obj} {a : Option Addr} {n : Nat} {L : Nat → Nat} (hF : LRow w w.heap.size a n L) (hb : Below (w.alloc o).heap.size (w.alloc o) w1) :
    LRow w1 w1.heap.size a n L ∧ Below w.heap.size w w1 := by
  have h := (bel1 w o).trans (hb.mono (bel1 w o).size)
  exact ⟨(hF.later h).mono h.size, h⟩

set_option maxHeartbeats 1600000 in
set_option maxRecDepth 100000 in
theorem law3 (lane pos : Int) (a : Option Addr) (n cap : Nat) (L : Nat → Nat) (kk : Int) (w : World) (hn : n ≤ maxLen) (hcap : n ≤ cap) (hp0 : 0 ≤ pos) (hp1 : pos < 18446744073709551616) (hF : LRow w w.heap.size a n L) :
    Calls Try.prog 3 #[.int .i64 lane, .int .u64 pos, .slice a n cap, .int .i64 kk] w (lawPost w) := by
  have HN : Hid (n ≤ maxLen) := hn
  clear hn
  go_enter Try.func3, Try.ntmps3
  go_wp2_with fail
  refine (bytes5_any lane pos kk a n cap _ L _ HN.out hF).mono ?_
  rintro e w1 ⟨b, rfl, hbs, rfl⟩
  cases b
  · go_wp2_with fail
    go_ret
    exact ⟨rfl, Below.refl _ _⟩
  have hns := hbs rfl
  clear hbs HN
  by_cases hn1 : 131072 < n
  · go_wp2_with fail
    go_ret
    exact ⟨rfl, Below.refl _ _⟩
  have hn2 : n ≤ 131072 := by omega
  have hs2 : sumL L n ≤ 1048576 := by omega
  clear hn1 hns
  go_wp2_with fail
  go_loopg [9, 10] n (fun f t i wr => ∃ k : Nat, k + f = n ∧ i = .int .i64 k ∧ t = .int .i64 ((8 * n + sumL L k : Nat) : Int) ∧ w = wr)
  case atStart => exact ⟨0, by omega, rfl, by simp [sumL], rfl⟩
  case round =>
    obtain ⟨i, hkf, rfl, rfl, rfl⟩ := hrel
    have HK : Hid (i + gk = n) := hkf
    have hi : i ≤ n := by omega
    have hsi := sumL_mono L hi
    clear hkf
    by_cases hlt : i < n
    · obtain ⟨b, off, rfl, _, x, c, hc⟩ := hF i hlt
      have hs1 := sumL_mono L (show i + 1 ≤ n from hlt)
      have HS : Hid (sumL L (i + 1) = sumL L i + L i) := rfl
      have hlk : L i ≤ 1048576 := by have := HS.out; omega
      clear hs1
      go_wp2_with fail
      · go_ret
        exact ⟨rfl, Below.refl _ _⟩
      · go_roundg (gk - 1)
        case measure => have := HK.out; omega
        case rel => exact ⟨i + 1, by have := HK.out; omega, by go_num, by have := HS.out; go_num, rfl⟩
    · have hin : i = n := by omega
      subst hin
      clear hlt hi hsi HK
      by_cases hk : kk < 0 ∨ (i : Int) < kk
      · rcases hk with hk | hk
        all_goals
          go_wp2_with fail
          go_ret
          exact ⟨rfl, Below.refl _ _⟩
      obtain ⟨k, rfl⟩ := Int.eq_ofNat_of_zero_le (show 0 ≤ kk by omega)
      have hk1 : k ≤ i := by omega
      clear hk
      obtain ⟨A1, hA1, hA1F⟩ := cut_row a i cap k L hcap
      have hkc : k ≤ cap := by omega
      have hsk := sumL_mono L hk1
      have hcutS := sumL_cut L k (i - k)
      rw [show k + (i - k) = i from by omega] at hcutS
      have HCS : Hid (sumL (fun j => L (k + j)) (i - k) + sumL L k = sumL L i) := hcutS
      clear hcutS
      go_wp2_with fail
      refine (off_any _ lane pos a i cap L _ (by omega) (by omega) hp0 hp1 (by simp) (by simp) (by simp) ((hF.later (bel1 _ _)).mono (by simp))).mono ?_
      rintro e w1 ⟨g1, rfl, hO1, hb1⟩
      obtain ⟨hF1, hbw1⟩ := after_box hF hb1
      clear hb1 hF
      go_wp2_with fail
      refine (off_any _ lane pos a k cap L _ (by omega) (by omega) hp0 hp1 (by simp) (by simp) (by simp) (((hF1.later (bel1 _ _)).mono (by simp)).less hk1)).mono ?_
      rintro e w2 ⟨g2, rfl, hO2, hb2⟩
      obtain ⟨hF2, hbw2⟩ := after_box hF1 hb2
      replace hO1 := hO1.later hbw2
      replace hbw2 := hbw1.trans (hbw2.mono hbw1.size)
      clear hb2 hF1 hbw1
      go_wp2_with fail
      refine (off_any _ lane pos A1 (i - k) (cap - k) (fun j => L (k + j)) _ (by omega) (by have := HCS.out; omega) hp0 hp1 (by simp) (by simp) (by simp) (((hA1F _ _ hF2).later (bel1 _ _)).mono (by simp))).mono ?_
      rintro e w3 ⟨g3, rfl, hO3, hb3⟩
      obtain ⟨hF3, hbw3⟩ := after_box hF2 hb3
      replace hO1 := hO1.later hbw3
      replace hO2 := hO2.later hbw3
      replace hbw3 := hbw2.trans (hbw3.mono hbw2.size)
      clear hb3 hF2 hbw2 hA1 hA1F
      obtain ⟨hU0, hU1⟩ := wrapU_bd lane
      generalize hU : IntKind.u64.wrap lane = U at *
      have hlen : ((i - k : Nat) : Int) = (i : Int) - (k : Int) := by omega
      go_wp2_with fail
      refine (uvar_any U _ hU0 hU1).mono ?_
      rintro e _ ⟨rfl, rfl⟩
      have b1 := ulen_bd U
      have b2 := ulen_bd pos
      go_wp2_with fail
      refine (uvar_any pos _ hp0 hp1).mono ?_
      rintro e _ ⟨rfl, rfl⟩
      go_upto_if 111 with (fail)
      have bI := ulen_bd i
      go_cut [] (fun wx => Below w3.heap.size w3 wx)
      case first =>
        by_cases hi0 : 0 < i
        · obtain ⟨m, hm⟩ : ∃ m, i = m + 1 := ⟨i - 1, by omega⟩
          have HM : Hid (i = m + 1) := hm
          have hmi : (i : Int) - 1 = (m : Int) := by omega
          have hmw : IntKind.i64.wrap (m : Int) = (m : Int) := i64w _ (by omega) (by omega)
          have hm0 : (0 : Int) ≤ (m : Int) := Int.natCast_nonneg _
          have hm1 : (m : Int) < (i : Int) := by omega
          have hUi : IntKind.u64.wrap (i : Int) = (i : Int) := IntWalk.u64_in _ ⟨by omega, by omega⟩
          clear hm
          go_wp2_with fail
          go_loopg [16, 17] i (fun f t x wr => ∃ j : Nat, j + f = i ∧ x = .int .i64 j ∧ t = .int .i64 ((sumL L j : Nat) : Int) ∧ w3 = wr)
          case atStart => exact ⟨0, by omega, rfl, by simp [sumL], rfl⟩
          case round =>
            obtain ⟨j, hjf, rfl, rfl, rfl⟩ := hrel
            have HK : Hid (j + gk = i) := hjf
            have hj : j ≤ i := by omega
            have hsj := sumL_mono L hj
            clear hjf
            by_cases hlt : j < i
            · obtain ⟨b, off, rfl, _, x, c, hc⟩ := hF3 j hlt
              have hs1 := sumL_mono L (show j + 1 ≤ i from hlt)
              have HS : Hid (sumL L (j + 1) = sumL L j + L j) := rfl
              have hlk : L j ≤ 1048576 := by have := HS.out; omega
              clear hs1
              go_wp2_with fail
              go_roundg (gk - 1)
              case measure => have := HK.out; omega
              case rel => exact ⟨j + 1, by have := HK.out; omega, by go_num, by have := HS.out; go_num, rfl⟩
            · obtain rfl : j = i := by omega
              clear hlt hj hsj HK
              obtain ⟨b, off, rfl, _, x, c, hc⟩ := hF3 m (by omega)
              have ho := hO1 m (by omega)
              have hne := end_eq L m j (1 + ulen U + ulen pos) (ulen j) HM.out (by omega) (by omega) (by omega) (by omega)
              go_wp2_with fail
              go_region_held3 (fun w' => w'.cell? ⟨g1, m, .none⟩ = some (.int .i64 (offI (1 + ulen U + ulen pos + ulen j) L m)) ∧ w'.cell? ⟨b, off + m, .none⟩ = some (.slice x (L m) c)) (go_keep)
                (first | (go_at_call 7; refine (uvar_any _ _ (by omega) (by omega)).mono ?_; rintro e _ ⟨rfl, rfl⟩))
              go_wp2_with fail
              go_meet
              case rel => exact (Below.refl _ _).drew
        · go_wp2_with fail
          go_meet
          case rel => exact Below.refl _ _
      case rest =>
        replace hF3 := hF3.later hcut
        have hwz := hcut.size
        replace hO1 := hO1.later hcut
        replace hO2 := hO2.later hcut
        replace hO3 := hO3.later hcut
        replace hbw3 := hbw3.trans (hcut.mono hbw3.size)
        clear hcut
        have hUi : IntKind.u64.wrap (i : Int) = (i : Int) := IntWalk.u64_in _ ⟨by omega, by omega⟩
        have hUk : IntKind.u64.wrap (k : Int) = (k : Int) := IntWalk.u64_in _ ⟨by omega, by omega⟩
        have hUd : IntKind.u64.wrap ((i : Int) - (k : Int)) = (i : Int) - (k : Int) := IntWalk.u64_in _ ⟨by omega, by omega⟩
        have bK := ulen_bd k
        have bD := ulen_bd ((i : Int) - (k : Int))
        rw [hlen] at hO3
        go_wp2_with fail
        refine (uvar_any (i : Int) _ (by omega) (by omega)).mono ?_
        rintro e _ ⟨rfl, rfl⟩
        go_wp2_with fail
        refine (uvar_any (k : Int) _ (by omega) (by omega)).mono ?_
        rintro e _ ⟨rfl, rfl⟩
        go_wp2_with fail
        go_loopg [19] k (fun f x wr => ∃ j : Nat, j + f = k ∧ x = .int .i64 j ∧ Below wc.heap.size wc wr)
        case atStart => exact ⟨0, by omega, rfl, Below.refl _ _⟩
        case round =>
          obtain ⟨j, hjf, rfl, hb⟩ := hrel
          have HK : Hid (j + gk = k) := hjf
          have hj : j ≤ k := by omega
          clear hjf
          by_cases hlt : j < k
          · have o1 := cell_later hb (hO1 j (by omega))
            have o2 := cell_later hb (hO2 j (by omega))
            have hj0 : (0 : Int) ≤ (j : Int) := Int.natCast_nonneg _
            have hj1 : (j : Int) < (k : Int) := by omega
            have hj2 : (j : Int) < (i : Int) := by omega
            have hsj := sumL_mono L (show j ≤ k from hj)
            have hne := pre_eq L j (1 + ulen U + ulen pos) (ulen i) (ulen k) (by omega) (by omega) (by omega) (by omega)
            clear hsj
            go_wp2_with fail
            go_region_held3 (fun w' => w'.cell? ⟨g1, j, .none⟩ = some (.int .i64 (offI (1 + ulen U + ulen pos + ulen i) L j)) ∧ w'.cell? ⟨g2, j, .none⟩ = some (.int .i64 (offI (1 + ulen U + ulen pos + ulen k) L j))) (go_keep) (fail)
            go_wp2_with fail
            go_roundg (gk - 1)
            case measure => have := HK.out; omega
            case rel => exact ⟨j + 1, by have := HK.out; omega, by go_num, hb.drew⟩
          · obtain rfl : k = j := by omega
            clear hlt hj HK hUk
            replace hO1 := hO1.later hb
            replace hO3 := hO3.later hb
            replace hF3 := (hF3.later (hb.mono hwz)).mono (Nat.le_trans hwz hb.size)
            replace hbw3 := hbw3.trans (hb.mono hbw3.size)
            clear hO2 hb
            go_wp2_with fail
            go_loopg [20, 21] k (fun f t x wy => ∃ j : Nat, j + f = k ∧ x = .int .i64 j ∧ t = .int .i64 (4 * (j : Int) + (sumL L j : Int)) ∧ wr = wy)
            case atStart => exact ⟨0, by omega, rfl, by simp [sumL], rfl⟩
            case round =>
              obtain ⟨j, hjf, rfl, rfl, rfl⟩ := hrel
              have HK : Hid (j + gk = k) := hjf
              have hj : j ≤ k := by omega
              have hsj := sumL_mono L hj
              clear hjf
              by_cases hlt : j < k
              · obtain ⟨b, off, rfl, _, x, c, hc⟩ := hF3 j (by omega)
                have hs1 := sumL_mono L (show j + 1 ≤ k from hlt)
                have HS : Hid (sumL L (j + 1) = sumL L j + L j) := rfl
                have hlk : L j ≤ 1048576 := by have := HS.out; omega
                clear hs1
                go_wp2_with fail
                go_roundg (gk - 1)
                case measure => have := HK.out; omega
                case rel => exact ⟨j + 1, by have := HK.out; omega, by go_num, by have := HS.out; go_num, rfl⟩
              · obtain rfl : k = j := by omega
                clear hlt hj HK hsj hF3
                go_wp2_with fail
                refine (uvar_any (i : Int) _ (by omega) (by omega)).mono ?_
                rintro e _ ⟨rfl, rfl⟩
                go_wp2_with fail
                refine (uvar_any ((i : Int) - (k : Int)) _ (by omega) (by omega)).mono ?_
                rintro e _ ⟨rfl, rfl⟩
                clear hUi hUd
                go_wp2_with fail
                go_loopg [23] (i - k) (fun f x wy => ∃ j : Nat, j + f = i ∧ k ≤ j ∧ x = .int .i64 j ∧ Below wr.heap.size wr wy)
                case atStart => exact ⟨k, by omega, Nat.le_refl _, rfl, Below.refl _ _⟩
                case round =>
                  obtain ⟨j, hjf, hkj, rfl, hb⟩ := hrel
                  have HK : Hid (j + gk = i) := hjf
                  have hj : j ≤ i := by omega
                  clear hjf
                  by_cases hlt : j < i
                  · obtain ⟨t, ht⟩ : ∃ t, j = k + t := ⟨j - k, by omega⟩
                    have o1 := cell_later hb (hO1 j (by omega))
                    have o3 := cell_later hb (hO3 t (by omega))
                    have hj0 : (0 : Int) ≤ (j : Int) := Int.natCast_nonneg _
                    have hj2 : (j : Int) < (i : Int) := by omega
                    have ht0 : (0 : Int) ≤ (t : Int) := Int.natCast_nonneg _
                    have ht1 : (t : Int) < (i : Int) - (k : Int) := by omega
                    have hjt : (j : Int) - (k : Int) = (t : Int) := by omega
                    have hwt : IntKind.i64.wrap (t : Int) = (t : Int) := i64w _ (by omega) (by omega)
                    have hsj := sumL_mono L (show j ≤ i from hj)
                    have hne := suf_eq L k t j (1 + ulen U + ulen pos) (ulen i) (ulen ((i : Int) - (k : Int))) ht (by omega) (by omega) (by omega) (by omega)
                    clear hsj ht
                    go_wp2_with fail
                    go_region_held3 (fun w' => w'.cell? ⟨g1, j, .none⟩ = some (.int .i64 (offI (1 + ulen U + ulen pos + ulen i) L j)) ∧ w'.cell? ⟨g3, t, .none⟩ = some (.int .i64 (offI (1 + ulen U + ulen pos + ulen ((i : Int) - (k : Int))) (fun x => L (k + x)) t))) (go_keep) (fail)
                    go_wp2_with fail
                    go_roundg (gk - 1)
                    case measure => have := HK.out; omega
                    case rel => exact ⟨j + 1, by have := HK.out; omega, by omega, by go_num, hb.drew⟩
                  · go_wp2_with fail
                    go_ret
                    exact ⟨rfl, hbw3.trans (hb.mono hbw3.size)⟩

end Go.Proofs.Qxb6628553a
