/-
  THE LAW FnParamsStringParsesBack (4), walked.
-/
import Derived.Test.Qxb6628603aWalkD
import Derived.Test.Qxb6628603aLaw3
namespace Go.Proofs.Qxb6628603a
open Go.RowKit

theorem has59 (s : ByteArray) (w : World) (hs : s.size ≤ 1048576) : Calls Try.prog 11 #[.string s, .int .u8 59] w (hasPost s 59 w) := has_any s 59 59 rfl w hs
theorem has61 (s : ByteArray) (w : World) (hs : s.size ≤ 1048576) : Calls Try.prog 11 #[.string s, .int .u8 61] w (hasPost s 61 w) := has_any s 61 61 rfl w hs

def Clean (N V : Nat → ByteArray) (k : Nat) : Prop := ∀ t, t < k → ¬ hasB (N t) 59 ∧ ¬ hasB (N t) 61 ∧ ¬ hasB (V t) 59
theorem Clean.goOn {N V : Nat → ByteArray} {k : Nat} (h : Clean N V k) (h1 : ¬ hasB (N k) 59) (h2 : ¬ hasB (N k) 61) (h3 : ¬ hasB (V k) 59) : Clean N V (k + 1) := by
  intro t ht
  rcases Nat.lt_or_ge t k with h' | h'
  · exact h t h'
  · obtain rfl : t = k := by omega
    exact ⟨h1, h2, h3⟩

set_option maxHeartbeats 1600000 in
set_option maxRecDepth 100000 in
theorem law4 (a : Option Addr) (n cap : Nat) (N V : Nat → ByteArray) (w : World) (hn : n ≤ maxLen) (hF : FRow w a n N V) :
    Calls Try.prog 4 #[.slice a n cap] w (lawPost w) := by
  have HN : Hid (n ≤ maxLen) := hn
  clear hn
  go_enter Try.func4, Try.ntmps4
  go_wp2_with fail
  refine (bytes10_any a n cap N V _ HN.out hF).mono ?_
  rintro e w1 ⟨b, rfl, hbs, rfl⟩
  cases b
  · go_wp2_with fail
    go_ret
    exact ⟨rfl, Below.refl _ _⟩
  have hns := hbs rfl
  clear hbs HN
  have hn2 : n ≤ 1048576 := by omega
  have htn := txt_length N V n
  have htn2 : (txt N V n).length ≤ 4194304 := by omega
  have hsz : szs N V n ≤ 1048576 := by omega
  clear hns htn
  go_wp2_with fail
  refine (big_any a n cap N V _ hn2 hF).mono ?_
  rintro e w1 ⟨b, rfl, hb1⟩
  have hF1 := hF.later hb1
  clear hF
  cases b
  case true =>
    go_wp2_with fail
    go_ret
    exact ⟨rfl, hb1⟩
  go_wp2_with fail
  go_loopg [3] n (fun f i wr => ∃ k : Nat, k + f = n ∧ i = .int .i64 k ∧ Clean N V k ∧ w1 = wr)
  case atStart => exact ⟨0, by omega, rfl, fun t h => by omega, rfl⟩
  case round =>
    obtain ⟨k, hkf, rfl, hcl, rfl⟩ := hrel
    have HK : Hid (k + gk = n) := hkf
    have hk : k ≤ n := by omega
    clear hkf
    by_cases hlt : k < n
    · obtain ⟨b, off, rfl, hc, hd⟩ := hF1 k hlt
      have hsk := szs_mono N V (show k + 1 ≤ n from hlt)
      have hNk : (N k).size ≤ 1048576 ∧ (V k).size ≤ 1048576 := by
        have e : szs N V (k + 1) = szs N V k + (N k).size + (V k).size := rfl
        omega
      clear hsk
      go_wp2_with fail
      refine (has59 (N k) _ hNk.1).mono ?_
      rintro e _ ⟨x1, rfl, hx1, rfl⟩
      cases x1
      case true =>
        go_wp2_with fail
        go_ret
        exact ⟨rfl, hb1⟩
      have h1 := hx1 rfl
      clear hx1
      go_wp2_with fail
      refine (has61 (N k) _ hNk.1).mono ?_
      rintro e _ ⟨x2, rfl, hx2, rfl⟩
      cases x2
      case true =>
        go_wp2_with fail
        go_ret
        exact ⟨rfl, hb1⟩
      have h2 := hx2 rfl
      clear hx2
      go_wp2_with fail
      refine (has59 (V k) _ hNk.2).mono ?_
      rintro e _ ⟨x3, rfl, hx3, rfl⟩
      cases x3
      case true =>
        go_wp2_with fail
        go_ret
        exact ⟨rfl, hb1⟩
      have h3 := hx3 rfl
      clear hx3
      have hcl' := hcl.goOn h1 h2 h3
      clear hcl h1 h2 h3
      go_wp2_with fail
      go_roundg (gk - 1)
      case measure => have := HK.out; omega
      case rel => exact ⟨k + 1, by have := HK.out; omega, by go_num, hcl', rfl⟩
    · obtain rfl : n = k := by omega
      clear hlt hk HK hsz
      go_wp2_with fail
      refine (to_any a n cap N V _ hn2 hF1).mono ?_
      rintro e w2 ⟨g, rfl, hQ, hb2⟩
      have hF2 := hF1.later hb2
      have hbw2 := hb1.trans (hb2.mono hb1.size)
      clear hF1 hb1 hb2
      go_wp2_with fail
      refine (string8_any _ n n N V _ hn2 (by omega) hQ).mono ?_
      rintro e w3 ⟨s, rfl, hs, hb3⟩
      have HS : Hid (s.data.toList = txt N V n) := hs
      have hss : s.size ≤ 8388608 := by rw [size_len, hs]; omega
      have hF3 := hF2.later hb3
      have hbw3 := hbw2.trans (hb3.mono hbw2.size)
      clear hs hF2 hQ hbw2 hb3 htn2
      go_wp2_with fail
      refine (parse_any s n N V _ hn2 hss HS.out hcl).mono ?_
      rintro e w4 ⟨ga, gcap, rfl, hG, hb4⟩
      have hF4 := hF3.later hb4
      have hbw4 := hbw3.trans (hb4.mono hbw3.size)
      clear hF3 hbw3 hb4 HS hss hcl
      go_wp2_with fail
      go_loopg [7] n (fun f i wr => ∃ k : Nat, k + f = n ∧ i = .int .i64 k ∧ Below w4.heap.size w4 wr)
      case atStart => exact ⟨0, by omega, rfl, Below.refl _ _⟩
      case round =>
        obtain ⟨k, hkf, rfl, hb⟩ := hrel
        have HK : Hid (k + gk = n) := hkf
        have hk : k ≤ n := by omega
        clear hkf
        by_cases hlt : k < n
        · obtain ⟨b, off, rfl, hc, hd⟩ := hF4.later hb k hlt
          obtain ⟨b2, off2, rfl, hc2, hd2⟩ := hG.later hb k hlt
          have hk0 : (0 : Int) ≤ (k : Int) := Int.natCast_nonneg _
          have hk1 : (k : Int) < (n : Int) := by omega
          go_wp2_with fail
          go_region_held3 (fun w' => w'.cell? ⟨b, off + k * 2, .none⟩ = some (.string (N k)) ∧ w'.cell? ⟨b, off + k * 2 + 1, .none⟩ = some (.string (V k)) ∧ w'.cell? ⟨b2, off2 + k * 2, .none⟩ = some (.string (N k)) ∧ w'.cell? ⟨b2, off2 + k * 2 + 1, .none⟩ = some (.string (V k))) (go_keep) (fail)
          go_wp2_with fail
          go_roundg (gk - 1)
          case measure => have := HK.out; omega
          case rel => exact ⟨k + 1, by have := HK.out; omega, by go_num, hb.drew⟩
        · go_wp2_with fail
          go_ret
          exact ⟨rfl, hbw4.trans (hb.mono hbw4.size)⟩

end Go.Proofs.Qxb6628603a
