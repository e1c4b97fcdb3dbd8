/-
  THE LAW FnParamsStringSplitsAtAnyCut (3), walked.
-/
import Derived.Test.Qxb6628603aWalkC
namespace Go.Proofs.Qxb6628603a
open Go.RowKit

def lawPost (w : World) (e : Ending) (w' : World) : Prop := e = .returned (.bool true) ∧ Below w.heap.size w w'

theorem frow_cut {w : World} {g n k : Nat} {N V : Nat → ByteArray} (h : FRow w (some ⟨g, 0, .none⟩) n N V) (m : Nat) (hm : k + m ≤ n) : FRow w (some ⟨g, k * 2, .none⟩) m (fun i => N (k + i)) (fun i => V (k + i)) := by
  intro i hi
  obtain ⟨b, off, e, h1, h2⟩ := h (k + i) (by omega)
  simp at e
  obtain ⟨rfl, rfl⟩ := e
  refine ⟨g, k * 2, rfl, ?_, ?_⟩
  · rw [← h1]; congr 2; omega
  · rw [← h2]; congr 2; omega
theorem frow_zero {w : World} {a : Option Addr} (N V : Nat → ByteArray) : FRow w a 0 N V := fun i hi => absurd hi (by omega)

set_option maxHeartbeats 800000 in
theorem law3 (a : Option Addr) (n cap : Nat) (N V : Nat → ByteArray) (kk : Int) (w : World) (hn : n ≤ maxLen) (hF : FRow w a n N V) :
    Calls Try.prog 3 #[.slice a n cap, .int .i64 kk] w (lawPost w) := by
  have HN : Hid (n ≤ maxLen) := hn
  clear hn
  go_enter Try.func3, Try.ntmps3
  go_wp2_with fail
  refine (bytes5_any a n cap kk N V _ HN.out hF).mono ?_
  rintro e w1 ⟨b, rfl, hbs, rfl⟩
  cases b
  · go_wp2_with fail
    go_ret
    exact ⟨rfl, Below.refl _ _⟩
  have hns := hbs rfl
  clear hbs HN
  have hn2 : n ≤ 1048576 := by omega
  have htn := txt_length N V n
  have htn2 : (txt N V n).length ≤ 4194304 := by omega
  have hsz : szs N V n ≤ 1048576 := by omega
  clear hns htn
  go_wp2_with fail
  refine (big_any a n cap N V _ hn2 hF).mono ?_
  rintro e w1 ⟨b, rfl, hb1⟩
  have hF1 := hF.later hb1
  clear hF
  cases b
  case true =>
    go_wp2_with fail
    go_ret
    exact ⟨rfl, hb1⟩
  by_cases hk : kk < 0 ∨ (n : Int) < kk
  · rcases hk with hk | hk
    all_goals
      go_wp2_with fail
      go_ret
      exact ⟨rfl, hb1⟩
  obtain ⟨k, rfl⟩ := Int.eq_ofNat_of_zero_le (show 0 ≤ kk by omega)
  have hk1 : k ≤ n := by omega
  clear hk
  go_wp2_with fail
  refine (to_any a n cap N V _ hn2 hF1).mono ?_
  rintro e w2 ⟨g, rfl, hQ, hb2⟩
  have hF2 := hF1.later hb2
  have hbw2 := hb1.trans (hb2.mono hb1.size)
  clear hF1 hb1 hb2
  go_wp2_with fail
  refine (string8_any _ n n N V _ hn2 (by omega) hQ).mono ?_
  rintro e w3 ⟨whole, rfl, hwh, hb3⟩
  have HW : Hid (whole.data.toList = txt N V n) := hwh
  have hF3 := hF2.later hb3
  have hQ3 := hQ.later hb3
  have hbw3 := hbw2.trans (hb3.mono hbw2.size)
  clear hwh hF2 hQ hbw2 hb3
  have htk := txt_mono N V hk1
  go_wp2_with fail
  refine (string8_any _ k n N V _ (by omega) (by omega) (hQ3.less hk1)).mono ?_
  rintro e w4 ⟨left, rfl, hle, hb4⟩
  have HL : Hid (left.data.toList = txt N V k) := hle
  have hF4 := hF3.later hb4
  have hQ4 := hQ3.later hb4
  have hbw4 := hbw3.trans (hb4.mono hbw3.size)
  clear hle hF3 hQ3 hbw3 hb4
  by_cases hkn : k = n
  · subst hkn
    have hE : (whole.toList == left.toList) = true := str_eq.2 (bytes_ext (by rw [HW.out, HL.out]))
    go_wp2_with fail
    refine (string8_any _ 0 0 N V _ (by omega) (by simp [txt]) (frow_zero N V)).mono ?_
    rintro e w5 ⟨s5, rfl, hs5, hb5⟩
    have hE5 : s5.toList.isEmpty = true := by rw [ByteArray.toList_eq, hs5]; rfl
    have hbw5 := hbw4.trans (hb5.mono hbw4.size)
    clear hs5 hb5
    go_wp2_with fail
    go_ret
    exact ⟨rfl, hbw5⟩
  · have hlt : k < n := by omega
    have hE0 : ((k : Int) == (n : Int)) = false := by simpa using (by omega : ¬ (k : Int) = (n : Int))
    have hcut1 := txt_cut N V k 1
    have hcut2 := txt_cut N V (k + 1) (n - (k + 1))
    rw [show k + 1 + (n - (k + 1)) = n from by omega] at hcut2
    have hsk := szs_mono N V (show k + 1 ≤ n from hlt)
    have hNk : (N k).size ≤ 1048576 ∧ (V k).size ≤ 1048576 := by
      have e : szs N V (k + 1) = szs N V k + (N k).size + (V k).size := rfl
      omega
    have l1 := congrArg List.length hcut1
    have l2 := congrArg List.length hcut2
    rw [List.length_append] at l1 l2
    have ht1 := txt_mono N V (show k + 1 ≤ n from hlt)
    have lm : (txt (fun i => N (k + i)) (fun i => V (k + i)) 1).length ≤ 1073741824 := by omega
    have lr : (txt (fun i => N (k + 1 + i)) (fun i => V (k + 1 + i)) (n - (k + 1))).length ≤ 1073741824 := by omega
    have HCUT : Hid (txt N V n = txt N V k ++ txt (fun i => N (k + i)) (fun i => V (k + i)) 1 ++ txt (fun i => N (k + 1 + i)) (fun i => V (k + 1 + i)) (n - (k + 1))) := by
      rw [hcut1]; exact hcut2.symm
    clear hcut1 hcut2 l1 l2 ht1 hsk
    go_wp2_with fail
    refine (string8_any _ 1 (n - k) (fun i => N (k + i)) (fun i => V (k + i)) _ (by omega) lm (frow_cut hQ4 1 (by omega))).mono ?_
    rintro e w5 ⟨mid, rfl, hmi, hb5⟩
    have HM : Hid (mid.data.toList = txt (fun i => N (k + i)) (fun i => V (k + i)) 1) := hmi
    have hF5 := hF4.later hb5
    have hQ5 := hQ4.later hb5
    have hbw5 := hbw4.trans (hb5.mono hbw4.size)
    clear hmi hF4 hQ4 hbw4 hb5
    have hsl : left.size + mid.size ≤ 1073741824 := by
      have e := HCUT.out
      have l := congrArg List.length e
      rw [List.length_append, List.length_append, ← HL.out, ← HM.out, ← size_len, ← size_len] at l
      omega
    have hrs : ∀ right : ByteArray, right.data.toList = txt (fun i => N (k + 1 + i)) (fun i => V (k + 1 + i)) (n - (k + 1)) → right.size ≤ 1073741824 := by
      intro right h
      rw [size_len, h]; exact lr
    have hwhole : ∀ right : ByteArray, right.data.toList = txt (fun i => N (k + 1 + i)) (fun i => V (k + 1 + i)) (n - (k + 1)) → (whole.toList == (left ++ mid ++ right).toList) = true := by
      intro right h
      refine str_eq.2 (bytes_ext ?_)
      rw [app_data, app_data, HW.out, HL.out, HM.out, h]
      exact HCUT.out
    have hmid : ∀ o : ByteArray, o.data.toList = one (N k) (V k) → (mid.toList == o.toList) = true := by
      intro o h
      refine str_eq.2 (bytes_ext ?_)
      rw [HM.out, h]
      simp [txt]
    have HWH := show Hid _ from hwhole
    have HMI := show Hid _ from hmid
    have HRS := show Hid _ from hrs
    clear HW HL HM HCUT hwhole hmid hrs htk htn2 hsz lm
    by_cases hl : n = k + 1
    case' pos =>
      subst hl
      go_wp2_with fail
      refine (string8_any _ 0 0 (fun i => N (k + 1 + i)) (fun i => V (k + 1 + i)) _ (by omega) (by simp [txt]) (frow_zero _ _)).mono ?_
      rintro e w6 ⟨right, rfl, hri, hb6⟩
      rw [show (0 : Nat) = k + 1 - (k + 1) from by omega] at hri
    case' neg =>
      go_wp2_with fail
      refine (string8_any _ (n - (k + 1)) (n - (k + 1)) (fun i => N (k + 1 + i)) (fun i => V (k + 1 + i)) _ (by omega) lr (frow_cut hQ5 _ (by omega))).mono ?_
      rintro e w6 ⟨right, rfl, hri, hb6⟩
    all_goals
      have hE1 := HWH.out right hri
      have hrsz := HRS.out right hri
      obtain ⟨b, off, rfl, hc, hd⟩ := hF5.later hb6 k (by omega)
      have hbw6 := hbw5.trans (hb6.mono hbw5.size)
      clear hri hb6 hQ5 hF5 hbw5
      go_wp2_with fail
      refine (one_any (N k) (V k) _ hNk.1 hNk.2).mono ?_
      rintro e w7 ⟨o, rfl, ho, hb7⟩
      have hE2 := HMI.out o ho
      have hbw7 := hbw6.trans (hb7.mono hbw6.size)
      clear ho hb7
      go_wp2_with fail
      go_ret
      exact ⟨rfl, hbw7⟩

end Go.Proofs.Qxb6628603a
