/-
  WALK: zzParse (12) over a text that String has written.
-/
import Derived.Test.Qxb6628603aPlain
import Derived.Deep.AppendLies
namespace Go.Proofs.Qxb6628603a
open Go.RowKit

theorem info31 : (Try.prog.info? 31).map (fun i => (i.zero, i.size, i.bytes)) = some (some (.agg #[.string ⟨#[]⟩, .string ⟨#[]⟩]), 2, 32) := by kernel_rfl

def parsePost (n : Nat) (N V : Nat → ByteArray) (w : World) (e : Ending) (w' : World) : Prop :=
  ∃ a cap, e = .returned (.tuple #[.slice a n cap, .bool true]) ∧ FRow w' a n N V ∧ Below w.heap.size w w'

theorem step_rel {w wr wx w1 : World} {v : Value} {g1 c1 m : Nat} {N V : Nat → ByteArray} (hb : Below w.heap.size w wx)
    (hown : wr.ownsRow w.heap.size 31 2 v m (pairs N V m))
    (hown1 : w1.ownsRow w.heap.size 31 2 (.slice (some ⟨g1, 0, .none⟩) (m + 1) c1) (m + 1) (pairs N V m ++ [.string (N m), .string (V m)]))
    (hg : wx.grownBy w1 v.ownBlock) :
    w1.ownsRow w.heap.size 31 2 (.slice (some ⟨g1, 0, .none⟩) (m + 1) c1) (m + 1) (pairs N V (m + 1)) ∧ Below w.heap.size w w1 :=
  ⟨hown1, hb.grown hg hb.size (fun k hk => (hown.lt k hk).1)⟩

theorem two_new (wr : World) (o : Obj) (x y : Value) : ∀ j u, [x, y][j]? = some u → ((wr.alloc o).alloc (.cells #[x, y] 31)).cell? ((⟨wr.heap.size + 1, 0, .none⟩ : Addr).add j) = some u := by
  intro j u hj
  have h : ((wr.alloc o).alloc (.cells #[x, y] 31)).heap[wr.heap.size + 1]? = some (.cells #[x, y] 31 (0, 0)) := by
    have := heap_alloc_new (wr.alloc o) (.cells #[x, y] 31)
    simpa using this
  exact World.news_of_block h j u (by simpa using hj)

set_option maxHeartbeats 1600000 in
set_option maxRecDepth 100000 in
theorem parse_any (s : ByteArray) (n : Nat) (N V : Nat → ByteArray) (w : World) (hn : n ≤ 1048576) (hsz : s.size ≤ 8388608) (hs : s.data.toList = txt N V n)
    (hcl : ∀ t, t < n → ¬ hasB (N t) 59 ∧ ¬ hasB (N t) 61 ∧ ¬ hasB (V t) 59) :
    Calls Try.prog 12 #[.string s] w (parsePost n N V w) := by
  obtain ⟨it, hi, hz0, hz1, hz2⟩ := info_parts info31
  have HS : Hid (s.data.toList = txt N V n) := hs
  have HCL : Hid (∀ t, t < n → ¬ hasB (N t) 59 ∧ ¬ hasB (N t) 61 ∧ ¬ hasB (V t) 59) := hcl
  clear hs hcl
  by_cases hn0 : n = 0
  · have h0 : s.size = 0 := by rw [size_len, HS.out, hn0]; rfl
    subst hn0
    have hE : ((s.size : Int) == 0) = true := by rw [h0]; rfl
    clear h0
    go_enter Try.func12, Try.ntmps12
    go_wp2_with fail
    go_ret2
    exact ⟨none, 0, rfl, fun i h => absurd h (by omega), Below.refl _ _⟩
  · have hpos : 0 < n := by omega
    obtain ⟨rest, hT, _, _⟩ := text_at HS.out hpos
    have hs0 : 0 < s.size := by rw [size_len, hT]; simp; omega
    have hE : ((s.size : Int) == 0) = false := by simpa using (by omega : ¬ (s.size : Int) = 0)
    have hb0 : ((s[0].toNat : Int) != 59) = false := byte_eq (c := 59) hs0 (by rw [hT]; rfl)
    clear hT
    go_enter Try.func12, Try.ntmps12
    go_wp2_with fail
    go_loopg [4, 5] n (fun f v x wr => ∃ t i : Nat, t + f = n ∧ 0 < f ∧ i = (txt N V t).length + 1 ∧ x = .int .i64 i ∧ wr.ownsRow w.heap.size 31 2 v t (pairs N V t) ∧ Below w.heap.size w wr)
    case atStart => exact ⟨0, 1, by omega, by omega, rfl, rfl, World.ownsRow_nil _ _ _ _, Below.refl _ _⟩
    case round =>
      obtain ⟨t, i, htf, hf0, hit, rfl, hown, hb⟩ := hrel
      have ht : t < n := by omega
      obtain ⟨cl1, cl2, cl3⟩ := HCL.out t ht
      obtain ⟨j0, hj0, p1, p2, p3, p4, p5, p6⟩ := piece HS.out ht cl1 cl3
      rw [← hit] at p1 p3 p4
      have HT : Hid (t + gk = n ∧ (txt N V (t + 1)).length = j0) := ⟨htf, hj0⟩
      have HP3 : Hid (∀ j, ∀ h : j < s.size, i ≤ j → j < j0 → ((s[j].toNat : Int) != 59) = true) := p3
      have HP4 : Hid ((s.extract i j0).data.toList = bd (N t) (V t)) := p4
      have HP5 : Hid (t + 1 = n → j0 = s.size) := p5
      have HP6 : Hid (t + 1 < n → ∃ h : j0 < s.size, ((s[j0].toNat : Int) != 59) = false) := p6
      have hbs := hb.size
      clear htf hit hj0 p3 p4 p5 p6 hE hb0 cl1 cl3
      have hdec : decide (i ≤ s.size) = true := decide_eq_true (by omega)
      cases hVE : (V t).toList.isEmpty
      · skip
        obtain ⟨sg, hsg⟩ : ∃ sg, s.extract i j0 = sg := ⟨_, rfl⟩
        have hbd : sg.data.toList = (N t).data.toList ++ 61 :: (V t).data.toList := by rw [← hsg, HP4.out]; unfold bd; rw [hVE]; rfl
        obtain ⟨y1, y2, ⟨_, y3⟩, hnm, hvl⟩ := seg_full hbd cl2
        have HQ : Hid (∀ e, ∀ h : e < sg.size, e < (N t).size → ((sg[e].toNat : Int) != 61) = true) := y2
        have hsgs : sg.size ≤ 8388608 := by rw [← hsg, ByteArray.size_extract]; omega
        clear y2 hbd cl2 HP4 hVE
        have hlast : (t + 1 = n ∧ ¬ j0 < s.size ∧ ((j0 : Int) == (s.size : Int)) = true) ∨ (t + 1 < n ∧ (∃ h : j0 < s.size, ((s[j0].toNat : Int) != 59) = false) ∧ ((j0 : Int) == (s.size : Int)) = false) := by
          rcases Nat.lt_or_ge (t + 1) n with h | h
          · obtain ⟨h1, h2⟩ := HP6.out h
            exact .inr ⟨h, ⟨h1, h2⟩, by simpa using (by omega : ¬ (j0 : Int) = (s.size : Int))⟩
          · have h3 := HP5.out (by omega)
            exact .inl ⟨by omega, by omega, by simpa using (by omega : (j0 : Int) = (s.size : Int))⟩
        clear HP5 HP6
        rcases hlast with ⟨hl1, hx, hEq⟩ | ⟨hl1, ⟨hx, hx2⟩, hEq⟩
        case' inl => have HL : Hid (t + 1 = n) := hl1
        case' inr => have HL : Hid (t + 1 < n) := hl1
        all_goals
          clear hl1
          go_wp2_with fail
          go_loopg [6] (j0 - i) (fun f x wy => ∃ j : Nat, j + f = j0 ∧ i ≤ j ∧ x = .int .i64 j ∧ wr = wy)
          case atStart => exact ⟨i, by omega, Nat.le_refl _, rfl, rfl⟩
          case round =>
            obtain ⟨j, hjf, hij, rfl, rfl⟩ := hrel
            have HJ : Hid (j + gk = j0) := hjf
            have hjj : j ≤ j0 := by omega
            clear hjf
            by_cases hlt2 : j < j0
            · have h1 : j < s.size := by omega
              have hbj := HP3.out j h1 hij hlt2
              go_wp2_with fail
              go_roundg (gk - 1)
              case measure => have := HJ.out; omega
              case rel => exact ⟨j + 1, by have := HJ.out; omega, by omega, by go_num, rfl⟩
            · obtain rfl : j0 = j := by omega
              clear hlt2 hjj HJ hij
              go_wp2_with fail
              go_loopg [8] (N t).size (fun f x wy => ∃ e : Nat, e + f = (N t).size ∧ x = .int .i64 e ∧ wr = wy)
              case atStart => exact ⟨0, by omega, rfl, rfl⟩
              case round =>
                obtain ⟨e, hef, rfl, rfl⟩ := hrel
                have HE : Hid (e + gk = (N t).size) := hef
                have hee : e ≤ (N t).size := by omega
                clear hef
                by_cases hlt3 : e < (N t).size
                · have hq := HQ.out e (by omega) hlt3
                  go_wp2_with fail
                  go_roundg (gk - 1)
                  case measure => have := HE.out; omega
                  case rel => exact ⟨e + 1, by have := HE.out; omega, by go_num, rfl⟩
                · obtain rfl : e = (N t).size := by omega
                  clear hlt3 hee HE
                  go_wp2_with (at_builtin; refine wpList_append_lies _ rfl (.tmp 66) (.tmp 68) 22 rfl w.heap.size 31 it _ 2 32 Try.underlying22 hi hz0 hz1 hz2 rfl (by omega) _ t (pairs N V t) rfl ((hown.alloc _).alloc _) ⟨wr.heap.size + 1, 0, .none⟩ 1 1 [.string (N t), .string (V t)] rfl rfl (two_new wr _ _ _) (by simp [Value.oneCell']) (by omega) (by unfold maxLen; omega) (by omega) (by simp; omega) (wr.heap.size + 2) (by simp) ?_; intro gg cap1 w6 hown2 hgrow hat hlt6)
                  have R := step_rel ((hb.alloc hbs _).alloc (by simp; omega) _) hown hown2 hgrow
                  clear hown2 hgrow hown
                  first
                    | (obtain rfl := HL.out
                       go_ret2
                       exact ⟨_, _, rfl, frow_of_owns R.1, R.2⟩)
                    | (have hl := HL.out
                       go_roundg (n - (t + 1))
                       case measure => have := HT.out; omega
                       case rel => exact ⟨t + 1, j0 + 1, by omega, by omega, by have := HT.out; omega, by go_num, R.1, R.2⟩)
      · skip
        have hsg : s.extract i j0 = N t := bytes_ext (by rw [HP4.out]; unfold bd; rw [hVE]; rfl)
        have HQ : Hid (∀ e, ∀ h : e < (N t).size, ((N t)[e].toNat : Int) != 61) := seg_empty cl2
        have HV : Hid (V t = ⟨#[]⟩) := bytes_ext ((List.eq_nil_of_length_eq_zero (by rw [← size_len]; exact isEmpty_size.1 hVE)).trans rfl)
        have hsgs : (N t).size ≤ 8388608 := by rw [← hsg, ByteArray.size_extract]; omega
        clear cl2 HP4 hVE
        have hlast : (t + 1 = n ∧ ¬ j0 < s.size ∧ ((j0 : Int) == (s.size : Int)) = true) ∨ (t + 1 < n ∧ (∃ h : j0 < s.size, ((s[j0].toNat : Int) != 59) = false) ∧ ((j0 : Int) == (s.size : Int)) = false) := by
          rcases Nat.lt_or_ge (t + 1) n with h | h
          · obtain ⟨h1, h2⟩ := HP6.out h
            exact .inr ⟨h, ⟨h1, h2⟩, by simpa using (by omega : ¬ (j0 : Int) = (s.size : Int))⟩
          · have h3 := HP5.out (by omega)
            exact .inl ⟨by omega, by omega, by simpa using (by omega : (j0 : Int) = (s.size : Int))⟩
        clear HP5 HP6
        rcases hlast with ⟨hl1, hx, hEq⟩ | ⟨hl1, ⟨hx, hx2⟩, hEq⟩
        case' inl => have HL : Hid (t + 1 = n) := hl1
        case' inr => have HL : Hid (t + 1 < n) := hl1
        all_goals
          clear hl1
          go_wp2_with fail
          go_loopg [6] (j0 - i) (fun f x wy => ∃ j : Nat, j + f = j0 ∧ i ≤ j ∧ x = .int .i64 j ∧ wr = wy)
          case atStart => exact ⟨i, by omega, Nat.le_refl _, rfl, rfl⟩
          case round =>
            obtain ⟨j, hjf, hij, rfl, rfl⟩ := hrel
            have HJ : Hid (j + gk = j0) := hjf
            have hjj : j ≤ j0 := by omega
            clear hjf
            by_cases hlt2 : j < j0
            · have h1 : j < s.size := by omega
              have hbj := HP3.out j h1 hij hlt2
              go_wp2_with fail
              go_roundg (gk - 1)
              case measure => have := HJ.out; omega
              case rel => exact ⟨j + 1, by have := HJ.out; omega, by omega, by go_num, rfl⟩
            · obtain rfl : j0 = j := by omega
              clear hlt2 hjj HJ hij
              go_wp2_with fail
              go_loopg [8] (N t).size (fun f x wy => ∃ e : Nat, e + f = (N t).size ∧ x = .int .i64 e ∧ wr = wy)
              case atStart => exact ⟨0, by omega, rfl, rfl⟩
              case round =>
                obtain ⟨e, hef, rfl, rfl⟩ := hrel
                have HE : Hid (e + gk = (N t).size) := hef
                have hee : e ≤ (N t).size := by omega
                clear hef
                by_cases hlt3 : e < (N t).size
                · have hq := HQ.out e hlt3
                  go_wp2_with fail
                  go_roundg (gk - 1)
                  case measure => have := HE.out; omega
                  case rel => exact ⟨e + 1, by have := HE.out; omega, by go_num, rfl⟩
                · obtain rfl : e = (N t).size := by omega
                  clear hlt3 hee HE
                  go_wp2_with (at_builtin; refine wpList_append_lies _ rfl (.tmp 66) (.tmp 68) 22 rfl w.heap.size 31 it _ 2 32 Try.underlying22 hi hz0 hz1 hz2 rfl (by omega) _ t (pairs N V t) rfl ((hown.alloc _).alloc _) ⟨wr.heap.size + 1, 0, .none⟩ 1 1 [.string (N t), .string ⟨#[]⟩] rfl rfl (two_new wr _ _ _) (by simp [Value.oneCell']) (by omega) (by unfold maxLen; omega) (by omega) (by simp; omega) (wr.heap.size + 2) (by simp) ?_; intro gg cap1 w6 hown2 hgrow hat hlt6)
                  rw [← HV.out] at hown2
                  have R := step_rel ((hb.alloc hbs _).alloc (by simp; omega) _) hown hown2 hgrow
                  clear hown2 hgrow hown
                  first
                    | (obtain rfl := HL.out
                       go_ret2
                       exact ⟨_, _, rfl, frow_of_owns R.1, R.2⟩)
                    | (have hl := HL.out
                       go_roundg (n - (t + 1))
                       case measure => have := HT.out; omega
                       case rel => exact ⟨t + 1, j0 + 1, by omega, by omega, by have := HT.out; omega, by go_num, R.1, R.2⟩)

end Go.Proofs.Qxb6628603a
