/-
  WALK: (Params).String (8).
-/
import Derived.Test.Qxb6628603aWalkB
import Derived.Test.Qxb6628603aBuilder
namespace Go.Proofs.Qxb6628603a
open Go.RowKit

theorem byte59 (B b : Nat) (l : List UInt8) (w : World) (h : Bld B b l w) (hlen : l.length + 1 ≤ 140737488355328) (hBw : B ≤ w.heap.size) :
    Calls Try.prog 13 #[.pointer (some ⟨b, 0, .none⟩), .int .u8 59] w fun e w' => e = .returned .nilIface ∧ stepPost B b (l ++ [59]) w w' := byte_any B b l 59 w h hlen hBw
theorem byte61 (B b : Nat) (l : List UInt8) (w : World) (h : Bld B b l w) (hlen : l.length + 1 ≤ 140737488355328) (hBw : B ≤ w.heap.size) :
    Calls Try.prog 13 #[.pointer (some ⟨b, 0, .none⟩), .int .u8 61] w fun e w' => e = .returned .nilIface ∧ stepPost B b (l ++ [61]) w w' := byte_any B b l 61 w h hlen hBw

theorem bldAt_alloc {B b : Nat} {p : Value} {bs : List Value} {w : World} (o : Obj) (h : Lib.BuilderAt 39 5 B b p bs w) : Lib.BuilderAt 39 5 B b p bs (w.alloc o) := by
  have hlt := h.lt
  obtain ⟨hB, v, hb, hown, hne⟩ := h
  exact ⟨hB, v, (Lib.alloc_old w o b hlt).trans hb, hown.alloc o, hne⟩
theorem Bld.alloc {B b : Nat} {l : List UInt8} {w : World} (h : Bld B b l w) (o : Obj) : Bld B b l (w.alloc o) := h.elim (fun h => .inl (bldAt_alloc o h)) (fun h => .inr (bldAt_alloc o h))
theorem Bld.lt {B b : Nat} {l : List UInt8} {w : World} (h : Bld B b l w) : b < w.heap.size := h.elim (fun h => Lib.BuilderAt.lt h) (fun h => Lib.BuilderAt.lt h)

/-- the box of p in a later world -/
def Box (w : World) (q : Nat) (n v : ByteArray) : Prop := w.heap[q]? = some (.cells #[.string n, .string v] 35 (0, 0))
theorem Box.kept {w w' : World} {b q : Nat} {n v : ByteArray} (h : Box w q n v) (hk : Lib.OthersKept 5 (some b) w w') (hne : q ≠ b) : Box w' q n v :=
  hk q _ h (by simpa using hne) (fun c fz e => by simp at e)
theorem Box.name {w : World} {q : Nat} {n v : ByteArray} (h : Box w q n v) : w.cell? ⟨q, 0, .none⟩ = some (.string n) := by unfold Box at h; simp [World.cell?, h]
theorem Box.value {w : World} {q : Nat} {n v : ByteArray} (h : Box w q n v) : w.cell? ⟨q, 1, .none⟩ = some (.string v) := by unfold Box at h; simp [World.cell?, h]

set_option maxHeartbeats 800000 in
theorem string8_any (a : Option Addr) (n cap : Nat) (N V : Nat → ByteArray) (w : World) (hn : n ≤ 1048576) (ht : (txt N V n).length ≤ 1073741824) (hF : FRow w a n N V) :
    Calls Try.prog 8 #[.slice a n cap] w (strPost (txt N V n) w) := by
  have HB0 : Bld w.heap.size w.heap.size [] (w.alloc (.cells #[.pointer .none, .slice .none 0 0] 39)) := Lib.fresh_isBuilder 39 5 w
  go_enter Try.func8, Try.ntmps8
  go_wp2_with fail
  go_loopg [8] n (fun f i wr => ∃ k : Nat, k + f = n ∧ i = .int .i64 k ∧ Bld w.heap.size w.heap.size (txt N V k) wr ∧ Below w.heap.size w wr ∧ (k = 0 → ∃ p, wr.heap[w.heap.size]? = some (.cells #[p, .slice .none 0 0] 39 (0, 0))))
  case atStart => exact ⟨0, by omega, rfl, HB0, (Below.refl _ _).alloc (Nat.le_refl _) _, fun _ => ⟨_, heap_alloc_new w _⟩⟩
  case round =>
    obtain ⟨k, hkf, rfl, hB, hb, hfr⟩ := hrel
    have HK : Hid (k + gk = n) := hkf
    have HFR : Hid (k = 0 → ∃ p, wr.heap[w.heap.size]? = some (.cells #[p, .slice .none 0 0] 39 (0, 0))) := hfr
    have hk : k ≤ n := by omega
    clear hkf hfr HB0
    by_cases hlt : k < n
    · obtain ⟨b, off, rfl, hc0, hd0⟩ := hF k (by omega)
      have hc := cell_later hb hc0
      have hd := cell_later hb hd0
      clear hc0 hd0
      have hlt1 := hB.lt
      have hx := Bld.alloc hB (.cells #[.string (N k), .string (V k)] 35)
      have hbx : Box (wr.alloc (.cells #[.string (N k), .string (V k)] 35)) wr.heap.size (N k) (V k) := heap_alloc_new wr _
      have hb1 := hb.alloc hb.size (.cells #[.string (N k), .string (V k)] 35)
      have htk := txt_mono N V (show k + 1 ≤ n from hlt)
      have HT : Hid (txt N V (k + 1) = txt N V k ++ one (N k) (V k)) := rfl
      have hol := one_length (N k) (V k)
      have hl1 : (txt N V k).length + (one (N k) (V k)).length ≤ 1073741824 := by rw [HT.out, List.length_append] at htk; omega
      have hBs := hb1.size
      have hne : wr.heap.size ≠ w.heap.size := by omega
      clear htk
      go_wp2_with fail
      refine (byte59 w.heap.size w.heap.size (txt N V k) _ hx (by omega) hb1.size).mono ?_
      rintro e w2 ⟨rfl, hB2, hb2, hk2⟩
      have hbx2 := hbx.kept hk2 hne
      have q0 := hbx2.name
      have hbb2 := hb1.trans hb2
      clear hx hbx hb1 hb2 hk2 hBs hc hd
      go_wp2_with fail
      refine (str_any w.heap.size w.heap.size (txt N V k ++ [59]) (N k) _ hB2 (by simp; omega) hbb2.size).mono ?_
      rintro e w3 ⟨rfl, hB3, hb3, hk3⟩
      have hbx3 := hbx2.kept hk3 hne
      have q1 := hbx3.value
      have hbb3 := hbb2.trans hb3
      clear hB2 hbx2 hbb2 hb3 hk3 q0
      cases hE : (V k).toList.isEmpty
      · have HO := one_full (n := N k) hE
        have hl2 : (txt N V k).length + (N k).size + (V k).size + 2 ≤ 1073741824 := by
          have := congrArg List.length HO
          simp at this
          omega
        have HO' : Hid (one (N k) (V k) = 59 :: (N k).data.toList ++ 61 :: (V k).data.toList) := HO
        clear HO
        go_wp2_with fail
        refine (byte61 w.heap.size w.heap.size (txt N V k ++ [59] ++ (N k).data.toList) _ hB3 (by simp; omega) hbb3.size).mono ?_
        rintro e w4 ⟨rfl, hB4, hb4, hk4⟩
        have hbx4 := hbx3.kept hk4 hne
        have q2 := hbx4.value
        have hbb4 := hbb3.trans hb4
        clear hB3 hbx3 hbb3 hb4 hk4 q1
        go_wp2_with fail
        refine (str_any w.heap.size w.heap.size (txt N V k ++ [59] ++ (N k).data.toList ++ [61]) (V k) _ hB4 (by simp; omega) hbb4.size).mono ?_
        rintro e w5 ⟨rfl, hB5, hb5, _⟩
        have hbb5 := hbb4.trans hb5
        have HB5 : Bld w.heap.size w.heap.size (txt N V (k + 1)) w5 := by
          rw [HT.out, HO'.out]
          have e : txt N V k ++ (59 :: (N k).data.toList ++ 61 :: (V k).data.toList) = txt N V k ++ [59] ++ (N k).data.toList ++ [61] ++ (V k).data.toList := by simp
          rw [e]; exact hB5
        clear hB5 hB4 hbx4 hbb4 hb5 q2
        go_wp2_with fail
        go_roundg (gk - 1)
        case measure => have := HK.out; omega
        case rel => exact ⟨k + 1, by have := HK.out; omega, by go_num, HB5, hbb5, fun h => by omega⟩
      · have HO' : Hid (one (N k) (V k) = 59 :: (N k).data.toList) := one_empty hE
        have HB5 : Bld w.heap.size w.heap.size (txt N V (k + 1)) w3 := by
          rw [HT.out, HO'.out]
          have e : txt N V k ++ 59 :: (N k).data.toList = txt N V k ++ [59] ++ (N k).data.toList := by simp
          rw [e]; exact hB3
        clear hB3 hbx3
        go_wp2_with fail
        go_roundg (gk - 1)
        case measure => have := HK.out; omega
        case rel => exact ⟨k + 1, by have := HK.out; omega, by go_num, HB5, hbb3, fun h => by omega⟩
    · obtain rfl : n = k := by omega
      go_wp2_with fail
      refine (string_any w.heap.size w.heap.size (txt N V n) _ hB (fun h => HFR.out (txt_nil h))).mono ?_
      rintro e w2 ⟨rfl, hb2⟩
      go_wp2_with fail
      go_ret
      exact ⟨_, rfl, by simp, hb.trans hb2⟩

end Go.Proofs.Qxb6628603a
