/-
  THE LAW FnGetOverCutFields (4), walked.
-/
import Derived.Test.Qxb6628022aWalkA
import Derived.Test.Qxb6628022aWalkB
import Derived.Test.Qxb6628022aWalkC
import Derived.Test.Qxb6628022aCtx
import Derived.Test.Qxb6628022aPlain
import Derived.Deep.RegionHeld3
import Derived.Deep.DrawnRows
namespace Go.Proofs.Qxb6628022a
open Go.RowKit

def lawPost (w : World) (e : Ending) (w' : World) : Prop := e = .returned (.bool true) ∧ Below w.heap.size w w'

def fieldsPost0 (N V : Nat → ByteArray) (i1 : Nat) (w : World) (e : Ending) (w' : World) : Prop :=
  ∃ g cap, e = .returned (.slice (some ⟨g, 0, .none⟩) i1 cap) ∧ FRow w' (some ⟨g, 0, .none⟩) i1 N V ∧ Below w.heap.size w w'
theorem fields_zero (a : Option Addr) (n cap i1 : Nat) (N V : Nat → ByteArray) (w : World) (hn : n ≤ 32768) (h1 : i1 ≤ n) (hF : FRow w a n N V) :
    Calls Try.prog 8 #[.slice a n cap, .int .i64 0, .int .i64 i1] w (fieldsPost0 N V i1 w) :=
  (fields_any a n cap 0 i1 N V w hn (Nat.zero_le _) h1 hF).mono fun e w' ⟨g, c, h1, h2, h3⟩ => ⟨g, c, h1, h2.congr (fun i _ => by rw [Nat.zero_add]) (fun i _ => by rw [Nat.zero_add]), h3⟩
theorem named_zero (a : Option Addr) (n cap i1 : Nat) (N V : Nat → ByteArray) (name : ByteArray) (w : World) (hn : n ≤ 32768) (h1 : i1 ≤ n) (hF : FRow w a n N V) :
    Calls Try.prog 9 #[.slice a n cap, .int .i64 0, .int .i64 i1, .string name] w (namedPost N 0 i1 name w) := named_any a n cap 0 i1 N V name w hn h1 hF

set_option maxHeartbeats 800000 in
theorem law4 (s0 s1 s3 : ByteArray) (z2 z4 z5 z7 : Int) (c8 c9 : Bool) (a : Option Addr) (n cap : Nat) (N V : Nat → ByteArray) (k : Int) (name : ByteArray) (w : World) (hn : n ≤ maxLen) (hF : FRow w a n N V) :
    Calls Try.prog 4 #[.agg #[.string s0, .string s1, .int .i64 z2, .string s3, .int .i64 z4, .int .i64 z5, .slice a n cap, .int .i64 z7, .bool c8, .bool c9], .int .i64 k, .string name] w (lawPost w) := by
  have C0 := Ctx.start w #[.string s0, .string s1, .int .i64 z2, .string s3, .int .i64 z4, .int .i64 z5, .slice a n cap, .int .i64 z7, .bool c8, .bool c9] hF
  go_enter Try.func4, Try.ntmps4
  go_wp2_with fail
  refine (bytes11_any s0 s1 s3 z2 z4 z5 z7 c8 c9 a n cap N V k name _ hn C0.row).mono ?_
  rintro e w1 ⟨b, rfl, hb⟩
  have C1 := C0.later hb
  clear hb C0
  cases b
  · go_wp2_with fail
    go_ret
    exact ⟨rfl, C1.bel⟩
  have q0 := C1.cell 0 _ rfl
  have q1 := C1.cell 1 _ rfl
  have q2 := C1.cell 2 _ rfl
  have q3 := C1.cell 3 _ rfl
  have q4 := C1.cell 4 _ rfl
  have q5 := C1.cell 5 _ rfl
  have q6 := C1.cell 6 _ rfl
  have q7 := C1.cell 7 _ rfl
  have q8 := C1.cell 8 _ rfl
  have q9 := C1.cell 9 _ rfl
  go_wp2_with fail
  refine (over_any s0 s1 s3 z2 z4 z5 z7 c8 c9 a n cap N V name _ _ _ hn C1.row).mono ?_
  rintro e w2 ⟨b, rfl, hbn, hb⟩
  have C2 := C1.later hb
  clear hb C1 q0 q1 q2 q3 q4 q5 q6 q7 q8 q9
  cases b
  case true =>
    go_wp2_with fail
    go_ret
    exact ⟨rfl, C2.bel⟩
  have hn1 := hbn rfl
  clear hbn hn
  have q0 := C2.cell 0 _ rfl
  have q1 := C2.cell 1 _ rfl
  have q2 := C2.cell 2 _ rfl
  have q3 := C2.cell 3 _ rfl
  have q4 := C2.cell 4 _ rfl
  have q5 := C2.cell 5 _ rfl
  have q6 := C2.cell 6 _ rfl
  have q7 := C2.cell 7 _ rfl
  have q8 := C2.cell 8 _ rfl
  have q9 := C2.cell 9 _ rfl
  by_cases hk : k < 0 ∨ (n : Int) < k
  · rcases hk with hk | hk
    all_goals
      go_wp2_with fail
      go_ret
      exact ⟨rfl, C2.bel⟩
  obtain ⟨k, rfl⟩ := Int.eq_ofNat_of_zero_le (show 0 ≤ k by omega)
  have hk1 : k ≤ n := by omega
  clear hk
  go_wp2_with fail
  go_region_held3 (fun w' => w'.cell? ⟨w.heap.size, 0, .none⟩ = some (.string s0) ∧ w'.cell? ⟨w.heap.size, 1, .none⟩ = some (.string s1) ∧ w'.cell? ⟨w.heap.size, 2, .none⟩ = some (.int .i64 z2) ∧ w'.cell? ⟨w.heap.size, 3, .none⟩ = some (.string s3) ∧
      w'.cell? ⟨w.heap.size, 4, .none⟩ = some (.int .i64 z4) ∧ w'.cell? ⟨w.heap.size, 5, .none⟩ = some (.int .i64 z5) ∧ w'.cell? ⟨w.heap.size, 6, .none⟩ = some (.slice a n cap) ∧ w'.cell? ⟨w.heap.size, 7, .none⟩ = some (.int .i64 z7) ∧
      w'.cell? ⟨w.heap.size, 8, .none⟩ = some (.bool c8) ∧ w'.cell? ⟨w.heap.size, 9, .none⟩ = some (.bool c9))
    (first
      | go_keep
      | (exact ⟨cell_later hb4 (cell_later hb3 q0), cell_later hb4 (cell_later hb3 q1), cell_later hb4 (cell_later hb3 q2), cell_later hb4 (cell_later hb3 q3), cell_later hb4 (cell_later hb3 q4), cell_later hb4 (cell_later hb3 q5), cell_later hb4 (cell_later hb3 q6), cell_later hb4 (cell_later hb3 q7), cell_later hb4 (cell_later hb3 q8), cell_later hb4 (cell_later hb3 q9)⟩)
      | (exact ⟨cell_later hb3 q0, cell_later hb3 q1, cell_later hb3 q2, cell_later hb3 q3, cell_later hb3 q4, cell_later hb3 q5, cell_later hb3 q6, cell_later hb3 q7, cell_later hb3 q8, cell_later hb3 q9⟩))
    (first
      | (go_at_call 8; refine (fields_zero a n cap n N V _ hn1 (Nat.le_refl _) ?_).mono ?_; (· exact C2.row); rintro e w3 ⟨g3, cap3, rfl, hF3, hb3⟩)
      | (go_at_call 7; refine (make_any s0 s1 s3 z2 z4 z5 z7 c8 c9 a n cap _ _ _ _).mono ?_; rintro e w4 ⟨p4, rfl, hp4, hb4⟩))
  have C4 := (C2.drew.later hb3).later hb4
  have H1 : Head w4 p4 (some ⟨g3, 0, .none⟩) n cap3 N V := ⟨hp4, hF3.later hb4⟩
  clear q0 q1 q2 q3 q4 q5 q6 q7 q8 q9 hF3 hb3 hp4 hb4 C2
  have q0 := C4.cell 0 _ rfl
  have q1 := C4.cell 1 _ rfl
  have q2 := C4.cell 2 _ rfl
  have q3 := C4.cell 3 _ rfl
  have q4 := C4.cell 4 _ rfl
  have q5 := C4.cell 5 _ rfl
  have q6 := C4.cell 6 _ rfl
  have q7 := C4.cell 7 _ rfl
  have q8 := C4.cell 8 _ rfl
  have q9 := C4.cell 9 _ rfl
  go_wp2_with fail
  go_region_held3 (fun w' => w'.cell? ⟨w.heap.size, 0, .none⟩ = some (.string s0) ∧ w'.cell? ⟨w.heap.size, 1, .none⟩ = some (.string s1) ∧ w'.cell? ⟨w.heap.size, 2, .none⟩ = some (.int .i64 z2) ∧ w'.cell? ⟨w.heap.size, 3, .none⟩ = some (.string s3) ∧
      w'.cell? ⟨w.heap.size, 4, .none⟩ = some (.int .i64 z4) ∧ w'.cell? ⟨w.heap.size, 5, .none⟩ = some (.int .i64 z5) ∧ w'.cell? ⟨w.heap.size, 6, .none⟩ = some (.slice a n cap) ∧ w'.cell? ⟨w.heap.size, 7, .none⟩ = some (.int .i64 z7) ∧
      w'.cell? ⟨w.heap.size, 8, .none⟩ = some (.bool c8) ∧ w'.cell? ⟨w.heap.size, 9, .none⟩ = some (.bool c9))
    (first
      | go_keep
      | (exact ⟨cell_later hb6 (cell_later hb5 q0), cell_later hb6 (cell_later hb5 q1), cell_later hb6 (cell_later hb5 q2), cell_later hb6 (cell_later hb5 q3), cell_later hb6 (cell_later hb5 q4), cell_later hb6 (cell_later hb5 q5), cell_later hb6 (cell_later hb5 q6), cell_later hb6 (cell_later hb5 q7), cell_later hb6 (cell_later hb5 q8), cell_later hb6 (cell_later hb5 q9)⟩)
      | (exact ⟨cell_later hb5 q0, cell_later hb5 q1, cell_later hb5 q2, cell_later hb5 q3, cell_later hb5 q4, cell_later hb5 q5, cell_later hb5 q6, cell_later hb5 q7, cell_later hb5 q8, cell_later hb5 q9⟩))
    (first
      | (go_at_call 8; refine (fields_zero a n cap k N V _ hn1 hk1 ?_).mono ?_; (· exact C4.row); rintro e w5 ⟨g5, cap5, rfl, hF5, hb5⟩)
      | (go_at_call 7; refine (make_any s0 s1 s3 z2 z4 z5 z7 c8 c9 a n cap _ _ _ _).mono ?_; rintro e w6 ⟨p6, rfl, hp6, hb6⟩))
  have C6 := (C4.drew.later hb5).later hb6
  have H1 := (H1.later (wy := w4.drew) (Below.refl _ _).drew).later hb5 |>.later hb6
  have H2 : Head w6 p6 (some ⟨g5, 0, .none⟩) k cap5 N V := ⟨hp6, hF5.later hb6⟩
  clear q0 q1 q2 q3 q4 q5 q6 q7 q8 q9 hF5 hb5 hp6 hb6 C4
  have q0 := C6.cell 0 _ rfl
  have q1 := C6.cell 1 _ rfl
  have q2 := C6.cell 2 _ rfl
  have q3 := C6.cell 3 _ rfl
  have q4 := C6.cell 4 _ rfl
  have q5 := C6.cell 5 _ rfl
  have q6 := C6.cell 6 _ rfl
  have q7 := C6.cell 7 _ rfl
  have q8 := C6.cell 8 _ rfl
  have q9 := C6.cell 9 _ rfl
  go_wp2_with fail
  go_region_held3 (fun w' => w'.cell? ⟨w.heap.size, 0, .none⟩ = some (.string s0) ∧ w'.cell? ⟨w.heap.size, 1, .none⟩ = some (.string s1) ∧ w'.cell? ⟨w.heap.size, 2, .none⟩ = some (.int .i64 z2) ∧ w'.cell? ⟨w.heap.size, 3, .none⟩ = some (.string s3) ∧
      w'.cell? ⟨w.heap.size, 4, .none⟩ = some (.int .i64 z4) ∧ w'.cell? ⟨w.heap.size, 5, .none⟩ = some (.int .i64 z5) ∧ w'.cell? ⟨w.heap.size, 6, .none⟩ = some (.slice a n cap) ∧ w'.cell? ⟨w.heap.size, 7, .none⟩ = some (.int .i64 z7) ∧
      w'.cell? ⟨w.heap.size, 8, .none⟩ = some (.bool c8) ∧ w'.cell? ⟨w.heap.size, 9, .none⟩ = some (.bool c9))
    (first
      | go_keep
      | (exact ⟨cell_later hb8 (cell_later hb7 q0), cell_later hb8 (cell_later hb7 q1), cell_later hb8 (cell_later hb7 q2), cell_later hb8 (cell_later hb7 q3), cell_later hb8 (cell_later hb7 q4), cell_later hb8 (cell_later hb7 q5), cell_later hb8 (cell_later hb7 q6), cell_later hb8 (cell_later hb7 q7), cell_later hb8 (cell_later hb7 q8), cell_later hb8 (cell_later hb7 q9)⟩)
      | (exact ⟨cell_later hb7 q0, cell_later hb7 q1, cell_later hb7 q2, cell_later hb7 q3, cell_later hb7 q4, cell_later hb7 q5, cell_later hb7 q6, cell_later hb7 q7, cell_later hb7 q8, cell_later hb7 q9⟩))
    (first
      | (go_at_call 8; refine (fields_any a n cap k n N V _ hn1 hk1 (Nat.le_refl _) ?_).mono ?_; (· exact C6.row); rintro e w7 ⟨g7, cap7, rfl, hF7, hb7⟩)
      | (go_at_call 7; refine (make_any s0 s1 s3 z2 z4 z5 z7 c8 c9 a n cap _ _ _ _).mono ?_; rintro e w8 ⟨p8, rfl, hp8, hb8⟩))
  have C8 := (C6.drew.later hb7).later hb8
  have H1 := (H1.later (wy := w6.drew) (Below.refl _ _).drew).later hb7 |>.later hb8
  have H2 := (H2.later (wy := w6.drew) (Below.refl _ _).drew).later hb7 |>.later hb8
  have H3 : Head w8 p8 (some ⟨g7, 0, .none⟩) (n - k) cap7 (fun i => N (k + i)) (fun i => V (k + i)) := ⟨hp8, hF7.later hb8⟩
  clear q0 q1 q2 q3 q4 q5 q6 q7 q8 q9 hF7 hb7 hp8 hb8 C6
  have q6 := C8.cell 6 _ rfl
  go_wp2_with fail
  refine (get_any p4 (some ⟨g3, 0, .none⟩) n cap3 N V name _ (by omega) H1.1 H1.2).mono ?_
  rintro e _ ⟨gw, rfl, hgw, rfl⟩
  clear H1
  go_wp2_with fail
  refine (named_zero a n cap k N V name _ hn1 hk1 C8.row).mono ?_
  rintro e _ ⟨bn, rfl, hbn, rfl⟩
  have HG : Hid (IsGet N V n name gw) := hgw
  clear hgw
  cases bn
  case' false =>
    have hno : ¬ Named N 0 k name := fun h => by simpa using hbn.2 h
    clear hbn
    go_wp2_with fail
    refine (get_any p8 (some ⟨g7, 0, .none⟩) (n - k) cap7 _ _ name _ (by omega) H3.1 H3.2).mono ?_
    rintro e _ ⟨gs, rfl, hgs, rfl⟩
    obtain rfl := cut_suf hk1 hno HG.out hgs
    clear hgs hno
  case' true =>
    have hno : Named N 0 k name := hbn.1 rfl
    clear hbn
    go_wp2_with fail
    refine (get_any p6 (some ⟨g5, 0, .none⟩) k cap5 _ _ name _ (by omega) H2.1 H2.2).mono ?_
    rintro e _ ⟨gs, rfl, hgs, rfl⟩
    obtain rfl := cut_pre hk1 hno HG.out hgs
    clear hgs hno
  all_goals
    clear H2 H3
    go_wp2_with fail
    refine (named_zero a n cap n N V name _ hn1 (Nat.le_refl _) C8.row).mono ?_
    rintro e _ ⟨bn, rfl, hbn, rfl⟩
    cases bn
    · have hno : ¬ Named N 0 n name := fun h => by simpa using hbn.2 h
      obtain rfl := IsGet.of_not hno HG.out
      clear hbn hno
      go_wp2_with fail
      go_ret
      exact ⟨rfl, C8.bel⟩
    · have hno := IsGet.of_named (hbn.1 rfl) HG.out
      have HN : Hid (∃ i, i < n ∧ N i = name ∧ V i = gw) := by obtain ⟨i, h1, h2, h3, _⟩ := hno; exact ⟨i, h1, h2, h3⟩
      clear hbn hno
      go_wp2_with fail
      go_loop [11] (fun i => ∃ k : Nat, k ≤ n ∧ i = .int .i64 k ∧ ∀ j, j < k → N j = name → V j ≠ gw) (fun i => n - (intOf i).toNat)
      case atStart => exact ⟨0, by omega, rfl, fun j h2 => by omega⟩
      case round =>
        obtain ⟨j, hj, rfl, hno⟩ := hrel
        have HO : Hid (∀ i, i < j → N i = name → V i ≠ gw) := hno
        clear hno
        by_cases hlt : j < n
        · obtain ⟨b, off, rfl, hc, hd⟩ := C8.row j hlt
          cases hE : ((N j).toList == name.toList)
          · go_wp2
            go_round
            case rel =>
              refine ⟨j + 1, by omega, by go_num, fun i h1 h2 => ?_⟩
              rcases Nat.lt_or_ge i j with h | h
              · exact HO.out i h h2
              · have : i = j := by omega
                subst this
                exact absurd h2 (str_ne.1 hE)
            case measure => simp [intOf]; omega
          · cases hE2 : ((V j).toList == gw.toList)
            · go_wp2
              go_round
              case rel =>
                refine ⟨j + 1, by omega, by go_num, fun i h1 h2 => ?_⟩
                rcases Nat.lt_or_ge i j with h | h
                · exact HO.out i h h2
                · have : i = j := by omega
                  subst this
                  exact str_ne.1 hE2
              case measure => simp [intOf]; omega
            · go_wp2
              go_ret
              exact ⟨rfl, C8.bel⟩
        · exfalso
          obtain ⟨i, h1, h2, h3⟩ := HN.out
          exact HO.out i (by omega) h2 h3

end Go.Proofs.Qxb6628022a
