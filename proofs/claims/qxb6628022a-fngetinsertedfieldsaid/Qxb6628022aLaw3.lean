/-
  THE LAW FnGetInsertedField (3), walked.
-/
import Derived.Test.Qxb6628022aLaw4
import Derived.Deep.AppendLies
namespace Go.Proofs.Qxb6628022a
open Go.RowKit

set_option maxHeartbeats 1600000 in
theorem law3 (s0 s1 s3 : ByteArray) (z2 z4 z5 z7 : Int) (c8 c9 : Bool) (a : Option Addr) (n cap : Nat) (N V : Nat → ByteArray) (k : Int) (name value other : ByteArray) (w : World) (hn : n ≤ maxLen) (hF : FRow w a n N V) :
    Calls Try.prog 3 #[.agg #[.string s0, .string s1, .int .i64 z2, .string s3, .int .i64 z4, .int .i64 z5, .slice a n cap, .int .i64 z7, .bool c8, .bool c9], .int .i64 k, .string name, .string value, .string other] w (lawPost w) := by
  obtain ⟨it, hi, hz0, hz1, hz2⟩ := info_parts info33
  have C0 := Ctx.start w #[.string s0, .string s1, .int .i64 z2, .string s3, .int .i64 z4, .int .i64 z5, .slice a n cap, .int .i64 z7, .bool c8, .bool c9] hF
  go_enter Try.func3, Try.ntmps3
  go_wp2_with fail
  refine (bytes5_any s0 s1 s3 z2 z4 z5 z7 c8 c9 a n cap N V k name value other _ hn C0.row).mono ?_
  rintro e w1 ⟨b, rfl, hb⟩
  have C1 := C0.later hb
  clear hb C0
  cases b
  · go_wp2_with fail
    go_ret
    exact ⟨rfl, C1.bel⟩
  have q0 := C1.cell 0 _ rfl
  have q1 := C1.cell 1 _ rfl
  have q2 := C1.cell 2 _ rfl
  have q3 := C1.cell 3 _ rfl
  have q4 := C1.cell 4 _ rfl
  have q5 := C1.cell 5 _ rfl
  have q6 := C1.cell 6 _ rfl
  have q7 := C1.cell 7 _ rfl
  have q8 := C1.cell 8 _ rfl
  have q9 := C1.cell 9 _ rfl
  go_wp2_with fail
  refine (over_any s0 s1 s3 z2 z4 z5 z7 c8 c9 a n cap N V name value other _ hn C1.row).mono ?_
  rintro e w2 ⟨b, rfl, hbn, hb⟩
  have C2 := C1.later hb
  clear hb C1 q0 q1 q2 q3 q4 q5 q6 q7 q8 q9
  cases b
  case true =>
    go_wp2_with fail
    go_ret
    exact ⟨rfl, C2.bel⟩
  have hn1 := hbn rfl
  clear hbn hn
  have q0 := C2.cell 0 _ rfl
  have q1 := C2.cell 1 _ rfl
  have q2 := C2.cell 2 _ rfl
  have q3 := C2.cell 3 _ rfl
  have q4 := C2.cell 4 _ rfl
  have q5 := C2.cell 5 _ rfl
  have q6 := C2.cell 6 _ rfl
  have q7 := C2.cell 7 _ rfl
  have q8 := C2.cell 8 _ rfl
  have q9 := C2.cell 9 _ rfl
  by_cases hk : k < 0 ∨ (n : Int) < k
  · rcases hk with hk | hk
    all_goals
      go_wp2_with fail
      go_ret
      exact ⟨rfl, C2.bel⟩
  obtain ⟨k, rfl⟩ := Int.eq_ofNat_of_zero_le (show 0 ≤ k by omega)
  have hk1 : k ≤ n := by omega
  clear hk
  go_wp2_with fail
  go_region_held3 (fun w' => w'.cell? ⟨w.heap.size, 0, .none⟩ = some (.string s0) ∧ w'.cell? ⟨w.heap.size, 1, .none⟩ = some (.string s1) ∧ w'.cell? ⟨w.heap.size, 2, .none⟩ = some (.int .i64 z2) ∧ w'.cell? ⟨w.heap.size, 3, .none⟩ = some (.string s3) ∧
      w'.cell? ⟨w.heap.size, 4, .none⟩ = some (.int .i64 z4) ∧ w'.cell? ⟨w.heap.size, 5, .none⟩ = some (.int .i64 z5) ∧ w'.cell? ⟨w.heap.size, 6, .none⟩ = some (.slice a n cap) ∧ w'.cell? ⟨w.heap.size, 7, .none⟩ = some (.int .i64 z7) ∧
      w'.cell? ⟨w.heap.size, 8, .none⟩ = some (.bool c8) ∧ w'.cell? ⟨w.heap.size, 9, .none⟩ = some (.bool c9))
    (first
      | go_keep
      | (exact ⟨cell_later hb4 (cell_later hb3 q0), cell_later hb4 (cell_later hb3 q1), cell_later hb4 (cell_later hb3 q2), cell_later hb4 (cell_later hb3 q3), cell_later hb4 (cell_later hb3 q4), cell_later hb4 (cell_later hb3 q5), cell_later hb4 (cell_later hb3 q6), cell_later hb4 (cell_later hb3 q7), cell_later hb4 (cell_later hb3 q8), cell_later hb4 (cell_later hb3 q9)⟩)
      | (exact ⟨cell_later hb3 q0, cell_later hb3 q1, cell_later hb3 q2, cell_later hb3 q3, cell_later hb3 q4, cell_later hb3 q5, cell_later hb3 q6, cell_later hb3 q7, cell_later hb3 q8, cell_later hb3 q9⟩))
    (first
      | (go_at_call 8; refine (fields_zero a n cap n N V _ hn1 (Nat.le_refl _) ?_).mono ?_; (· exact C2.row); rintro e w3 ⟨g3, cap3, rfl, hF3, hb3⟩)
      | (go_at_call 7; refine (make_any s0 s1 s3 z2 z4 z5 z7 c8 c9 a n cap _ _ _ _).mono ?_; rintro e w4 ⟨p4, rfl, hp4, hb4⟩))
  have C4 := (C2.drew.later hb3).later hb4
  have H1 : Head w4 p4 (some ⟨g3, 0, .none⟩) n cap3 N V := ⟨hp4, hF3.later hb4⟩
  clear q0 q1 q2 q3 q4 q5 q6 q7 q8 q9 hF3 hb3 hp4 hb4 C2
  have q6 := C4.cell 6 _ rfl
  obtain ⟨N', hN'⟩ : ∃ N', N' = insAt N k name := ⟨_, rfl⟩
  obtain ⟨V', hV'⟩ : ∃ V', V' = insAt V k value := ⟨_, rfl⟩
  have HNV : Hid (N' = insAt N k name ∧ V' = insAt V k value) := ⟨hN', hV'⟩
  clear hN' hV'
  have hlt4 := C4.lt
  go_wp2_with (at_make; refine wpList_make_own _ rfl (.const (.int .i64 0)) (.tmp 49) 29 rfl w4.heap.size 33 it _ 2 Try.underlying29 hi hz0 hz1 .i64 .i64 _ (n + 1) rfl rfl (by omega) (by rw [hz2]; omega) (by unfold maxLen; omega) (Nat.le_refl _) ?_; intro w5 hown hgrow)
  have hb1 : Below w4.heap.size w4 w5 := (Below.refl _ _).grown hgrow (Nat.le_refl _) (fun k h => by cases h)
  clear hgrow q6
  go_loopw [12, 13] (fun v i wr => ∃ j : Nat, j ≤ k ∧ i = .int .i64 j ∧ ∃ g c, v = .slice (some ⟨g, 0, .none⟩) j c ∧
      wr.ownsRow w4.heap.size 33 2 (.slice (some ⟨g, 0, .none⟩) j c) j (pairs N' V' j) ∧ Below w4.heap.size w4 wr) (fun _ i _ => k - (intOf i).toNat)
  case atStart => exact ⟨0, by omega, rfl, _, _, rfl, hown, hb1⟩
  case round =>
    obtain ⟨j, hj, rfl, g, c, rfl, hown1, hb⟩ := hrel
    clear hown hb1 w5
    have CR := C4.later hb
    have q6 := CR.cell 6 _ rfl
    have hg := (hown1.lt g rfl).1
    have hbs := hb.size
    by_cases hlt : j < k
    · obtain ⟨b, off, rfl, hc, hd⟩ := C4.row j (by omega)
      have lb := World.block_lt_of_cell? w4 _ hc
      have hcr := cell_later hb hc
      have hdr := cell_later hb hd
      have ag : Value.ownBlock (.slice (some ⟨g, 0, .none⟩) j c) ≠ some b := by simp [Value.ownBlock]; simp at lb; omega
      have ax : Value.ownBlock (.slice (some ⟨g, 0, .none⟩) j c) ≠ some w.heap.size := by simp [Value.ownBlock]; omega
      have lbr := World.block_lt_of_cell? wr _ hcr
      have lxr := World.block_lt_of_cell? wr _ q6
      have hb0 : (0 : Int) ≤ (j : Int) := Int.natCast_nonneg _
      have hb2 : (j : Int) < (n : Int) := by omega
      clear hc hd
      go_wp2_with fail
      go_region_held3 (fun w' => w'.cell? ⟨w.heap.size, 6, .none⟩ = some (.slice (some ⟨b, off, .none⟩) n cap) ∧ w'.cell? ⟨b, off + j * 2, .none⟩ = some (.string (N j)) ∧ w'.cell? ⟨b, off + j * 2 + 1, .none⟩ = some (.string (V j)))
        (first
          | go_keep
          | (go_split_ands
             refine ⟨?_, ?_, ?_⟩
             · (rw [hgrow.cell_far _ (by simp; omega) (Ne.symm ax)]; assumption)
             · (rw [hgrow.cell_far _ (by simp; omega) (Ne.symm ag)]; assumption)
             · (rw [hgrow.cell_far _ (by simp; omega) (Ne.symm ag)]; assumption)))
        ((refine step_append_lies _ (by rfl) _ _ _ (by rfl) w4.heap.size 33 it _ 2 32 Try.underlying29 hi hz0 hz1 hz2 rfl (by omega) (.slice (some ⟨g, 0, .none⟩) j c) j (pairs N' V' j) (by rfl) ((hown1.alloc _).drew)
            ⟨wr.heap.size, 0, .none⟩ 1 1 [.string (N j), .string (V j)] (by rfl) (by rfl) (World.news_of_block (cs := #[.string (N j), .string (V j)]) (t := 33) (fr := (0, 0)) (heap_alloc_new wr _)) (by simp [Value.oneCell'])
            (by omega) (by unfold maxLen; omega) (by omega) (by simp; omega) (wr.heap.size + 1) (by simp) ?_; intro gg cap1 w6 hown2 hgrow hat hlt2))
      have R := step_rel (N := N') (V := V') ((hb.alloc hbs _).drew) (by rw [HNV.out.1, insAt_lt hlt]) (by rw [HNV.out.2, insAt_lt hlt]) hown1 hown2 hgrow
      clear hown2 hgrow hown1 hcr hdr q6
      go_wp2
      go_roundw
      case rel => exact ⟨j + 1, by omega, by go_num, _, _, rfl, R.1, R.2⟩
      case measure => simp [intOf]; omega
    · obtain rfl : j = k := by omega
      clear hlt hj
      go_wp2_with (at_builtin; refine wpList_append_lies _ rfl (.tmp 72) (.tmp 76) 29 rfl w4.heap.size 33 it _ 2 32 Try.underlying29 hi hz0 hz1 hz2 rfl (by omega) (.slice (some ⟨g, 0, .none⟩) j c) j (pairs N' V' j) rfl (hown1.alloc _) ⟨wr.heap.size, 0, .none⟩ 1 1 [.string name, .string value] rfl rfl (World.news_of_block (cs := #[.string name, .string value]) (t := 33) (fr := (0, 0)) (heap_alloc_new wr _)) (by simp [Value.oneCell']) (by omega) (by unfold maxLen; omega) (by omega) (by simp; omega) (wr.heap.size + 1) (by simp) ?_; intro gg cap1 w6 hown2 hgrow hat hlt2)
      have R := step_rel (N := N') (V := V') (hb.alloc hbs _) (by rw [HNV.out.1, insAt_at]) (by rw [HNV.out.2, insAt_at]) hown1 hown2 hgrow
      clear hown2 hgrow hown1 q6 hat hlt2 CR hb hg hbs
      obtain ⟨R1, R2⟩ := R
      go_loopw [12, 14] (fun v i wr => ∃ x : Nat, j ≤ x ∧ x ≤ n ∧ i = .int .i64 x ∧ ∃ g c, v = .slice (some ⟨g, 0, .none⟩) (x + 1) c ∧
          wr.ownsRow w4.heap.size 33 2 (.slice (some ⟨g, 0, .none⟩) (x + 1) c) (x + 1) (pairs N' V' (x + 1)) ∧ Below w4.heap.size w4 wr) (fun _ i _ => n - (intOf i).toNat)
      case atStart => exact ⟨j, Nat.le_refl _, hk1, rfl, _, _, rfl, R1, R2⟩
      case round =>
        clear R1 R2
        obtain ⟨x, hjx, hx, rfl, g, c, rfl, hown1, hb⟩ := hrel
        have CR := C4.later hb
        have q6 := CR.cell 6 _ rfl
        have hg := (hown1.lt g rfl).1
        have hbs := hb.size
        by_cases hlt : x < n
        · obtain ⟨b, off, rfl, hc, hd⟩ := C4.row x (by omega)
          have lb := World.block_lt_of_cell? w4 _ hc
          have hcr := cell_later hb hc
          have hdr := cell_later hb hd
          have ag : Value.ownBlock (.slice (some ⟨g, 0, .none⟩) (x + 1) c) ≠ some b := by simp [Value.ownBlock]; simp at lb; omega
          have ax : Value.ownBlock (.slice (some ⟨g, 0, .none⟩) (x + 1) c) ≠ some w.heap.size := by simp [Value.ownBlock]; omega
          have lbr := World.block_lt_of_cell? _ _ hcr
          have lxr := World.block_lt_of_cell? _ _ q6
          have hb0 : (0 : Int) ≤ (x : Int) := Int.natCast_nonneg _
          have hb2 : (x : Int) < (n : Int) := by omega
          clear hc hd
          go_wp2_with fail
          go_region_held3 (fun w' => w'.cell? ⟨w.heap.size, 6, .none⟩ = some (.slice (some ⟨b, off, .none⟩) n cap) ∧ w'.cell? ⟨b, off + x * 2, .none⟩ = some (.string (N x)) ∧ w'.cell? ⟨b, off + x * 2 + 1, .none⟩ = some (.string (V x)))
            (first
              | go_keep
              | (go_split_ands
                 refine ⟨?_, ?_, ?_⟩
                 · (rw [hgrow.cell_far _ (by simp; omega) (Ne.symm ax)]; assumption)
                 · (rw [hgrow.cell_far _ (by simp; omega) (Ne.symm ag)]; assumption)
                 · (rw [hgrow.cell_far _ (by simp; omega) (Ne.symm ag)]; assumption)))
            ((refine step_append_lies _ (by rfl) _ _ _ (by rfl) w4.heap.size 33 it _ 2 32 Try.underlying29 hi hz0 hz1 hz2 rfl (by omega) (.slice (some ⟨g, 0, .none⟩) (x + 1) c) (x + 1) (pairs N' V' (x + 1)) (by rfl) ((hown1.alloc _).drew)
                ⟨wr.heap.size, 0, .none⟩ 1 1 [.string (N x), .string (V x)] (by rfl) (by rfl) (World.news_of_block (cs := #[.string (N x), .string (V x)]) (t := 33) (fr := (0, 0)) (heap_alloc_new wr _)) (by simp [Value.oneCell'])
                (by omega) (by unfold maxLen; omega) (by omega) (by simp; omega) (wr.heap.size + 1) (by simp) ?_; intro gg cap1 w6 hown2 hgrow hat hlt2))
          have R := step_rel (N := N') (V := V') ((hb.alloc hbs _).drew) (by rw [HNV.out.1, insAt_gt hjx]) (by rw [HNV.out.2, insAt_gt hjx]) hown1 hown2 hgrow
          clear hown2 hgrow hown1 hcr hdr q6
          go_wp2
          go_roundw
          case rel => exact ⟨x + 1, by omega, by omega, by go_num, _, _, rfl, R.1, R.2⟩
          case measure => simp [intOf]; omega
        · obtain rfl : x = n := by omega
          clear hlt hx hg hbs q6
          have H1 := H1.later hb
          have FI := frow_of_owns hown1
          clear hown1 hb C4 hlt4
          have q0 := CR.cell 0 _ rfl
          have q1 := CR.cell 1 _ rfl
          have q2 := CR.cell 2 _ rfl
          have q3 := CR.cell 3 _ rfl
          have q4 := CR.cell 4 _ rfl
          have q5 := CR.cell 5 _ rfl
          have q6 := CR.cell 6 _ rfl
          have q7 := CR.cell 7 _ rfl
          have q8 := CR.cell 8 _ rfl
          have q9 := CR.cell 9 _ rfl
          go_wp2_with fail
          refine (make_any s0 s1 s3 z2 z4 z5 z7 c8 c9 a x cap _ _ _ _).mono ?_
          rintro e w7 ⟨p7, rfl, hp7, hb7⟩
          have C7 := CR.later hb7
          have H1 := H1.later hb7
          have H2 : Head w7 p7 (some ⟨g, 0, .none⟩) (x + 1) c N' V' := ⟨hp7, FI.later hb7⟩
          clear q0 q1 q2 q3 q4 q5 q6 q7 q8 q9 CR hp7 hb7 FI
          have q6 := C7.cell 6 _ rfl
          go_wp2_with fail
          refine (named_zero a x cap j N V name _ hn1 hk1 C7.row).mono ?_
          rintro e _ ⟨bn, rfl, hbn, rfl⟩
          clear q6
          cases bn
          case' false =>
            have hno : ¬ Named N 0 j name := fun h => by simpa using hbn.2 h
            clear hbn
            go_wp2_with fail
            refine (get_any p7 (some ⟨g, 0, .none⟩) (x + 1) c N' V' name _ (by omega) H2.1 H2.2).mono ?_
            rintro e _ ⟨gs, rfl, hgs, rfl⟩
            rw [HNV.out.1, HNV.out.2] at hgs
            obtain rfl := ins_not hk1 hno hgs
            clear hgs hno
          case' true =>
            have hno : Named N 0 j name := hbn.1 rfl
            clear hbn
            go_wp2_with fail
            refine (get_any p4 (some ⟨g3, 0, .none⟩) x cap3 N V name _ (by omega) H1.1 H1.2).mono ?_
            rintro e _ ⟨go, rfl, hgo, rfl⟩
            have HO : Hid (IsGet N V x name go) := hgo
            clear hgo
            go_wp2_with fail
            refine (get_any p7 (some ⟨g, 0, .none⟩) (x + 1) c N' V' name _ (by omega) H2.1 H2.2).mono ?_
            rintro e _ ⟨gs, rfl, hgs, rfl⟩
            rw [HNV.out.1, HNV.out.2] at hgs
            obtain rfl := ins_named hk1 hno hgs HO.out
            clear hgs hno HO
          all_goals
            cases hE : (other.toList == name.toList)
            · go_wp2_with fail
              refine (get_any p7 (some ⟨g, 0, .none⟩) (x + 1) c N' V' other _ (by omega) H2.1 H2.2).mono ?_
              rintro e _ ⟨g8, rfl, hg8, rfl⟩
              have HO : Hid (IsGet N' V' (x + 1) other g8) := hg8
              clear hg8
              go_wp2_with fail
              refine (get_any p4 (some ⟨g3, 0, .none⟩) x cap3 N V other _ (by omega) H1.1 H1.2).mono ?_
              rintro e _ ⟨g9, rfl, hg9, rfl⟩
              have HP := HO.out
              rw [HNV.out.1, HNV.out.2] at HP
              obtain rfl := ins_other hk1 (str_ne.1 hE) HP hg9
              clear hg9 HP HO
              go_wp2_with fail
              go_ret
              exact ⟨rfl, C7.bel⟩
            · go_wp2_with fail
              go_ret
              exact ⟨rfl, C7.bel⟩
end Go.Proofs.Qxb6628022a
