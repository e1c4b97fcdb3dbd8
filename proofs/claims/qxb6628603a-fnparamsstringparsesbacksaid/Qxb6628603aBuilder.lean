/-
  WALKS: strings.Builder over this dump: copyCheck (16), WriteByte (13), WriteString (14), String (15). After the shelf's own texts (Derived/Shelf/Strings/Builder1.lean, BuilderK.lean), turned to this program's numbers.
-/
import Derived.Test.Qxb6628603aProg
import Derived.Lib.Strings
import Derived.Lib.Walk
import Derived.Lib.Builder
import Derived.Lib.AppendStr
import Derived.Lib.UnsafeStr
import Derived.Lib.OwnKind
import Derived.WalkKit
import Derived.WalkSpells
import Derived.WalkLawsBesides
import Derived.Laws.Externs
namespace Go.Proofs.Qxb6628603a
open Go.RowKit

theorem sizeBuilder : (Try.prog.info? 39).map (·.size) = some 2 := by kernel_rfl
theorem liesBuilder : liesAt Try.prog Try.prog.depth 39 (2 / Try.prog.cellsOf 39) 0 39 1 = true := by kernel_rfl
theorem info5 : (Try.prog.info? 5).map (fun i => (i.zero, i.size, i.bytes)) = some (some (.int .u8 0), 1, 1) := by kernel_rfl
theorem cells5 : Try.prog.cellsOf 5 = 1 := by kernel_rfl

set_option maxHeartbeats 1000000 in
set_option maxRecDepth 100000 in
theorem check_used (b : Nat) (w : World) (h0 : w.cell? ⟨b, 0, .none⟩ = some (.pointer (some ⟨b, 0, .none⟩))) :
    Calls Try.prog 16 #[.pointer (some ⟨b, 0, .none⟩)] w fun e w' => e = .returned (.tuple #[]) ∧ w' = w := by
  obtain ⟨j, hj, _⟩ := Option.map_eq_some_iff.1 sizeBuilder
  go_enter Try.func16, Try.ntmps16
  go_wp2
  rw [Lib.run_neq_ptr_same w _ Try.underlying36 hj]
  go_wp2
  go_end0
  exact ⟨rfl, rfl⟩

set_option maxHeartbeats 1000000 in
set_option maxRecDepth 100000 in
theorem check_fresh (b : Nat) (w : World) (h0 : w.cell? ⟨b, 0, .none⟩ = some (.pointer .none)) (hsh : w.shape? b = some (39, 2)) (hfz : w.frozen? ⟨b, 0, .none⟩ = false) :
    Calls Try.prog 16 #[.pointer (some ⟨b, 0, .none⟩)] w fun e w' => e = .returned (.tuple #[]) ∧ w' = w.setCell ⟨b, 0, .none⟩ (.pointer (some ⟨b, 0, .none⟩)) := by
  obtain ⟨j, hj, hjs⟩ := Option.map_eq_some_iff.1 sizeBuilder
  go_enter Try.func16, Try.ntmps16
  go_wp2
  rw [Lib.run_to_unsafe w ⟨b, 0, .none⟩ Try.underlying36 Try.underlying46 hj (by rw [hjs]; decide) hsh (Nat.zero_lt_succ 1)]
  simp only [Result.andThen]
  rw [Oper.upon_value]
  go_wp2
  rw [run_callFunc_extern Try.func17 (by kernel_rfl) (by kernel_rfl) (by kernel_rfl) (e := Extern.AbiNoEscape.same) (by kernel_rfl)]
  rw [Lib.run_noEscape]
  simp only [Result.andThen]
  rw [Oper.upon_value]
  go_wp2
  rw [Lib.run_from_unsafe w ⟨b, 0, .none⟩ Try.underlying46 Try.underlying36 hj hsh liesBuilder]
  simp only [Result.andThen]
  rw [Oper.upon_value]
  go_wp2
  go_end0
  exact ⟨rfl, rfl⟩

/-- The builder in block b holds the bytes l; it may be fresh or used. -/
def Bld (B b : Nat) (l : List UInt8) (w : World) : Prop := Lib.IsBuilder 39 5 B b (Lib.byteCells l) w

def stepPost (B b : Nat) (l : List UInt8) (w w' : World) : Prop := Bld B b l w' ∧ Below B w w' ∧ Lib.OthersKept 5 (some b) w w'

theorem check_any (B b : Nat) (bs : List Value) (w : World) (h : Lib.IsBuilder 39 5 B b bs w) :
    Calls Try.prog 16 #[.pointer (some ⟨b, 0, .none⟩)] w fun e w' => e = .returned (.tuple #[]) ∧ (Lib.BuilderAt 39 5 B b (.pointer (some ⟨b, 0, .none⟩)) bs w' ∧ Below B w w' ∧ Lib.OthersKept 5 (some b) w w') := by
  rcases h with h | h
  · refine (check_fresh b w h.cell0 h.shape h.frozen0).mono ?_
    rintro e w' ⟨rfl, rfl⟩
    exact ⟨rfl, h.used _, (Below.refl B w).setCell (p := ⟨b, 0, .none⟩) h.1 _, (Lib.OthersKept.refl _ _ w).setCell ⟨b, 0, .none⟩ rfl _⟩
  · refine (check_used b w h.cell0).mono ?_
    rintro e w' ⟨rfl, rfl⟩
    exact ⟨rfl, h, Below.refl B _, Lib.OthersKept.refl _ _ _⟩

set_option maxHeartbeats 2000000 in
set_option maxRecDepth 100000 in
theorem byte_core (B b : Nat) (bs : List Value) (cv : Int) (w : World) (h : Lib.IsBuilder 39 5 B b bs w) (hlen : bs.length + 1 ≤ 140737488355328) (hBw : B ≤ w.heap.size) :
    Calls Try.prog 13 #[.pointer (some ⟨b, 0, .none⟩), .int .u8 cv] w fun e w' => e = .returned .nilIface ∧ (Lib.BuilderAt 39 5 B b (.pointer (some ⟨b, 0, .none⟩)) (bs ++ [.int .u8 cv]) w' ∧ Below B w w' ∧ Lib.OthersKept 5 (some b) w w') := by
  obtain ⟨i0, hi, hz0, hz1, hz2⟩ := info_parts info5
  go_enter Try.func13, Try.ntmps13
  go_wp2_with (go_at_call 16; refine (check_any B b bs _ h).mono ?_)
  rintro e w1 ⟨rfl, h1, hb1, hk1⟩
  obtain ⟨hB, v, hbk, hown, hne⟩ := h1
  have c0 : w1.cell? ⟨b, 0, .none⟩ = some (.pointer (some ⟨b, 0, .none⟩)) := by rw [Lib.cell_of_heap hbk]; rfl
  have c1 : w1.cell? ⟨b, 1, .none⟩ = some v := by rw [Lib.cell_of_heap hbk]; rfl
  go_wp2_with (at_builtin; refine wpList_append_own _ rfl _ _ 37 rfl B 5 i0 (.int .u8 0) 1 1 Try.underlying37 hi hz0 hz1 hz2 rfl (by decide) _ _ _ rfl (hown.alloc _) ⟨w1.heap.size, 0, .none⟩ 1 1 [.int .u8 cv] rfl rfl ?c1 ?c2 ?c3 ?c4 ?c5 ?_)
  case c1 =>
    intro j u hj
    match j, hj with
    | 0, hj => simp at hj; subst hj; simp [Addr.add]
  case c2 => intro u hu; simp at hu; subst hu; rfl
  case c3 => unfold maxLen; omega
  case c4 => omega
  case c5 => have := hb1.size; simp; omega
  intro v' w2 hown' hgrow _
  have hlt : b < w1.heap.size := by
    rcases Nat.lt_or_ge b w1.heap.size with h' | h'
    · exact h'
    · simp [Array.getElem?_eq_none h'] at hbk
  have hb2 : w2.heap[b]? = some (.cells #[.pointer (some ⟨b, 0, .none⟩), v] 39 (0, 0)) := by
    rw [hgrow.block b (by simp; omega) (fun e => hne e.symm), Lib.alloc_old w1 _ b hlt]
    exact hbk
  have d0 : w2.cell? ⟨b, 0, .none⟩ = some (.pointer (some ⟨b, 0, .none⟩)) := by rw [Lib.cell_of_heap hb2]; rfl
  have d1 : w2.cell? ⟨b, 1, .none⟩ = some v := by rw [Lib.cell_of_heap hb2]; rfl
  have f1 : w2.frozen? ⟨b, 1, .none⟩ = false := Lib.frozen_of_heap hb2 1
  obtain ⟨g, cap, rfl⟩ : ∃ g cap, v' = .slice (some ⟨g, 0, .none⟩) (bs.length + 1) cap := by
    rcases hown'.2 with ⟨_, h0⟩ | ⟨g, cap, cur, hv, _⟩
    · omega
    · exact ⟨g, cap, hv⟩
  go_wp2
  go_ret
  refine ⟨rfl, ?_, ?_, ((hk1.alloc _).grown hgrow (Lib.ownsRow_kind (hown.alloc _))).setCell ⟨b, 1, .none⟩ rfl _⟩
  · exact Lib.BuilderAt.put (T := 39) (e := 5) hB hb2 (bs' := bs ++ [.int .u8 cv]) (by simpa using hown') (by decide)
  · exact ((hb1.alloc (by have := hb1.size; omega) _).grown hgrow (by have := hb1.size; simp; omega) (fun k hk => (hown.lt k hk).1)).setCell (p := ⟨b, 1, .none⟩) hB _

set_option maxHeartbeats 2000000 in
set_option maxRecDepth 100000 in
theorem str_core (B b : Nat) (bs : List Value) (s : ByteArray) (w : World) (h : Lib.IsBuilder 39 5 B b bs w) (hlen : bs.length + s.size ≤ 140737488355328) (hBw : B ≤ w.heap.size) :
    Calls Try.prog 14 #[.pointer (some ⟨b, 0, .none⟩), .string s] w fun e w' => e = .returned (.tuple #[.int .i64 s.size, .nilIface]) ∧ (Lib.BuilderAt 39 5 B b (.pointer (some ⟨b, 0, .none⟩)) (bs ++ Lib.strCells s) w' ∧ Below B w w' ∧ Lib.OthersKept 5 (some b) w w') := by
  obtain ⟨i0, hi, hz0, hz1, hz2⟩ := info_parts info5
  go_enter Try.func14, Try.ntmps14
  go_wp2_with (go_at_call 16; refine (check_any B b bs _ h).mono ?_)
  rintro e w1 ⟨rfl, h1, hb1, hk1⟩
  obtain ⟨hB, v, hbk, hown, hne⟩ := h1
  have c0 : w1.cell? ⟨b, 0, .none⟩ = some (.pointer (some ⟨b, 0, .none⟩)) := by rw [Lib.cell_of_heap hbk]; rfl
  have c1 : w1.cell? ⟨b, 1, .none⟩ = some v := by rw [Lib.cell_of_heap hbk]; rfl
  go_wp2_with (at_builtin; refine Lib.wpList_append_own_string _ rfl _ _ 37 9 rfl B 5 i0 Try.underlying37 Try.underlying9 hi hz0 hz1 hz2 _ _ _ rfl hown s rfl ?c3 ?c4 ?c5 ?_)
  case c3 => unfold maxLen; omega
  case c4 => omega
  case c5 => have := hb1.size; omega
  intro v' w2 hown' hgrow _
  have hlt : b < w1.heap.size := by
    rcases Nat.lt_or_ge b w1.heap.size with h' | h'
    · exact h'
    · simp [Array.getElem?_eq_none h'] at hbk
  have hb2 : w2.heap[b]? = some (.cells #[.pointer (some ⟨b, 0, .none⟩), v] 39 (0, 0)) := by
    rw [hgrow.block b hlt (fun e => hne e.symm)]
    exact hbk
  have d0 : w2.cell? ⟨b, 0, .none⟩ = some (.pointer (some ⟨b, 0, .none⟩)) := by rw [Lib.cell_of_heap hb2]; rfl
  have d1 : w2.cell? ⟨b, 1, .none⟩ = some v := by rw [Lib.cell_of_heap hb2]; rfl
  have f1 : w2.frozen? ⟨b, 1, .none⟩ = false := Lib.frozen_of_heap hb2 1
  obtain ⟨ao, n', cap, rfl⟩ : ∃ ao n' cap, v' = .slice ao n' cap := by
    rcases hown'.2 with ⟨hv, _⟩ | ⟨g, cap, cur, hv, _⟩
    · exact ⟨_, _, _, hv⟩
    · exact ⟨_, _, _, hv⟩
  go_wp2
  go_ret2
  refine ⟨rfl, ?_, ?_, (hk1.grown hgrow (Lib.ownsRow_kind hown)).setCell ⟨b, 1, .none⟩ rfl _⟩
  · exact Lib.BuilderAt.put (T := 39) (e := 5) hB hb2 (bs' := bs ++ Lib.strCells s) (by simpa [Lib.strCells_length] using hown') (by decide)
  · exact (hb1.grown hgrow (by have := hb1.size; omega) (fun k hk => (hown.lt k hk).1)).setCell (p := ⟨b, 1, .none⟩) hB _

theorem byte_any (B b : Nat) (l : List UInt8) (c : UInt8) (w : World) (h : Bld B b l w) (hlen : l.length + 1 ≤ 140737488355328) (hBw : B ≤ w.heap.size) :
    Calls Try.prog 13 #[.pointer (some ⟨b, 0, .none⟩), .int .u8 (c.toNat : Int)] w fun e w' => e = .returned .nilIface ∧ stepPost B b (l ++ [c]) w w' := by
  refine (byte_core B b (Lib.byteCells l) c.toNat w h (by rw [Lib.byteCells_length]; exact hlen) hBw).mono ?_
  rintro e w' ⟨he, h1, h2, h3⟩
  have ecell : Lib.byteCells (l ++ [c]) = Lib.byteCells l ++ [.int .u8 c.toNat] := by simp [Lib.byteCells]
  exact ⟨he, .inr (by rw [ecell]; exact h1), h2, h3⟩

theorem str_any (B b : Nat) (l : List UInt8) (s : ByteArray) (w : World) (h : Bld B b l w) (hlen : l.length + s.size ≤ 140737488355328) (hBw : B ≤ w.heap.size) :
    Calls Try.prog 14 #[.pointer (some ⟨b, 0, .none⟩), .string s] w fun e w' => e = .returned (.tuple #[.int .i64 s.size, .nilIface]) ∧ stepPost B b (l ++ s.data.toList) w w' := by
  refine (str_core B b (Lib.byteCells l) s w h (by rw [Lib.byteCells_length]; exact hlen) hBw).mono ?_
  rintro e w' ⟨he, h1, h2, h3⟩
  have ecell : Lib.byteCells (l ++ s.data.toList) = Lib.byteCells l ++ Lib.strCells s := by rw [Lib.byteCells_append, Lib.strCells_eq]
  exact ⟨he, .inr (by rw [ecell]; exact h1), h2, h3⟩

/-! String -/
theorem unsafeString_none (W : World) (q : Option Addr) : (Builtin.unsafeString_ #[45, 3] 9 #[.pointer q, .int .i64 0]).run Try.prog W = .ok (.string .empty) W :=
  Lib.run_unsafeString_none W _ _ _ q

set_option maxHeartbeats 1000000 in
set_option maxRecDepth 100000 in
theorem string_some (B b : Nat) (l : List UInt8) (w : World) (h : Lib.IsBuilder 39 5 B b (Lib.byteCells l) w) (h0 : l ≠ []) :
    Calls Try.prog 15 #[.pointer (some ⟨b, 0, .none⟩)] w fun e w' => e = .returned (.string ⟨l.toArray⟩) ∧ Below B w w' := by
  obtain ⟨p, hB, v, hbk, hown, hne⟩ : ∃ p, Lib.BuilderAt 39 5 B b p (Lib.byteCells l) w := by
    rcases h with h | h
    · exact ⟨_, h⟩
    · exact ⟨_, h⟩
  have hl0 : l.length ≠ 0 := by simpa using h0
  rw [Lib.byteCells_length] at hown
  obtain ⟨g, cap, cur, rfl, hbg, hg, hnc, hcm, hcs, htake⟩ : ∃ g cap cur, v = .slice (some ⟨g, 0, .none⟩) l.length cap ∧ B ≤ g ∧ w.heap[g]? = some (.cells cur 5 (0, 0)) ∧ l.length ≤ cap ∧ cap ≤ maxLen ∧ cur.size = cap * 1 ∧ cur.toList.take (l.length * 1) = Lib.byteCells l := by
    rcases hown.2 with ⟨_, hz⟩ | ⟨g, cap, cur, hv, r⟩
    · exact absurd hz hl0
    · exact ⟨g, cap, cur, hv, r⟩
  have c1 : w.drew.cell? ⟨b, 1, .none⟩ = some (.slice (some ⟨g, 0, .none⟩) l.length cap) := by
    have : w.drew.heap[b]? = some (.cells #[p, .slice (some ⟨g, 0, .none⟩) l.length cap] 39 (0, 0)) := hbk
    rw [Lib.cell_of_heap this]; rfl
  have hSD : (Builtin.unsafeSliceData_ #[37] 45 #[.slice (some ⟨g, 0, .none⟩) l.length cap]).run Try.prog w.drew = .ok (.pointer (some ⟨g, 0, .none⟩)) w.drew :=
    Lib.run_unsafeSliceData_row _ _ _ _ _ _ (by omega)
  have hUS : (Builtin.unsafeString_ #[45, 3] 9 #[.pointer (some ⟨g, 0, .none⟩), .int .i64 l.length]).run Try.prog w.drew = .ok (.string ⟨l.toArray⟩) (w.drew.freeze ⟨g, 0, .none⟩ l.length) := by
    refine Lib.run_unsafeString_row w.drew 45 3 9 5 Try.underlying45 cells5 g cur.size (by have hg' : w.drew.heap[g]? = some (.cells cur 5 (0, 0)) := hg; simp [World.shape?, hg']) l h0 (by omega) (by unfold maxLen at hcm; omega) ?_
    intro j x hx
    have := hown.cells (g := g) rfl j (.int .u8 x.toNat) (by simp [Lib.byteCells, hx])
    exact this
  go_enter Try.func15, Try.ntmps15
  go_wp2
  go_region
  all_goals (go_wp2; go_ret; exact ⟨rfl, Lib.below_freeze (Below.drew (Below.refl B w)) (p := ⟨g, 0, .none⟩) hbg _⟩)

set_option maxHeartbeats 2000000 in
set_option maxRecDepth 100000 in
theorem string_nil (B b : Nat) (p : Value) (w : World) (hbk : w.heap[b]? = some (.cells #[p, .slice .none 0 0] 39 (0, 0))) :
    Calls Try.prog 15 #[.pointer (some ⟨b, 0, .none⟩)] w fun e w' => e = .returned (.string ⟨#[]⟩) ∧ Below B w w' := by
  have hUS := unsafeString_none
  have c1 : w.drew.cell? ⟨b, 1, .none⟩ = some (.slice .none 0 0) := by
    have : w.drew.heap[b]? = some (.cells #[p, .slice .none 0 0] 39 (0, 0)) := hbk
    rw [Lib.cell_of_heap this]; rfl
  have hSD : (Builtin.unsafeSliceData_ #[37] 45 #[.slice .none 0 0]).run Try.prog w.drew = .ok (.pointer .none) w.drew := rfl
  clear hbk
  go_enter Try.func15, Try.ntmps15
  go_wp2
  go_region
  all_goals (go_wp2; go_ret; exact ⟨rfl, Below.drew (Below.refl B w)⟩)

/-- String of a builder that was never written, or holds at least one byte. -/
theorem string_any (B b : Nat) (l : List UInt8) (w : World) (h : Bld B b l w) (hnil : l = [] → ∃ p, w.heap[b]? = some (.cells #[p, .slice .none 0 0] 39 (0, 0))) :
    Calls Try.prog 15 #[.pointer (some ⟨b, 0, .none⟩)] w fun e w' => e = .returned (.string ⟨l.toArray⟩) ∧ Below B w w' := by
  cases l with
  | nil =>
    obtain ⟨p, hp⟩ := hnil rfl
    exact string_nil B b p w hp
  | cons x r => exact string_some B b (x :: r) w h (by simp)

end Go.Proofs.Qxb6628603a
