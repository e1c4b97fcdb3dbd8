/-
  WALKS: strings.Builder over this dump: copyCheck (16), WriteByte (13), WriteString (14), String (15). After the shelf's own texts (Derived/Shelf/Strings/Builder1.lean, BuilderK.lean), turned to this program's numbers.
-/
import Derived.Test.Qxb6628603aProg
import Derived.Lib.Strings
import Derived.Lib.Walk
import Derived.Lib.Builder
import Derived.Lib.AppendStr
import Derived.Shelf.Strings.Builder1
import Derived.Lib.OwnKind
import Derived.WalkKit
import Derived.WalkSpells
import Derived.WalkLawsBesides
import Derived.Laws.Externs
namespace Go.Proofs.Qxb6628603a
open Go.RowKit

theorem sizeBuilder : (Try.prog.info? 39).map (·.size) = some 2 := by kernel_rfl
theorem liesBuilder : liesAt Try.prog Try.prog.depth 39 (2 / Try.prog.cellsOf 39) 0 39 1 = true := by kernel_rfl
theorem info5 : (Try.prog.info? 5).map (fun i => (i.zero, i.size, i.bytes)) = some (some (.int .u8 0), 1, 1) := by kernel_rfl
theorem cells5 : Try.prog.cellsOf 5 = 1 := by kernel_rfl

set_option maxHeartbeats 1000000 in
set_option maxRecDepth 100000 in
theorem check_used (b : Nat) (w : World) (h0 : w.cell? ⟨b, 0, .none⟩ = some (.pointer (some ⟨b, 0, .none⟩))) :
    Calls Try.prog 16 #[.pointer (some ⟨b, 0, .none⟩)] w fun e w' => e = .returned (.tuple #[]) ∧ w' = w := by
  obtain ⟨j, hj, _⟩ := Option.map_eq_some_iff.1 sizeBuilder
  go_enter Try.func16, Try.ntmps16
  go_wp2
  rw [Lib.run_neq_ptr_same w _ Try.underlying36 hj]
  go_wp2
  go_end0
  exact ⟨rfl, rfl⟩

/-- The shelf's numbers of copyCheck's and String's closures, in this dump's numbers. -/
def lay240 : Go.Shelf.Ren := ⟨fun | 240 => 16 | 276 => 17 | n => n, fun | 70 => 36 | 72 => 39 | 37 => 37 | 127 => 45 | 164 => 46 | n => n, fun | n => n⟩
def lay169 : Go.Shelf.Ren := ⟨fun | 169 => 15 | n => n, fun | 70 => 36 | 72 => 39 | 37 => 37 | 127 => 45 | n => n, fun | n => n⟩

theorem lays240 : Lays.n240 Try.prog lay240 := {
  mixed := by kernel_rfl
  f240 := Try.func16.trans (congrArg some (by kernel_rfl))
  f276 := Try.func17.trans (congrArg some (by kernel_rfl))
  t0 := Try.underlying0
  a0 := Try.isAgg0
  z0 := Try.sizeOf0
  v0 := Try.zeroValue0
  t4 := Try.underlying4
  a4 := Try.isAgg4
  z4 := Try.sizeOf4
  v4 := Try.zeroValue4
  t9 := Try.underlying9
  a9 := Try.isAgg9
  z9 := Try.sizeOf9
  v9 := Try.zeroValue9
  t20 := Try.underlying20
  a20 := Try.isAgg20
  z20 := Try.sizeOf20
  v20 := Try.zeroValue20
  t70 := Try.underlying36
  a70 := Try.isAgg36
  z70 := Try.sizeOf36
  v70 := Try.zeroValue36
  t72 := Try.underlying39
  a72 := Try.isAgg39
  z72 := Try.sizeOf39
  v72 := Try.zeroValue39
  t164 := Try.underlying46
  a164 := Try.isAgg46
  z164 := Try.sizeOf46
  v164 := Try.zeroValue46 }

theorem lays169 : Lays.n169 Try.prog lay169 := {
  mixed := by kernel_rfl
  f169 := Try.func15.trans (congrArg some (by kernel_rfl))
  t0 := Try.underlying0
  a0 := Try.isAgg0
  z0 := Try.sizeOf0
  v0 := Try.zeroValue0
  t3 := Try.underlying3
  a3 := Try.isAgg3
  z3 := Try.sizeOf3
  v3 := Try.zeroValue3
  t9 := Try.underlying9
  a9 := Try.isAgg9
  z9 := Try.sizeOf9
  v9 := Try.zeroValue9
  t37 := Try.underlying37
  a37 := Try.isAgg37
  z37 := Try.sizeOf37
  v37 := Try.zeroValue37
  t70 := Try.underlying36
  a70 := Try.isAgg36
  z70 := Try.sizeOf36
  v70 := Try.zeroValue36
  t72 := Try.underlying39
  a72 := Try.isAgg39
  z72 := Try.sizeOf39
  v72 := Try.zeroValue39
  t127 := Try.underlying45
  a127 := Try.isAgg45
  z127 := Try.sizeOf45
  v127 := Try.zeroValue45 }

theorem extra240 : Builder.X72 Try.prog lay240 := {
  sizeBuilder := sizeBuilder
  liesBuilder := liesBuilder }

theorem extra169 : Builder.Extra Try.prog lay169 := {
  sizeBuilder := sizeBuilder
  liesBuilder := liesBuilder
  t5 := Try.underlying5
  a5 := Try.isAgg5
  z5 := Try.sizeOf5
  v5 := Try.zeroValue5
  infoByte := info5
  cellsByte := cells5
  sizeByte := by kernel_rfl
  neB5 := by decide }

theorem check_fresh (b : Nat) (w : World) (h0 : w.cell? ⟨b, 0, .none⟩ = some (.pointer .none)) (hsh : w.shape? b = some (39, 2)) (hfz : w.frozen? ⟨b, 0, .none⟩ = false) :
    Calls Try.prog 16 #[.pointer (some ⟨b, 0, .none⟩)] w fun e w' => e = .returned (.tuple #[]) ∧ w' = w.setCell ⟨b, 0, .none⟩ (.pointer (some ⟨b, 0, .none⟩)) :=
  Any.Builder_copyCheck_fresh lays240 extra240 b w h0 hsh hfz

/-- The builder in block b holds the bytes l; it may be fresh or used. -/
def Bld (B b : Nat) (l : List UInt8) (w : World) : Prop := Lib.IsBuilder 39 5 B b (Lib.byteCells l) w

def stepPost (B b : Nat) (l : List UInt8) (w w' : World) : Prop := Bld B b l w' ∧ Below B w w' ∧ Lib.OthersKept 5 (some b) w w'

theorem check_any (B b : Nat) (bs : List Value) (w : World) (h : Lib.IsBuilder 39 5 B b bs w) :
    Calls Try.prog 16 #[.pointer (some ⟨b, 0, .none⟩)] w fun e w' => e = .returned (.tuple #[]) ∧ (Lib.BuilderAt 39 5 B b (.pointer (some ⟨b, 0, .none⟩)) bs w' ∧ Below B w w' ∧ Lib.OthersKept 5 (some b) w w') := by
  rcases h with h | h
  · refine (check_fresh b w h.cell0 h.shape h.frozen0).mono ?_
    rintro e w' ⟨rfl, rfl⟩
    exact ⟨rfl, h.used _, (Below.refl B w).setCell (p := ⟨b, 0, .none⟩) h.1 _, (Lib.OthersKept.refl _ _ w).setCell ⟨b, 0, .none⟩ rfl _⟩
  · refine (check_used b w h.cell0).mono ?_
    rintro e w' ⟨rfl, rfl⟩
    exact ⟨rfl, h, Below.refl B _, Lib.OthersKept.refl _ _ _⟩

set_option maxHeartbeats 2000000 in
set_option maxRecDepth 100000 in
theorem byte_core (B b : Nat) (bs : List Value) (cv : Int) (w : World) (h : Lib.IsBuilder 39 5 B b bs w) (hlen : bs.length + 1 ≤ 140737488355328) (hBw : B ≤ w.heap.size) :
    Calls Try.prog 13 #[.pointer (some ⟨b, 0, .none⟩), .int .u8 cv] w fun e w' => e = .returned .nilIface ∧ (Lib.BuilderAt 39 5 B b (.pointer (some ⟨b, 0, .none⟩)) (bs ++ [.int .u8 cv]) w' ∧ Below B w w' ∧ Lib.OthersKept 5 (some b) w w') := by
  obtain ⟨i0, hi, hz0, hz1, hz2⟩ := info_parts info5
  go_enter Try.func13, Try.ntmps13
  go_wp2_with (go_at_call 16; refine (check_any B b bs _ h).mono ?_)
  rintro e w1 ⟨rfl, h1, hb1, hk1⟩
  obtain ⟨hB, v, hbk, hown, hne⟩ := h1
  have c0 : w1.cell? ⟨b, 0, .none⟩ = some (.pointer (some ⟨b, 0, .none⟩)) := by rw [Lib.cell_of_heap hbk]; rfl
  have c1 : w1.cell? ⟨b, 1, .none⟩ = some v := by rw [Lib.cell_of_heap hbk]; rfl
  go_wp2_with (at_builtin; refine wpList_append_own _ rfl _ _ 37 rfl B 5 i0 (.int .u8 0) 1 1 Try.underlying37 hi hz0 hz1 hz2 rfl (by decide) _ _ _ rfl (hown.alloc _) ⟨w1.heap.size, 0, .none⟩ 1 1 [.int .u8 cv] rfl rfl ?c1 ?c2 ?c3 ?c4 ?c5 ?_)
  case c1 =>
    intro j u hj
    match j, hj with
    | 0, hj => simp at hj; subst hj; simp [Addr.add]
  case c2 => intro u hu; simp at hu; subst hu; rfl
  case c3 => unfold maxLen; omega
  case c4 => omega
  case c5 => have := hb1.size; simp; omega
  intro v' w2 hown' hgrow _
  have hlt : b < w1.heap.size := by
    rcases Nat.lt_or_ge b w1.heap.size with h' | h'
    · exact h'
    · simp [Array.getElem?_eq_none h'] at hbk
  have hb2 : w2.heap[b]? = some (.cells #[.pointer (some ⟨b, 0, .none⟩), v] 39 (0, 0)) := by
    rw [hgrow.block b (by simp; omega) (fun e => hne e.symm), Lib.alloc_old w1 _ b hlt]
    exact hbk
  have d0 : w2.cell? ⟨b, 0, .none⟩ = some (.pointer (some ⟨b, 0, .none⟩)) := by rw [Lib.cell_of_heap hb2]; rfl
  have d1 : w2.cell? ⟨b, 1, .none⟩ = some v := by rw [Lib.cell_of_heap hb2]; rfl
  have f1 : w2.frozen? ⟨b, 1, .none⟩ = false := Lib.frozen_of_heap hb2 1
  obtain ⟨g, cap, rfl⟩ : ∃ g cap, v' = .slice (some ⟨g, 0, .none⟩) (bs.length + 1) cap := by
    rcases hown'.2 with ⟨_, h0⟩ | ⟨g, cap, cur, hv, _⟩
    · omega
    · exact ⟨g, cap, hv⟩
  go_wp2
  go_ret
  refine ⟨rfl, ?_, ?_, ((hk1.alloc _).grown hgrow (Lib.ownsRow_kind (hown.alloc _))).setCell ⟨b, 1, .none⟩ rfl _⟩
  · exact Lib.BuilderAt.put (T := 39) (e := 5) hB hb2 (bs' := bs ++ [.int .u8 cv]) (by simpa using hown') (by decide)
  · exact ((hb1.alloc (by have := hb1.size; omega) _).grown hgrow (by have := hb1.size; simp; omega) (fun k hk => (hown.lt k hk).1)).setCell (p := ⟨b, 1, .none⟩) hB _

set_option maxHeartbeats 2000000 in
set_option maxRecDepth 100000 in
theorem str_core (B b : Nat) (bs : List Value) (s : ByteArray) (w : World) (h : Lib.IsBuilder 39 5 B b bs w) (hlen : bs.length + s.size ≤ 140737488355328) (hBw : B ≤ w.heap.size) :
    Calls Try.prog 14 #[.pointer (some ⟨b, 0, .none⟩), .string s] w fun e w' => e = .returned (.tuple #[.int .i64 s.size, .nilIface]) ∧ (Lib.BuilderAt 39 5 B b (.pointer (some ⟨b, 0, .none⟩)) (bs ++ Lib.strCells s) w' ∧ Below B w w' ∧ Lib.OthersKept 5 (some b) w w') := by
  obtain ⟨i0, hi, hz0, hz1, hz2⟩ := info_parts info5
  go_enter Try.func14, Try.ntmps14
  go_wp2_with (go_at_call 16; refine (check_any B b bs _ h).mono ?_)
  rintro e w1 ⟨rfl, h1, hb1, hk1⟩
  obtain ⟨hB, v, hbk, hown, hne⟩ := h1
  have c0 : w1.cell? ⟨b, 0, .none⟩ = some (.pointer (some ⟨b, 0, .none⟩)) := by rw [Lib.cell_of_heap hbk]; rfl
  have c1 : w1.cell? ⟨b, 1, .none⟩ = some v := by rw [Lib.cell_of_heap hbk]; rfl
  go_wp2_with (at_builtin; refine Lib.wpList_append_own_string _ rfl _ _ 37 9 rfl B 5 i0 Try.underlying37 Try.underlying9 hi hz0 hz1 hz2 _ _ _ rfl hown s rfl ?c3 ?c4 ?c5 ?_)
  case c3 => unfold maxLen; omega
  case c4 => omega
  case c5 => have := hb1.size; omega
  intro v' w2 hown' hgrow _
  have hlt : b < w1.heap.size := by
    rcases Nat.lt_or_ge b w1.heap.size with h' | h'
    · exact h'
    · simp [Array.getElem?_eq_none h'] at hbk
  have hb2 : w2.heap[b]? = some (.cells #[.pointer (some ⟨b, 0, .none⟩), v] 39 (0, 0)) := by
    rw [hgrow.block b hlt (fun e => hne e.symm)]
    exact hbk
  have d0 : w2.cell? ⟨b, 0, .none⟩ = some (.pointer (some ⟨b, 0, .none⟩)) := by rw [Lib.cell_of_heap hb2]; rfl
  have d1 : w2.cell? ⟨b, 1, .none⟩ = some v := by rw [Lib.cell_of_heap hb2]; rfl
  have f1 : w2.frozen? ⟨b, 1, .none⟩ = false := Lib.frozen_of_heap hb2 1
  obtain ⟨ao, n', cap, rfl⟩ : ∃ ao n' cap, v' = .slice ao n' cap := by
    rcases hown'.2 with ⟨hv, _⟩ | ⟨g, cap, cur, hv, _⟩
    · exact ⟨_, _, _, hv⟩
    · exact ⟨_, _, _, hv⟩
  go_wp2
  go_ret2
  refine ⟨rfl, ?_, ?_, (hk1.grown hgrow (Lib.ownsRow_kind hown)).setCell ⟨b, 1, .none⟩ rfl _⟩
  · exact Lib.BuilderAt.put (T := 39) (e := 5) hB hb2 (bs' := bs ++ Lib.strCells s) (by simpa [Lib.strCells_length] using hown') (by decide)
  · exact (hb1.grown hgrow (by have := hb1.size; omega) (fun k hk => (hown.lt k hk).1)).setCell (p := ⟨b, 1, .none⟩) hB _

theorem byte_any (B b : Nat) (l : List UInt8) (c : UInt8) (w : World) (h : Bld B b l w) (hlen : l.length + 1 ≤ 140737488355328) (hBw : B ≤ w.heap.size) :
    Calls Try.prog 13 #[.pointer (some ⟨b, 0, .none⟩), .int .u8 (c.toNat : Int)] w fun e w' => e = .returned .nilIface ∧ stepPost B b (l ++ [c]) w w' := by
  refine (byte_core B b (Lib.byteCells l) c.toNat w h (by rw [Lib.byteCells_length]; exact hlen) hBw).mono ?_
  rintro e w' ⟨he, h1, h2, h3⟩
  have ecell : Lib.byteCells (l ++ [c]) = Lib.byteCells l ++ [.int .u8 c.toNat] := by simp [Lib.byteCells]
  exact ⟨he, .inr (by rw [ecell]; exact h1), h2, h3⟩

theorem str_any (B b : Nat) (l : List UInt8) (s : ByteArray) (w : World) (h : Bld B b l w) (hlen : l.length + s.size ≤ 140737488355328) (hBw : B ≤ w.heap.size) :
    Calls Try.prog 14 #[.pointer (some ⟨b, 0, .none⟩), .string s] w fun e w' => e = .returned (.tuple #[.int .i64 s.size, .nilIface]) ∧ stepPost B b (l ++ s.data.toList) w w' := by
  refine (str_core B b (Lib.byteCells l) s w h (by rw [Lib.byteCells_length]; exact hlen) hBw).mono ?_
  rintro e w' ⟨he, h1, h2, h3⟩
  have ecell : Lib.byteCells (l ++ s.data.toList) = Lib.byteCells l ++ Lib.strCells s := by rw [Lib.byteCells_append, Lib.strCells_eq]
  exact ⟨he, .inr (by rw [ecell]; exact h1), h2, h3⟩

/-! String -/
theorem string_some (B b : Nat) (l : List UInt8) (w : World) (h : Lib.IsBuilder 39 5 B b (Lib.byteCells l) w) (h0 : l ≠ []) :
    Calls Try.prog 15 #[.pointer (some ⟨b, 0, .none⟩)] w fun e w' => e = .returned (.string ⟨l.toArray⟩) ∧ Below B w w' :=
  Any.Builder_String lays169 extra169 B b l w h h0

theorem string_nil (B b : Nat) (p : Value) (w : World) (hbk : w.heap[b]? = some (.cells #[p, .slice .none 0 0] 39 (0, 0))) :
    Calls Try.prog 15 #[.pointer (some ⟨b, 0, .none⟩)] w fun e w' => e = .returned (.string ⟨#[]⟩) ∧ Below B w w' :=
  Any.Builder_String_nil lays169 extra169 B b p w hbk

/-- String of a builder that was never written, or holds at least one byte. -/
theorem string_any (B b : Nat) (l : List UInt8) (w : World) (h : Bld B b l w) (hnil : l = [] → ∃ p, w.heap[b]? = some (.cells #[p, .slice .none 0 0] 39 (0, 0))) :
    Calls Try.prog 15 #[.pointer (some ⟨b, 0, .none⟩)] w fun e w' => e = .returned (.string ⟨l.toArray⟩) ∧ Below B w w' := by
  cases l with
  | nil =>
    obtain ⟨p, hp⟩ := hnil rfl
    exact string_nil B b p w hp
  | cons x r => exact string_some B b (x :: r) w h (by simp)

end Go.Proofs.Qxb6628603a
