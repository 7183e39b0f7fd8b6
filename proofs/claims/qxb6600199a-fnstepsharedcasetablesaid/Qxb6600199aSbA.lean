/-
  strings.Builder at this program: copyCheck (44), grow (45), Grow (39) at a fresh builder, WriteByte (41), WriteString (40), String (42). After the shelf's own make.
-/
import Derived.Test.Qxb6600199aRows
import Derived.WalkKit
import Derived.WalkSpells
import Derived.WalkLawsBesides
import Derived.Lib.Builder
import Derived.Lib.AppendStr
import Derived.Lib.UnsafeStr
import Derived.Laws.Externs
import Derived.Laws.IdiomCopy
import Derived.RegionTactic
import Derived.ChangeAlike
import Derived.BigRegion
import Derived.Deep.QuietTactic
import Derived.BigQuiet
namespace Go.Proofs.Qxb6600199a
open Go.RowKit

theorem hide {p : Prop} (h : p) : Hid p := h
theorem unhide {p : Prop} (h : Hid p) : p := h

theorem sizeBuilder : (Try.prog.info? 71).map (·.size) = some 2 := by kernel_rfl
theorem liesBuilder : liesAt Try.prog Try.prog.depth 71 (2 / Try.prog.cellsOf 71) 0 71 1 = true := by kernel_rfl
theorem infoByte : (Try.prog.info? 5).map (fun i => (i.zero, i.size, i.bytes)) = some (some (.int .u8 0), 1, 1) := by kernel_rfl
theorem cellsByte : Try.prog.cellsOf 5 = 1 := by kernel_rfl
theorem sizeByte : (Try.prog.info? 5).map (·.size) = some 1 := by kernel_rfl

set_option maxHeartbeats 1000000 in
set_option maxRecDepth 100000 in
theorem copyCheck_used (b : Nat) (w : World) (h0 : w.cell? ⟨b, 0, none⟩ = some (.pointer (some ⟨b, 0, none⟩))) :
    Calls Try.prog 44 #[.pointer (some ⟨b, 0, none⟩)] w fun e w' => e = .returned (.tuple #[]) ∧ w' = w := by
  obtain ⟨j, hj, _⟩ := Option.map_eq_some_iff.1 sizeBuilder
  go_enter Try.func44, Try.ntmps44
  go_wp2
  rw [Lib.run_neq_ptr_same w _ Try.underlying69 hj]
  go_wp2
  go_end0
  exact ⟨rfl, rfl⟩

set_option maxHeartbeats 1000000 in
set_option maxRecDepth 100000 in
theorem copyCheck_fresh (b : Nat) (w : World) (h0 : w.cell? ⟨b, 0, none⟩ = some (.pointer none)) (hsh : w.shape? b = some (71, 2)) (hfz : w.frozen? ⟨b, 0, none⟩ = false) :
    Calls Try.prog 44 #[.pointer (some ⟨b, 0, none⟩)] w fun e w' => e = .returned (.tuple #[]) ∧ w' = w.setCell ⟨b, 0, none⟩ (.pointer (some ⟨b, 0, none⟩)) := by
  obtain ⟨j, hj, hjs⟩ := Option.map_eq_some_iff.1 sizeBuilder
  go_enter Try.func44, Try.ntmps44
  go_wp2
  rw [Lib.run_to_unsafe w ⟨b, 0, none⟩ Try.underlying69 Try.underlying81 hj (by rw [hjs]; decide) hsh (Nat.zero_lt_succ 1)]
  simp only [Result.andThen]
  rw [Oper.upon_value]
  go_wp2
  rw [run_callFunc_extern Try.func46 (by kernel_rfl) (by kernel_rfl) (by kernel_rfl) (e := Extern.AbiNoEscape.same) (by kernel_rfl)]
  rw [Lib.run_noEscape]
  simp only [Result.andThen]
  rw [Oper.upon_value]
  go_wp2
  rw [Lib.run_from_unsafe w ⟨b, 0, none⟩ Try.underlying81 Try.underlying69 hj hsh liesBuilder]
  simp only [Result.andThen]
  rw [Oper.upon_value]
  go_wp2
  go_end0
  exact ⟨rfl, rfl⟩

theorem copyCheck_any (B b : Nat) (bs : List Value) (w : World) (h : Lib.IsBuilder 71 5 B b bs w) :
    Calls Try.prog 44 #[.pointer (some ⟨b, 0, none⟩)] w fun e w' => e = .returned (.tuple #[]) ∧ (Lib.BuilderAt 71 5 B b (.pointer (some ⟨b, 0, none⟩)) bs w' ∧ Below B w w') := by
  rcases h with h | h
  · refine (copyCheck_fresh b w h.cell0 h.shape h.frozen0).mono ?_
    rintro e w' ⟨rfl, rfl⟩
    exact ⟨rfl, h.used _, (Below.refl B w).setCell (p := ⟨b, 0, none⟩) h.1 _⟩
  · refine (copyCheck_used b w h.cell0).mono ?_
    rintro e w' ⟨rfl, rfl⟩
    exact ⟨rfl, h, Below.refl B _⟩

set_option maxHeartbeats 2000000 in
set_option maxRecDepth 100000 in
theorem writeByte_any (B b : Nat) (bs : List Value) (c : Int) (w : World) (h : Lib.IsBuilder 71 5 B b bs w) (hlen : bs.length + 1 ≤ 140737488355328) (hBw : B ≤ w.heap.size) :
    Calls Try.prog 41 #[.pointer (some ⟨b, 0, none⟩), .int .u8 c] w fun e w' => e = .returned .nilIface ∧ (Lib.BuilderAt 71 5 B b (.pointer (some ⟨b, 0, none⟩)) (bs ++ [.int .u8 c]) w' ∧ Below B w w') := by
  obtain ⟨i0, hi, hz0, hz1, hz2⟩ := info_parts infoByte
  go_enter Try.func41, Try.ntmps41
  go_wp2_with (go_at_call 44; refine (copyCheck_any B b bs _ h).mono ?_)
  rintro e w1 ⟨rfl, h1, hb1⟩
  obtain ⟨hB, v, hbk, hown, hne⟩ := h1
  have c0 : w1.cell? ⟨b, 0, none⟩ = some (.pointer (some ⟨b, 0, none⟩)) := by rw [Lib.cell_of_heap hbk]; rfl
  have c1 : w1.cell? ⟨b, 1, none⟩ = some v := by rw [Lib.cell_of_heap hbk]; rfl
  go_wp2_with (at_builtin; refine wpList_append_own _ rfl _ _ 59 rfl B 5 i0 (.int .u8 0) 1 1 Try.underlying59 hi hz0 hz1 hz2 rfl (by decide) _ _ _ rfl (hown.alloc _) ⟨w1.heap.size, 0, none⟩ 1 1 [.int .u8 c] rfl rfl (cell_one_new _ _ _) (ints_oneCell .u8 [c]) (by unfold maxLen; omega) (by omega) (by have := hb1.size; simp; omega) ?_)
  intro v' w2 hown' hgrow _
  have hlt : b < w1.heap.size := by
    rcases Nat.lt_or_ge b w1.heap.size with h' | h'
    · exact h'
    · simp [Array.getElem?_eq_none h'] at hbk
  have hb2 : w2.heap[b]? = some (.cells #[.pointer (some ⟨b, 0, none⟩), v] 71 (0, 0)) := by
    rw [hgrow.block b (by simp; omega) (fun e => hne e.symm), Lib.alloc_old w1 _ b hlt]
    exact hbk
  have d0 : w2.cell? ⟨b, 0, none⟩ = some (.pointer (some ⟨b, 0, none⟩)) := by rw [Lib.cell_of_heap hb2]; rfl
  have d1 : w2.cell? ⟨b, 1, none⟩ = some v := by rw [Lib.cell_of_heap hb2]; rfl
  have f1 : w2.frozen? ⟨b, 1, none⟩ = false := Lib.frozen_of_heap hb2 1
  obtain ⟨g, cap, rfl⟩ : ∃ g cap, v' = .slice (some ⟨g, 0, none⟩) (bs.length + 1) cap := by
    rcases hown'.2 with ⟨_, h0⟩ | ⟨g, cap, cur, hv, _⟩
    · omega
    · exact ⟨g, cap, hv⟩
  go_wp2
  go_ret
  refine ⟨rfl, ?_, ?_⟩
  · exact Lib.BuilderAt.put (T := 71) (e := 5) hB hb2 (bs' := bs ++ [.int .u8 c]) (by simpa using hown') (by decide)
  · exact ((hb1.alloc (by have := hb1.size; omega) _).grown hgrow (by have := hb1.size; simp; omega) (fun k hk => (hown.lt k hk).1)).setCell (p := ⟨b, 1, none⟩) hB _

set_option maxHeartbeats 2000000 in
set_option maxRecDepth 100000 in
theorem writeString_any (B b : Nat) (bs : List Value) (s : ByteArray) (w : World) (h : Lib.IsBuilder 71 5 B b bs w) (hlen : bs.length + s.size ≤ 140737488355328) (hBw : B ≤ w.heap.size) :
    Calls Try.prog 40 #[.pointer (some ⟨b, 0, none⟩), .string s] w fun e w' => e = .returned (.tuple #[.int .i64 s.size, .nilIface]) ∧ (Lib.BuilderAt 71 5 B b (.pointer (some ⟨b, 0, none⟩)) (bs ++ Lib.strCells s) w' ∧ Below B w w') := by
  obtain ⟨i0, hi, hz0, hz1, hz2⟩ := info_parts infoByte
  go_enter Try.func40, Try.ntmps40
  go_wp2_with (go_at_call 44; refine (copyCheck_any B b bs _ h).mono ?_)
  rintro e w1 ⟨rfl, h1, hb1⟩
  obtain ⟨hB, v, hbk, hown, hne⟩ := h1
  have c0 : w1.cell? ⟨b, 0, none⟩ = some (.pointer (some ⟨b, 0, none⟩)) := by rw [Lib.cell_of_heap hbk]; rfl
  have c1 : w1.cell? ⟨b, 1, none⟩ = some v := by rw [Lib.cell_of_heap hbk]; rfl
  go_wp2_with (at_builtin; refine Lib.wpList_append_own_string _ rfl _ _ 59 9 rfl B 5 i0 Try.underlying59 Try.underlying9 hi hz0 hz1 hz2 _ _ _ rfl hown s rfl (by unfold maxLen; omega) (by omega) (by have := hb1.size; omega) ?_)
  intro v' w2 hown' hgrow _
  have hlt : b < w1.heap.size := by
    rcases Nat.lt_or_ge b w1.heap.size with h' | h'
    · exact h'
    · simp [Array.getElem?_eq_none h'] at hbk
  have hb2 : w2.heap[b]? = some (.cells #[.pointer (some ⟨b, 0, none⟩), v] 71 (0, 0)) := by
    rw [hgrow.block b hlt (fun e => hne e.symm)]
    exact hbk
  have d0 : w2.cell? ⟨b, 0, none⟩ = some (.pointer (some ⟨b, 0, none⟩)) := by rw [Lib.cell_of_heap hb2]; rfl
  have d1 : w2.cell? ⟨b, 1, none⟩ = some v := by rw [Lib.cell_of_heap hb2]; rfl
  have f1 : w2.frozen? ⟨b, 1, none⟩ = false := Lib.frozen_of_heap hb2 1
  obtain ⟨ao, n', cap, rfl⟩ : ∃ ao n' cap, v' = .slice ao n' cap := by
    rcases hown'.2 with ⟨hv, _⟩ | ⟨g, cap, cur, hv, _⟩
    · exact ⟨_, _, _, hv⟩
    · exact ⟨_, _, _, hv⟩
  go_wp2
  go_ret2
  refine ⟨rfl, ?_, ?_⟩
  · exact Lib.BuilderAt.put (T := 71) (e := 5) hB hb2 (bs' := bs ++ Lib.strCells s) (by simpa [Lib.strCells_length] using hown') (by decide)
  · exact (hb1.grown hgrow (by have := hb1.size; omega) (fun k hk => (hown.lt k hk).1)).setCell (p := ⟨b, 1, none⟩) hB _

set_option maxHeartbeats 1000000 in
set_option maxRecDepth 100000 in
theorem builderString_any (B b : Nat) (l : List UInt8) (w : World) (h : Lib.IsBuilder 71 5 B b (Lib.byteCells l) w) (h0 : l ≠ []) :
    Calls Try.prog 42 #[.pointer (some ⟨b, 0, none⟩)] w fun e w' => e = .returned (.string ⟨l.toArray⟩) ∧ Below B w w' := by
  obtain ⟨p, hB, v, hbk, hown, hne⟩ : ∃ p, Lib.BuilderAt 71 5 B b p (Lib.byteCells l) w := by
    rcases h with h | h
    · exact ⟨_, h⟩
    · exact ⟨_, h⟩
  have hl0 : l.length ≠ 0 := by simpa using h0
  rw [Lib.byteCells_length] at hown
  obtain ⟨g, cap, cur, rfl, hbg, hg, hnc, hcm, hcs, htake⟩ : ∃ g cap cur, v = .slice (some ⟨g, 0, none⟩) l.length cap ∧ B ≤ g ∧ w.heap[g]? = some (.cells cur 5 (0, 0)) ∧ l.length ≤ cap ∧ cap ≤ maxLen ∧ cur.size = cap * 1 ∧ cur.toList.take (l.length * 1) = Lib.byteCells l := by
    rcases hown.2 with ⟨_, hz⟩ | ⟨g, cap, cur, hv, r⟩
    · exact absurd hz hl0
    · exact ⟨g, cap, cur, hv, r⟩
  have c1 : w.drew.cell? ⟨b, 1, none⟩ = some (.slice (some ⟨g, 0, none⟩) l.length cap) := by
    have : w.drew.heap[b]? = some (.cells #[p, .slice (some ⟨g, 0, none⟩) l.length cap] 71 (0, 0)) := hbk
    rw [Lib.cell_of_heap this]; rfl
  have hSD : (Builtin.unsafeSliceData_ #[59] 80 #[.slice (some ⟨g, 0, none⟩) l.length cap]).run Try.prog w.drew = .ok (.pointer (some ⟨g, 0, none⟩)) w.drew :=
    Lib.run_unsafeSliceData_row _ _ _ _ _ _ (by omega)
  have hUS : (Builtin.unsafeString_ #[80, 3] 9 #[.pointer (some ⟨g, 0, none⟩), .int .i64 l.length]).run Try.prog w.drew = .ok (.string ⟨l.toArray⟩) (w.drew.freeze ⟨g, 0, none⟩ l.length) := by
    refine Lib.run_unsafeString_row w.drew 80 3 9 5 Try.underlying80 cellsByte g cur.size (by have hg' : w.drew.heap[g]? = some (.cells cur 5 (0, 0)) := hg; simp [World.shape?, hg']) l h0 (by omega) (by unfold maxLen at hcm; omega) ?_
    intro j x hx
    have := hown.cells (g := g) rfl j (.int .u8 x.toNat) (by simp [Lib.byteCells, hx])
    exact this
  go_enter Try.func42, Try.ntmps42
  go_wp2
  go_region
  all_goals (go_wp2; go_ret; exact ⟨rfl, Lib.below_freeze (Below.drew (Below.refl B w)) (p := ⟨g, 0, none⟩) hbg _⟩)

end Go.Proofs.Qxb6600199a
