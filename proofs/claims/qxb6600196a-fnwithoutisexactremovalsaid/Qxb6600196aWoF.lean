/-
  FnWithoutIsExactRemoval: the row.
-/
import Derived.Test.Qxb6600196aWoD
import Derived.ProofKit
import Derived.SizedLaws
import Derived.Deep.Slices
import Derived.Laws.IdiomArrays
namespace Go.Proofs.Qxb6600196a
open Go.ChangeShapes Go.WideShapes Go.ChangeAt Go.RowKit

set_option maxHeartbeats 400000 in
theorem law_nil (x y z : Int) (w : World) :
    Calls Try.prog 3 #[.slice none 0 0, .agg #[.int .u64 x, .int .u64 y, .int .u64 z]] w fun e w' => e = .returned (.bool true) ∧ Below w.heap.size w w' := by
  go_enter Try.func3, Try.ntmps3
  go_wp2_with fail
  refine (bytes_any _ _ _ _ _ _ _ (by omega)).mono ?_
  rintro e w1 ⟨⟨ok, rfl⟩, hb1⟩
  have hB1 : Below w.heap.size w w1 := ((Below.refl _ _).alloc (Nat.le_refl _) _).trans (hb1.mono (by simp))
  have c0 : w1.cell? ⟨w.heap.size, 0, none⟩ = some (.int .u64 x) := (hb1.cell (p := ⟨w.heap.size, 0, none⟩) (by simp)).trans (by simp)
  have c1 : w1.cell? ⟨w.heap.size, 1, none⟩ = some (.int .u64 y) := (hb1.cell (p := ⟨w.heap.size, 1, none⟩) (by simp)).trans (by simp)
  have c2 : w1.cell? ⟨w.heap.size, 2, none⟩ = some (.int .u64 z) := (hb1.cell (p := ⟨w.heap.size, 2, none⟩) (by simp)).trans (by simp)
  clear hb1
  cases ok
  · go_wp2
    go_ret
    exact ⟨rfl, hB1⟩
  · go_wp2_with fail
    refine (clone_nil _).mono ?_
    rintro e w2 ⟨rfl, hw⟩
    obtain rfl := hw.symm
    clear hw
    go_wp2_with fail
    refine (zz_empty _ _ _ _ _ _).mono ?_
    rintro e w3 ⟨rfl, hb3⟩
    have hB3 : Below w.heap.size w w3 := hB1.trans (hb3.mono hB1.size)
    clear hb3 c0 c1 c2
    go_wp2
    refine wp_loop_rounds 1 ?_
    rw [rounds_succ]
    go_wp2
    refine wp_loop_rounds 1 ?_
    rw [rounds_succ]
    go_wp2
    refine wp_loop_rounds 1 ?_
    rw [rounds_succ]
    go_wp2
    go_ret
    exact ⟨rfl, hB3⟩

set_option maxHeartbeats 400000 in
theorem law_none (a : Addr) (c : Nat) (x y z : Int) (w : World) :
    Calls Try.prog 3 #[.slice (some a) 0 c, .agg #[.int .u64 x, .int .u64 y, .int .u64 z]] w fun e w' => e = .returned (.bool true) ∧ Below w.heap.size w w' := by
  go_enter Try.func3, Try.ntmps3
  go_wp2_with fail
  refine (bytes_any _ _ _ _ _ _ _ (by omega)).mono ?_
  rintro e w1 ⟨⟨ok, rfl⟩, hb1⟩
  have hB1 : Below w.heap.size w w1 := ((Below.refl _ _).alloc (Nat.le_refl _) _).trans (hb1.mono (by simp))
  have c0 : w1.cell? ⟨w.heap.size, 0, none⟩ = some (.int .u64 x) := (hb1.cell (p := ⟨w.heap.size, 0, none⟩) (by simp)).trans (by simp)
  have c1 : w1.cell? ⟨w.heap.size, 1, none⟩ = some (.int .u64 y) := (hb1.cell (p := ⟨w.heap.size, 1, none⟩) (by simp)).trans (by simp)
  have c2 : w1.cell? ⟨w.heap.size, 2, none⟩ = some (.int .u64 z) := (hb1.cell (p := ⟨w.heap.size, 2, none⟩) (by simp)).trans (by simp)
  have hs1 : w.heap.size < w1.heap.size := by have := hb1.size; simp at this; omega
  clear hb1
  cases ok
  · go_wp2
    go_ret
    exact ⟨rfl, hB1⟩
  · go_wp2_with fail
    refine (clone_none _ _ _).mono ?_
    rintro e w2 ⟨rfl, hb2⟩
    have hB2 : Below w.heap.size w w2 := hB1.trans (hb2.mono hB1.size)
    have d0 : w2.cell? ⟨w.heap.size, 0, none⟩ = some (.int .u64 x) := (hb2.cell (p := ⟨w.heap.size, 0, none⟩) hs1).trans c0
    have d1 : w2.cell? ⟨w.heap.size, 1, none⟩ = some (.int .u64 y) := (hb2.cell (p := ⟨w.heap.size, 1, none⟩) hs1).trans c1
    have d2 : w2.cell? ⟨w.heap.size, 2, none⟩ = some (.int .u64 z) := (hb2.cell (p := ⟨w.heap.size, 2, none⟩) hs1).trans c2
    clear hb2 c0 c1 c2
    go_wp2_with fail
    refine (zz_empty _ _ _ _ _ _).mono ?_
    rintro e w3 ⟨rfl, hb3⟩
    have hB3 : Below w.heap.size w w3 := hB2.trans (hb3.mono hB2.size)
    clear hb3 d0 d1 d2
    go_wp2
    refine wp_loop_rounds 1 ?_
    rw [rounds_succ]
    go_wp2
    refine wp_loop_rounds 1 ?_
    rw [rounds_succ]
    go_wp2
    refine wp_loop_rounds 1 ?_
    rw [rounds_succ]
    go_wp2
    go_ret
    exact ⟨rfl, hB3⟩

end Go.Proofs.Qxb6600196a
