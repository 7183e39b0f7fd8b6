/-
  strings.Builder's grow (45) and Grow (39) at a fresh builder.
-/
import Derived.Test.Qxb6600199aSbA
namespace Go.Proofs.Qxb6600199a
open Go.RowKit

theorem digits_size : ∀ (n t : Nat) (acc : Array Value), (Extern.BytealgMakeNoZero.digits n t acc).size = acc.size + n
  | 0, _, _ => rfl
  | n + 1, t, acc => by
    rw [Extern.BytealgMakeNoZero.digits, digits_size n]
    simp
    omega

/-- The entry MakeNoZero: a new row of some bytes, at least n of them. -/
theorem makeNoZero_any (w : World) (n : Nat) (hn : n ≤ 281474976710656) :
    ∃ cs : Array Value, (Extern.BytealgMakeNoZero.makeNoZero #[3] #[59] #[.int .i64 n]).run Try.prog w = .ok (.slice (some ⟨w.heap.size, 0, none⟩) n cs.size) (w.drew.drew.alloc (.cells cs 5)) ∧ cs.size ≤ maxLen := by
  have h1 : ¬ (n : Int) < 0 := by omega
  have h2 : ¬ (281474976710656 : Int) < (n : Int) := by omega
  have hdef : ∃ (q s1 s2 : String), Extern.BytealgMakeNoZero.makeNoZero #[3] #[59] #[.int .i64 n] =
      (do
        let .slice elem ← underlying 59 | stuck s1
        if (n : Int) < 0 || (n : Int) > 2 ^ 48 then runtimePanic (.error s2)
        let cap ← choose (.appendCap (n : Int).toNat 0 elem)
        askRoom cap
        let bytes ← choose (.extern q 0)
        let a ← newRow elem (Extern.BytealgMakeNoZero.digits cap bytes #[])
        pure (.slice (some a) (n : Int).toNat cap)) := ⟨_, _, _, rfl⟩
  obtain ⟨q, s1, s2, hdef⟩ := hdef
  have hx : ∃ t : Nat, (Extern.BytealgMakeNoZero.makeNoZero #[3] #[59] #[.int .i64 n]).run Try.prog w = .ok (.slice (some ⟨w.heap.size, 0, none⟩) n (Extern.BytealgMakeNoZero.digits (grownCap w n 0 5) t #[]).size) (w.drew.drew.alloc (.cells (Extern.BytealgMakeNoZero.digits (grownCap w n 0 5) t #[]) 5)) := by
    rw [hdef]
    refine ⟨(Question.extern q 0).cut (w.tape (w.drawn + 1) (.extern q 0)), ?_⟩
    simp [run_underlying Try.underlying59, h1, h2, Question.forced, newRow, digits_size, grownCap]
  obtain ⟨t, ht⟩ := hx
  refine ⟨_, ht, ?_⟩
  rw [digits_size]
  simpa using grownCap_le_maxLen w n 0 5 (by unfold maxLen; omega)

set_option maxHeartbeats 2000000 in
set_option maxRecDepth 1000000 in
theorem grow_fresh (B b n : Nat) (w : World) (hB : B ≤ b) (hbk : w.heap[b]? = some (.cells #[.pointer (some ⟨b, 0, none⟩), .slice none 0 0] 71 (0, 0))) (hBw : B ≤ w.heap.size) (hn : n ≤ 281474976710656) :
    Calls Try.prog 45 #[.pointer (some ⟨b, 0, none⟩), .int .i64 n] w fun e w' => e = .returned (.tuple #[]) ∧ (Lib.BuilderAt 71 5 B b (.pointer (some ⟨b, 0, none⟩)) [] w' ∧ Below B w w') := by
  obtain ⟨cs, hrun, hmax⟩ := makeNoZero_any w.drew n hn
  have hw : IntKind.i64.wrap (IntKind.i64.wrap 0 + (n : Int)) = n := by
    rw [IntKind.wrap_i64, IntKind.wrap_i64]
    omega
  have hcall : (callFunc 47 #[.int .i64 (IntKind.i64.wrap (IntKind.i64.wrap 0 + (n : Int)))]).run Try.prog w.drew = .ok (.value (.slice (some ⟨w.drew.heap.size, 0, none⟩) n cs.size)) (w.drew.drew.drew.alloc (.cells cs 5)) := by
    rw [hw, run_callFunc_extern Try.func47 (by kernel_rfl) (by kernel_rfl) (by kernel_rfl) (e := Extern.BytealgMakeNoZero.makeNoZero #[3] #[59]) (by kernel_rfl), hrun]
    rfl
  have hcall' : (callFunc 47 #[.int .i64 (n : Int)]).run Try.prog w.drew = .ok (.value (.slice (some ⟨w.drew.heap.size, 0, none⟩) n cs.size)) (w.drew.drew.drew.alloc (.cells cs 5)) := by rw [hw] at hcall; exact hcall
  have c1 : w.drew.cell? ⟨b, 1, none⟩ = some (.slice none 0 0) := by
    have : w.drew.heap[b]? = _ := hbk
    rw [Lib.cell_of_heap this]; rfl
  have hlt : b < w.heap.size := by
    rcases Nat.lt_or_ge b w.heap.size with h' | h'
    · exact h'
    · simp [Array.getElem?_eq_none h'] at hbk
  have c2 : (w.alloc (.cells cs 5)).cell? ⟨b, 1, none⟩ = some (.slice none 0 0) := by
    have : (w.alloc (.cells cs 5)).heap[b]? = _ := (Lib.alloc_old w _ b hlt).trans hbk
    rw [Lib.cell_of_heap this]; rfl
  have f2 : (w.alloc (.cells cs 5)).frozen? ⟨b, 1, none⟩ = false := Lib.frozen_of_heap ((Lib.alloc_old w _ b hlt).trans hbk) 1
  have hcopy : ∀ W : World, (Builtin.copy_ #[59, 59] 3 #[.slice (some ⟨w.heap.size, 0, none⟩) 0 cs.size, .slice none 0 0]).run Try.prog W = .ok (goInt 0) W :=
    fun W => run_copy_none W 59 59 3 5 _ _ 0 cs.size 0 0 Try.underlying59 sizeByte rfl
  clear hw hlt
  have hfin := Lib.grown_fresh (T := 71) (e := 5) (cs := cs) hB hbk hBw hmax (by decide)
  have HF := hide hfin
  clear hfin
  go_enter Try.func45, Try.ntmps45
  go_wp2
  go_region
  all_goals (go_wp2; go_end0; exact ⟨rfl, HF.out⟩)

set_option maxHeartbeats 2000000 in
set_option maxRecDepth 1000000 in
theorem grow_any (B b n : Nat) (w : World) (hB : B ≤ b) (hbk : w.heap[b]? = some (.cells #[.pointer none, .slice none 0 0] 71 (0, 0))) (hBw : B ≤ w.heap.size) (hn : n ≤ 281474976710656) :
    Calls Try.prog 39 #[.pointer (some ⟨b, 0, none⟩), .int .i64 n] w fun e w' => e = .returned (.tuple #[]) ∧ (Lib.BuilderAt 71 5 B b (.pointer (some ⟨b, 0, none⟩)) [] w' ∧ Below B w w') := by
  have hbk1 : (w.setCell ⟨b, 0, none⟩ (.pointer (some ⟨b, 0, none⟩))).heap[b]? = some (.cells #[.pointer (some ⟨b, 0, none⟩), .slice none 0 0] 71 (0, 0)) := by
    simp [World.setCell, Array.getElem?_modify, hbk]
  have c1 : (w.setCell ⟨b, 0, none⟩ (.pointer (some ⟨b, 0, none⟩))).cell? ⟨b, 1, none⟩ = some (.slice none 0 0) := by rw [Lib.cell_of_heap hbk1]; rfl
  have hb1 : Below B w (w.setCell ⟨b, 0, none⟩ (.pointer (some ⟨b, 0, none⟩))) := (Below.refl B w).setCell (p := ⟨b, 0, none⟩) hB _
  have hU : Lib.BuilderAt 71 5 B b (.pointer (some ⟨b, 0, none⟩)) [] (w.setCell ⟨b, 0, none⟩ (.pointer (some ⟨b, 0, none⟩))) := ⟨hB, .slice none 0 0, hbk1, World.ownsRow_nil _ _ _ _, by simp [Value.ownBlock]⟩
  have c1' : (w.setCell ⟨b, 0, none⟩ (.pointer (some ⟨b, 0, none⟩))).drew.cell? ⟨b, 1, none⟩ = some (.slice none 0 0) := c1
  go_enter Try.func39, Try.ntmps39
  go_wp2_with (go_at_call 44; refine (copyCheck_fresh b w (by rw [Lib.cell_of_heap hbk]; rfl) (by simp [World.shape?, hbk]) (Lib.frozen_of_heap hbk 0)).mono ?_; rintro e w' ⟨rfl, rfl⟩)
  go_region
  all_goals go_wp2_with (go_at_call 45; refine (grow_fresh B b n (w.setCell ⟨b, 0, none⟩ (.pointer (some ⟨b, 0, none⟩))).drew hB hbk1 (by simpa [World.setCell, World.drew, -World.drew_eq] using hBw) hn).mono ?_; rintro e w' ⟨rfl, h1, h2⟩)
  all_goals first
    | (go_end0; exact ⟨rfl, h1, hb1.drew.trans h2⟩)
    | (go_end0; exact ⟨rfl, hU.drew, hb1.drew⟩)

end Go.Proofs.Qxb6600199a
