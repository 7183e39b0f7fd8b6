/-
  zzClone (function 7), the bytes' bound (function 6).
-/
import Derived.Test.Qxb6600196aWoB
namespace Go.Proofs.Qxb6600196a
open Go.RowKit

theorem made3 (m : Nat) : (madeCells #[.int .u64 0, .int .u64 0, .int .u64 0] m).toList = List.replicate m (.int .u64 0) := by
  apply List.ext_getElem?
  intro j
  by_cases hj : j < m
  · have h3 : j % 3 = 0 ∨ j % 3 = 1 ∨ j % 3 = 2 := by omega
    simp [madeCells, hj]
    rcases h3 with h | h | h <;> simp [h]
  · simp [madeCells, hj]

/-- Behind k rounds of the copy. -/
def half (l : List R3) (n k : Nat) : List Value := flat (l.take k) ++ List.replicate ((n - k) * 3) (.int .u64 0)
theorem half_zero (l : List R3) (n : Nat) : half l n 0 = List.replicate (n * 3) (.int .u64 0) := by simp [half, flat]
theorem half_full (l : List R3) : half l l.length l.length = flat l := by simp [half]
theorem half_len {l : List R3} {n k : Nat} (hk : k ≤ n) (hn : n ≤ l.length) : (flat (l.take k)).length = k * 3 := by rw [flat_length]; simp; omega
theorem half_at {l : List R3} {n k : Nat} (h : k < n) (hn : n ≤ l.length) (t : Nat) (ht : t < 3) : (half l n k)[k * 3 + t]? = some (.int .u64 0) := by
  unfold half
  have hl := half_len (Nat.le_of_lt h) hn
  rw [List.getElem?_append_right (by omega), hl, List.getElem?_replicate, if_pos (by omega)]
theorem half_step {l : List R3} {n k : Nat} (h : k < n) (hn : n ≤ l.length) :
    (((half l n k).set (k * 3) (.int .u64 (l.getD k (0, 0, 0)).1)).set (k * 3 + 1) (.int .u64 (l.getD k (0, 0, 0)).2.1)).set (k * 3 + 2) (.int .u64 (l.getD k (0, 0, 0)).2.2) = half l n (k + 1) := by
  unfold half
  have hl := half_len (Nat.le_of_lt h) hn
  obtain ⟨m, hm⟩ : ∃ m, n - k = m + 1 := ⟨n - k - 1, by omega⟩
  have hm' : n - (k + 1) = m := by omega
  rw [hm, hm', take_succ_getD (by omega), flat_append, List.append_assoc]
  have e : (m + 1) * 3 = m * 3 + 1 + 1 + 1 := by omega
  rw [e, List.replicate_succ, List.replicate_succ, List.replicate_succ]
  rw [List.set_append_right _ _ (by omega), hl, Nat.sub_self, List.set_cons_zero]
  rw [List.set_append_right _ _ (by omega), hl, show k * 3 + 1 - k * 3 = 1 by omega, List.set_cons_succ, List.set_cons_zero]
  rw [List.set_append_right _ _ (by omega), hl, show k * 3 + 2 - k * 3 = 2 by omega, List.set_cons_succ, List.set_cons_succ, List.set_cons_zero]
  simp [flat, cellsOf3]

/-- The call returned some bool. -/
def RetB (e : Ending) : Prop := ∃ r : Bool, e = .returned (.bool r)
theorem RetB.mk {e : Ending} (r : Bool) (h : e = .returned (.bool r)) : RetB e := ⟨r, h⟩

set_option maxHeartbeats 400000 in
theorem bytes_any (a : Option Addr) (n c : Nat) (x y z : Int) (w : World) (hn : n ≤ 140737488351232) :
    Calls Try.prog 6 #[.slice a n c, .agg #[.int .u64 x, .int .u64 y, .int .u64 z]] w fun e w' => RetB e ∧ Below w.heap.size w w' := by
  by_cases hb : n ≤ 1048576
  · go_enter Try.func6, Try.ntmps6
    go_wp2
    go_ret
    exact ⟨.mk _ rfl, (Below.refl _ _).alloc (Nat.le_refl _) _⟩
  · go_enter Try.func6, Try.ntmps6
    go_wp2
    go_ret
    exact ⟨.mk _ rfl, (Below.refl _ _).alloc (Nat.le_refl _) _⟩

set_option maxHeartbeats 400000 in
theorem clone_nil (w : World) :
    Calls Try.prog 7 #[.slice none 0 0] w fun e w' => e = .returned (.slice none 0 0) ∧ w' = w := by
  have q22 : ∀ (w : World) (a : Option Addr) (n c n' c' : Nat), (binOp .eql 22 (.slice a n c) (.slice none n' c')).run Try.prog w = .ok (.bool a.isNone) w := fun w a n c n' c' => Lib.run_eql_slice_nil w _ _ a n c n' c' Try.underlying22
  go_enter Try.func7, Try.ntmps7
  go_wp2
  go_ret
  exact ⟨rfl, rfl⟩

set_option maxHeartbeats 400000 in
theorem clone_none (a : Addr) (c : Nat) (w : World) :
    Calls Try.prog 7 #[.slice (some a) 0 c] w fun e w' => e = .returned (.slice (some ⟨w.heap.size, 0, none⟩) 0 0) ∧ Below w.heap.size w w' := by
  have q22 : ∀ (w : World) (a : Option Addr) (n c n' c' : Nat), (binOp .eql 22 (.slice a n c) (.slice none n' c')).run Try.prog w = .ok (.bool a.isNone) w := fun w a n c n' c' => Lib.run_eql_slice_nil w _ _ a n c n' c' Try.underlying22
  obtain ⟨i0, hi, hz0, hz1, hz2⟩ := info_parts Try.info24
  go_enter Try.func7, Try.ntmps7
  go_wp2_with (at_make; refine wpList_make_full _ rfl _ _ 22 rfl w.heap.size 24 i0 (.agg #[.int .u64 0, .int .u64 0, .int .u64 0]) 3 Try.underlying22 hi hz0 hz1 .i64 .i64 _ _ 0 rfl rfl rfl rfl (by rw [hz2]; omega) (by unfold maxLen; omega) (Nat.le_refl _) ?_; intro w1 hown1 hgrow1)
  refine wp_loop_rounds 1 ?_
  rw [rounds_succ]
  go_wp2
  go_ret
  exact ⟨rfl, (Below.refl _ _).grown hgrow1 (Nat.le_refl _) (fun k hk => by cases hk)⟩

set_option maxHeartbeats 400000 in
theorem clone_any (b off c : Nat) (l : List R3) (w : World) (hr : Rows3 w b off l) (hn : l.length ≤ 43690) :
    Calls Try.prog 7 #[.slice (some ⟨b, off, none⟩) l.length c] w fun e w' => e = .returned (.slice (some ⟨w.heap.size, 0, none⟩) l.length l.length) ∧
      w'.ownsRow w.heap.size 24 3 (.slice (some ⟨w.heap.size, 0, none⟩) l.length l.length) l.length (flat l) ∧ Below w.heap.size w w' := by
  obtain ⟨n, hnn⟩ : ∃ n, n = l.length := ⟨_, rfl⟩
  rw [← hnn] at hn ⊢
  have HN : Hid (n = l.length) := hnn
  clear hnn
  have q22 : ∀ (w : World) (a : Option Addr) (n c n' c' : Nat), (binOp .eql 22 (.slice a n c) (.slice none n' c')).run Try.prog w = .ok (.bool a.isNone) w := fun w a n c n' c' => Lib.run_eql_slice_nil w _ _ a n c n' c' Try.underlying22
  obtain ⟨i0, hi, hz0, hz1, hz2⟩ := info_parts Try.info24
  go_enter Try.func7, Try.ntmps7
  go_wp2_with (at_make; refine wpList_make_full _ rfl _ _ 22 rfl w.heap.size 24 i0 (.agg #[.int .u64 0, .int .u64 0, .int .u64 0]) 3 Try.underlying22 hi hz0 hz1 .i64 .i64 _ _ n rfl rfl rfl rfl (by rw [hz2]; omega) (by unfold maxLen; omega) (Nat.le_refl _) ?_; intro w1 hown1 hgrow1)
  have hb1 : Below w.heap.size w w1 := (Below.refl _ _).grown hgrow1 (Nat.le_refl _) (fun k hk => by cases hk)
  have ho1 : w1.ownsRow w.heap.size 24 3 (.slice (some ⟨w.heap.size, 0, none⟩) n n) n (half l n 0) := by
    rw [half_zero, ← made3]
    exact hown1
  clear hown1 hgrow1
  go_loopw [4] (fun i wr => ∃ k : Nat, k ≤ n ∧ i = .int .i64 k ∧ wr.ownsRow w.heap.size 24 3 (.slice (some ⟨w.heap.size, 0, none⟩) n n) n (half l n k) ∧ Below w.heap.size w wr) (fun i _ => n - (intOf i).toNat)
  case atStart => exact ⟨0, Nat.zero_le _, rfl, ho1, hb1⟩
  case round =>
    obtain ⟨k, hk, rfl, hown, hnx⟩ := hrel
    by_cases hlt : k < n
    · have hln : n ≤ l.length := by rw [HN.out]; exact Nat.le_refl _
      have hst := half_step hlt hln
      obtain ⟨d0, d1, d2⟩ := (hr.below hnx hr.1).2 k (by rw [← HN.out]; exact hlt)
      generalize l.getD k (0, 0, 0) = rk at d0 d1 d2 hst
      obtain ⟨p, q, r⟩ := rk
      have f0 := hown.frozenAt (k * 3)
      have f1 := hown.frozenAt (k * 3 + 1)
      have f2 := hown.frozenAt (k * 3 + 2)
      have e0 := hown.cellAt (k * 3) (by omega)
      have e1 := hown.cellAt (k * 3 + 1) (by omega)
      have e2 := hown.cellAt (k * 3 + 2) (by omega)
      rw [show k * 3 = k * 3 + 0 by omega, half_at hlt hln 0 (by omega), Nat.add_zero] at e0
      rw [half_at hlt hln 1 (by omega)] at e1
      rw [half_at hlt hln 2 (by omega)] at e2
      have hR := hown.stored (k * 3) (.int .u64 p)
      have hR' := hR.1.stored (k * 3 + 1) (.int .u64 q)
      have hR'' := hR'.1.stored (k * 3 + 2) (.int .u64 r)
      rw [hst] at hR''
      have hB := ((hnx.grown hR.2 hnx.size (fun k hk => by cases hk; exact Nat.le_refl _)).grown hR'.2 (Nat.le_trans hnx.size hR.2.size) (fun k hk => by cases hk; exact Nat.le_refl _)).grown hR''.2 (Nat.le_trans hnx.size (Nat.le_trans hR.2.size hR'.2.size)) (fun k hk => by cases hk; exact Nat.le_refl _)
      have hO := hR''.1
      clear hR hR' hR'' hown hst hln
      go_wp2
      go_roundw
      case rel => exact ⟨k + 1, by omega, by go_num, hO, hB⟩
      case measure => simp [intOf]; omega
    · have hkn : k = n := by omega
      subst hkn
      have hf : half l k k = flat l := by rw [HN.out]; exact half_full l
      rw [hf] at hown
      clear hf
      go_wp2
      go_ret
      exact ⟨rfl, hown, hnx⟩

end Go.Proofs.Qxb6600196a
