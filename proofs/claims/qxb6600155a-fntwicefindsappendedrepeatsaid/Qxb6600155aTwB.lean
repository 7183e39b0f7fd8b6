/-
  The copy of a list (function 8).
-/
import Derived.Test.Qxb6600155aTwA
namespace Go.Proofs.Qxb6600155a
open Go.RowKit

theorem Try.info9 : (Try.prog.info? 9).map (fun i => (i.zero, i.size, i.bytes)) = some (some (.string ByteArray.empty), 1, 16) := by kernel_rfl

/-- Behind k rounds of the copy: k strings laid, the rest empty. -/
def half (ss : List ByteArray) (n k : Nat) : List Value := (ss.take k).map Value.string ++ List.replicate (n - k) (.string ByteArray.empty)

theorem half_zero (ss : List ByteArray) (n : Nat) : half ss n 0 = List.replicate n (.string ByteArray.empty) := by simp [half]
theorem half_step (ss : List ByteArray) (n k : Nat) (h : k < n) (hn : n ≤ ss.length) : (half ss n k).set k (.string (ss.getD k ByteArray.empty)) = half ss n (k + 1) := by
  unfold half
  have hl : ((ss.take k).map Value.string).length = k := by simp; omega
  rw [List.set_append_right _ _ (by omega), hl, Nat.sub_self]
  obtain ⟨m, hm⟩ : ∃ m, n - k = m + 1 := ⟨n - k - 1, by omega⟩
  have hm' : n - (k + 1) = m := by omega
  rw [hm, hm', List.replicate_succ, List.set_cons_zero, List.take_succ_eq_append_getElem (by omega), List.map_append, List.append_assoc]
  simp [List.getD, List.getElem?_eq_getElem (show k < ss.length by omega)]
theorem half_at (ss : List ByteArray) (n k : Nat) (h : k < n) (hn : n ≤ ss.length) : (half ss n k)[k]? = some (.string ByteArray.empty) := by
  unfold half
  have hl : ((ss.take k).map Value.string).length = k := by simp; omega
  rw [List.getElem?_append_right (by omega), hl, Nat.sub_self]
  rw [List.getElem?_replicate, if_pos (by omega)]
theorem half_full (ss : List ByteArray) : half ss ss.length ss.length = ss.map Value.string := by simp [half]

theorem strs_of_owns {w : World} {base g : Nat} {ss : List ByteArray} {cap : Nat} (h : w.ownsRow base 9 1 (.slice (some ⟨g, 0, none⟩) ss.length cap) ss.length (ss.map Value.string)) : Strs w g 0 ss := by
  refine ⟨(h.lt g rfl).2, fun j hj => ?_⟩
  rw [show 0 + j = j from Nat.zero_add j, h.cellAt j (by omega)]
  simp [List.getD, List.getElem?_eq_getElem hj]

set_option maxHeartbeats 400000 in
theorem copy_any (b off c : Nat) (ss : List ByteArray) (w : World) (hc : Strs w b off ss) (hn : ss.length ≤ 65536) :
    Calls Try.prog 8 #[.slice (some ⟨b, off, none⟩) ss.length c] w fun e w' => e = .returned (.slice (some ⟨w.heap.size, 0, none⟩) ss.length ss.length) ∧
      w'.ownsRow w.heap.size 9 1 (.slice (some ⟨w.heap.size, 0, none⟩) ss.length ss.length) ss.length (ss.map Value.string) ∧ Below w.heap.size w w' := by
  obtain ⟨n, hnn⟩ : ∃ n, n = ss.length := ⟨_, rfl⟩
  rw [← hnn] at hn ⊢
  have HN : Hid (n = ss.length) := hnn
  clear hnn
  have q22 : ∀ (w : World) (a : Option Addr) (n c n' c' : Nat), (binOp .eql 22 (.slice a n c) (.slice none n' c')).run Try.prog w = .ok (.bool a.isNone) w := fun w a n c n' c' => Lib.run_eql_slice_nil w _ _ a n c n' c' Try.underlying22
  obtain ⟨i0, hi, hz0, hz1, hz2⟩ := info_parts Try.info9
  go_enter Try.func8, Try.ntmps8
  go_wp2_with (at_make; refine wpList_make_full _ rfl _ _ 22 rfl w.heap.size 9 i0 (.string ByteArray.empty) 1 Try.underlying22 hi hz0 hz1 .i64 .i64 _ _ n rfl rfl rfl rfl (by rw [hz2]; omega) (by unfold maxLen; omega) (Nat.le_refl _) ?_; intro w1 hown1 hgrow1)
  have hb1 : Below w.heap.size w w1 := (Below.refl _ _).grown hgrow1 (Nat.le_refl _) (fun k hk => by cases hk)
  have ho1 : w1.ownsRow w.heap.size 9 1 (.slice (some ⟨w.heap.size, 0, none⟩) n n) n (half ss n 0) := by
    rw [half_zero, ← toList_madeCells_one]
    have e : (Value.string ByteArray.empty).cells = #[.string ByteArray.empty] := rfl
    rw [e, Nat.mul_one] at hown1
    exact hown1
  clear hown1 hgrow1
  go_loopw [4] (fun i wr => ∃ k : Nat, k ≤ n ∧ i = .int .i64 k ∧ wr.ownsRow w.heap.size 9 1 (.slice (some ⟨w.heap.size, 0, none⟩) n n) n (half ss n k) ∧ Below w.heap.size w wr) (fun i _ => n - (intOf i).toNat)
  case atStart => exact ⟨0, Nat.zero_le _, rfl, ho1, hb1⟩
  case round =>
    obtain ⟨k, hk, rfl, hown, hnx⟩ := hrel
    by_cases hlt : k < n
    · have hst := half_step ss n k hlt (by rw [HN.out]; exact Nat.le_refl _)
      have hcx := (hnx.cell (p := ⟨b, off + k, none⟩) hc.1).trans (hc.2 k (by rw [← HN.out]; exact hlt))
      obtain ⟨s, hs'⟩ : ∃ s, s = ss.getD k ByteArray.empty := ⟨_, rfl⟩
      rw [← hs'] at hcx hst
      clear hs'
      have hfz := hown.frozenAt k
      have hcl := hown.cellAt k (by omega)
      rw [half_at ss n k hlt (by rw [HN.out]; exact Nat.le_refl _)] at hcl
      have hR := hown.stored k (.string s)
      rw [hst] at hR
      obtain ⟨hR1, hR2⟩ := hR
      have hR3 := hnx.grown hR2 hnx.size (fun k hk => by cases hk; exact Nat.le_refl _)
      clear hR2 hown hst
      go_wp2
      go_roundw
      case rel => exact ⟨k + 1, by omega, by go_num, hR1, hR3⟩
      case measure => simp [intOf]; omega
    · have hkn : k = n := by omega
      subst hkn
      have hf : half ss k k = ss.map Value.string := by rw [HN.out]; exact half_full ss
      rw [hf] at hown
      have HF : Hid (half ss k k = ss.map Value.string) := hf
      clear hf
      go_wp2
      go_ret
      exact ⟨rfl, hown, hnx⟩

end Go.Proofs.Qxb6600155a
