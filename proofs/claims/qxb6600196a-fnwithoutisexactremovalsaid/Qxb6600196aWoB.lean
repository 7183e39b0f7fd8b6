/-
  ZZWithout (function 8).
-/
import Derived.Test.Qxb6600196aWoA
namespace Go.Proofs.Qxb6600196a
open Go.RowKit

set_option maxHeartbeats 400000 in
theorem zz_empty (a : Option Addr) (c : Nat) (x y z : Int) (w : World) :
    Calls Try.prog 8 #[.slice a 0 c, .agg #[.int .u64 x, .int .u64 y, .int .u64 z]] w fun e w' => e = .returned (.slice none 0 0) ∧ Below w.heap.size w w' := by
  go_enter Try.func8, Try.ntmps8
  go_wp2
  refine wp_loop_rounds 1 ?_
  rw [rounds_succ]
  go_wp2_with fail
  refine (without_empty _ _ _ _ _ _).mono ?_
  rintro e w1 ⟨rfl, hb⟩
  go_wp2
  refine wp_loop_rounds 1 ?_
  rw [rounds_succ]
  go_wp2
  go_ret
  exact ⟨rfl, ((Below.refl _ _).alloc (Nat.le_refl _) _).trans (hb.mono (by simp))⟩

theorem take_succ_getD {l : List R3} {k : Nat} (hk : k < l.length) : l.take (k + 1) = l.take k ++ [l.getD k (0, 0, 0)] := by
  rw [List.take_succ_eq_append_getElem hk]
  simp [List.getD, List.getElem?_eq_getElem hk]

/-- The shape of a slice that owns readers. -/
theorem owns_shape {w : World} {base ty : Nat} {v : Value} {l : List R3} (h : w.ownsRow base ty 3 v l.length (flat l)) (hl : 0 < l.length) : ∃ g cap, v = .slice (some ⟨g, 0, none⟩) l.length cap ∧ Rows3 w g 0 l ∧ base ≤ g := by
  rcases h.2 with ⟨_, h0⟩ | ⟨g, cap, cur, rfl, hb, _⟩
  · omega
  · exact ⟨g, cap, rfl, rows_of_owns h rfl, hb⟩
theorem owns_shape0 {w : World} {base ty : Nat} {v : Value} {l : List R3} (h : w.ownsRow base ty 3 v l.length (flat l)) (hl : l.length = 0) : ∃ a cap, v = .slice a 0 cap := by
  rcases h.2 with ⟨rfl, _⟩ | ⟨g, cap, cur, rfl, _, _⟩
  · exact ⟨_, _, rfl⟩
  · exact ⟨_, _, by rw [hl]⟩

theorem own_as {w : World} {base ty : Nat} {v : Value} {K0 K : List R3} (e : K0 = K) (h : w.ownsRow base ty 3 v K.length (flat K)) : w.ownsRow base ty 3 v K0.length (flat K0) := by subst e; exact h
theorem own_base {w : World} {base base' ty n : Nat} {v : Value} {xs : List Value} (h : w.ownsRow base ty 3 v n xs) (hb : base' ≤ base) : w.ownsRow base' ty 3 v n xs := by
  refine ⟨h.1, ?_⟩
  rcases h.2 with h | ⟨g, cap, cur, hv, hg, r⟩
  · exact .inl h
  · exact .inr ⟨g, cap, cur, hv, Nat.le_trans hb hg, r⟩

set_option maxHeartbeats 2000000 in
theorem zz_any (b off c : Nat) (l : List R3) (x y z : Int) (w : World) (hr : Rows3 w b off l) (hn : l.length ≤ 43690) (hpos : 0 < l.length) :
    Calls Try.prog 8 #[.slice (some ⟨b, off, none⟩) l.length c, .agg #[.int .u64 x, .int .u64 y, .int .u64 z]] w fun e w' =>
      WEnd e w' (w.heap.size + 1) 24 (keep l (x, y, z)) ∧ Below w.heap.size w w' := by
  obtain ⟨n, hnn⟩ : ∃ n, n = l.length := ⟨_, rfl⟩
  rw [← hnn] at hn hpos ⊢
  have HN : Hid (n = l.length) := hnn
  clear hnn
  obtain ⟨i0, hi, hz0, hz1, hz2⟩ := info_parts Try.info33
  obtain ⟨i1, hj, hy0, hy1, hy2⟩ := info_parts Try.info24
  go_enter Try.func8, Try.ntmps8
  go_wp2
  go_loopw [5, 14] (fun v i wr => ∃ k : Nat, k ≤ n ∧ i = .int .i64 k ∧ wr.ownsRow (w.heap.size + 1) 33 3 v (l.take k).length (flat (l.take k)) ∧
      Below (w.heap.size + 1) (w.alloc (.cells #[.int .u64 x, .int .u64 y, .int .u64 z] 24)) wr) (fun _ i _ => n - (intOf i).toNat)
  case atStart => exact ⟨0, Nat.zero_le _, rfl, World.ownsRow_nil _ _ _ _, Below.refl _ _⟩
  case round =>
    obtain ⟨k, hk, rfl, hown, hnx⟩ := hrel
    have hnsz := hnx.size
    rw [show (w.alloc (.cells #[.int .u64 x, .int .u64 y, .int .u64 z] 24)).heap.size = w.heap.size + 1 by simp] at hnsz
    have hs : w.heap.size < wr.heap.size := by omega
    have hA : Below w.heap.size w wr := ((Below.refl _ _).alloc (Nat.le_refl _) _).trans (hnx.mono (by omega))
    by_cases hlt : k < n
    · have hkl : k < l.length := by rw [← HN.out]; exact hlt
      obtain ⟨d0, d1, d2⟩ := (hr.below hA hr.1).2 k hkl
      have KA : Hid (l.take (k + 1) = l.take k ++ [l.getD k (0, 0, 0)]) := take_succ_getD hkl
      generalize l.getD k (0, 0, 0) = rk at d0 d1 d2 KA
      obtain ⟨p, q, r⟩ := rk
      have hle : (l.take k).length ≤ 43690 := by simp; omega
      clear hA hkl
      go_wp2_with (at_builtin; refine wpList_append_own _ rfl _ _ 31 rfl (w.heap.size + 1) 33 i0 (.agg #[.int .u64 0, .int .u64 0, .int .u64 0]) 3 24 Try.underlying31 hi hz0 hz1 hz2 rfl (by decide) _ _ _ rfl ((hown.alloc _).alloc _) ⟨wr.heap.size + 1, 0, none⟩ 1 1 (cellsOf3 (p, q, r)) rfl rfl (new3 wr p q r _ 33) (one3 (p, q, r)) (by unfold maxLen; omega) (by omega) (by simp; omega) ?_; intro v' w1 hown1 hgrow1 _)
      go_roundw
      case rel => exact ⟨k + 1, by omega, by go_num, own_step KA.out hown1, ((hnx.alloc hnsz _).alloc (by simp; omega) _).grown hgrow1 (by simp; omega) (fun j hj => (hown.lt j hj).1)⟩
      case measure => simp [intOf]; omega
    · have hkn : l.take k = l := List.take_of_length_le (by rw [← HN.out]; omega)
      rw [hkn] at hown
      obtain ⟨g, cap, hv, hrow, _⟩ := owns_shape hown (by rw [← HN.out]; exact hpos)
      rw [← HN.out] at hv
      rw [hv]
      have HW := hide (without_any g 0 cap l x y z wr hrow (by rw [← HN.out]; exact hn))
      rw [← HN.out] at HW
      have c0 : wr.cell? ⟨w.heap.size, 0, none⟩ = some (.int .u64 x) := (hnx.cell (p := ⟨w.heap.size, 0, none⟩) (Nat.lt_succ_self _)).trans (by simp)
      have c1 : wr.cell? ⟨w.heap.size, 1, none⟩ = some (.int .u64 y) := (hnx.cell (p := ⟨w.heap.size, 1, none⟩) (Nat.lt_succ_self _)).trans (by simp)
      have c2 : wr.cell? ⟨w.heap.size, 2, none⟩ = some (.int .u64 z) := (hnx.cell (p := ⟨w.heap.size, 2, none⟩) (Nat.lt_succ_self _)).trans (by simp)
      clear hown hv hkn hrow
      go_wp2_with fail
      refine (unhide HW).mono ?_
      rintro e w2 ⟨⟨v2, rfl, hown2⟩, hb2⟩
      have hle := keep_le l (x, y, z)
      rw [← HN.out] at hle
      generalize hKe : keep l (x, y, z) = K at hown2 hle
      have HKE := hide hKe
      clear hKe
      clear HW c0 c1 c2
      have hB : Below w.heap.size w w2 := hA.trans (hb2.mono (by omega))
      have hs2 : w.heap.size + 1 ≤ w2.heap.size := by have := hb2.size; omega
      by_cases hm : K.length = 0
      · obtain ⟨a, cap2, hv2⟩ := owns_shape0 hown2 hm
        have hK : K = [] := List.length_eq_zero_iff.1 hm
        subst hK
        rw [hv2]
        clear hown2 hv2 hm
        go_wp2
        refine wp_loop_rounds 1 ?_
        rw [rounds_succ]
        go_wp2
        go_ret
        exact ⟨⟨_, rfl, own_as HKE.out (World.ownsRow_nil _ _ _ _)⟩, hB⟩
      · obtain ⟨g2, cap2, hv2, hrow2, _⟩ := owns_shape hown2 (by omega)
        rw [hv2]
        clear hown2 hv2
        obtain ⟨m, hmm⟩ : ∃ m, m = K.length := ⟨_, rfl⟩
        have HM : Hid (m = K.length) := hmm
        rw [← hmm] at hle hm ⊢
        clear hmm
        go_wp2
        go_loopw [9, 40] (fun v i wq => ∃ k : Nat, k ≤ m ∧ i = .int .i64 k ∧ wq.ownsRow w2.heap.size 24 3 v (K.take k).length (flat (K.take k)) ∧ Below w2.heap.size w2 wq) (fun _ i _ => m - (intOf i).toNat)
        case atStart => exact ⟨0, Nat.zero_le _, rfl, World.ownsRow_nil _ _ _ _, Below.refl _ _⟩
        case round =>
          obtain ⟨k2, hk2, rfl, hown, hnx2⟩ := hrel
          have hnsz2 := hnx2.size
          by_cases hlt2 : k2 < m
          · have hkl : k2 < K.length := by rw [← HM.out]; exact hlt2
            obtain ⟨d0, d1, d2⟩ := (hrow2.below hnx2 hrow2.1).2 k2 hkl
            have KA : Hid (K.take (k2 + 1) = K.take k2 ++ [K.getD k2 (0, 0, 0)]) := take_succ_getD hkl
            generalize K.getD k2 (0, 0, 0) = rk at d0 d1 d2 KA
            obtain ⟨p, q, r⟩ := rk
            rw [Nat.zero_add] at d0 d1 d2
            have hle2 : (K.take k2).length ≤ 43690 := by simp; omega
            clear hkl
            go_wp2_with (at_builtin; refine wpList_append_own _ rfl _ _ 22 rfl w2.heap.size 24 i1 (.agg #[.int .u64 0, .int .u64 0, .int .u64 0]) 3 24 Try.underlying22 hj hy0 hy1 hy2 rfl (by decide) _ _ _ rfl ((hown.alloc _).alloc _) ⟨wr.heap.size + 1, 0, none⟩ 1 1 (cellsOf3 (p, q, r)) rfl rfl (new3 wr p q r _ 24) (one3 (p, q, r)) (by unfold maxLen; omega) (by omega) (by simp; omega) ?_; intro v' w1 hown1 hgrow1 _)
            go_roundw
            case rel => exact ⟨k2 + 1, by omega, by go_num, own_step KA.out hown1, ((hnx2.alloc hnsz2 _).alloc (by simp; omega) _).grown hgrow1 (by simp; omega) (fun j hj => (hown.lt j hj).1)⟩
            case measure => simp [intOf]; omega
          · have hkn : K.take k2 = K := List.take_of_length_le (by rw [← HM.out]; omega)
            rw [hkn] at hown
            clear hkn
            go_wp2
            go_ret
            exact ⟨⟨_, rfl, own_as HKE.out (own_base hown (by omega))⟩, hB.trans (hnx2.mono (by omega))⟩

end Go.Proofs.Qxb6600196a
