/-
  FnWithoutIsExactRemoval (function 3): the walk.
-/
import Derived.Test.Qxb6600196aWoE
namespace Go.Proofs.Qxb6600196a
open Go.RowKit

theorem keep_ne {l : List R3} {rd : R3} {j : Nat} (h : j < (keep l rd).length) : (keep l rd).getD j (0, 0, 0) ≠ rd := by
  have hm : (keep l rd).getD j (0, 0, 0) ∈ keep l rd := by simp [List.getD, List.getElem?_eq_getElem h]
  have := (List.mem_filter.1 hm).2
  simpa using this
theorem keep_sub (l : List R3) (rd : R3) : (keep l rd).Sublist l := List.filter_sublist
theorem drop_cons {l : List R3} {j : Nat} (h : j < l.length) : l.drop j = l.getD j (0, 0, 0) :: l.drop (j + 1) := by
  rw [List.drop_eq_getElem_cons h]
  simp [List.getD, List.getElem?_eq_getElem h]
/-- The greedy search goes on past an element that differs. -/
theorem sub_skip {K l : List R3} {i j : Nat} (hj : j < K.length) (hi : i < l.length) (h : (K.drop j).Sublist (l.drop i)) (hne : l.getD i (0, 0, 0) ≠ K.getD j (0, 0, 0)) : (K.drop j).Sublist (l.drop (i + 1)) := by
  rw [drop_cons hj] at h ⊢
  rw [drop_cons hi] at h
  generalize l.getD i (0, 0, 0) = a at h hne
  generalize K.getD j (0, 0, 0) = b at h hne ⊢
  rcases List.sublist_cons_iff.1 h with h | ⟨r, h, _⟩
  · exact h
  · simp only [List.cons.injEq] at h
    exact absurd h.1.symm hne
/-- .. and takes one that is the same. -/
theorem sub_take {K l : List R3} {i j : Nat} (hj : j < K.length) (hi : i < l.length) (h : (K.drop j).Sublist (l.drop i)) (he : l.getD i (0, 0, 0) = K.getD j (0, 0, 0)) : (K.drop (j + 1)).Sublist (l.drop (i + 1)) := by
  rw [drop_cons hj, drop_cons hi, he] at h
  exact List.cons_sublist_cons.1 h
/-- .. and never comes to the end. -/
theorem sub_end {K l : List R3} {i j : Nat} (hj : j < K.length) (hi : l.length ≤ i) (h : (K.drop j).Sublist (l.drop i)) : False := by
  rw [List.drop_of_length_le hi] at h
  have := List.sublist_nil.1 h
  have := congrArg List.length this
  simp at this
  omega

set_option maxHeartbeats 1000000 in
theorem law_any (b off c : Nat) (l : List R3) (x y z : Int) (w : World) (hr : Rows3 w b off l) (hn : l.length ≤ 140737488351232) (hpos : 0 < l.length) :
    Calls Try.prog 3 #[.slice (some ⟨b, off, none⟩) l.length c, .agg #[.int .u64 x, .int .u64 y, .int .u64 z]] w fun e w' =>
      e = .returned (.bool true) ∧ Below w.heap.size w w' := by
  have HB : Hid (∀ w1, Calls Try.prog 6 #[.slice (some ⟨b, off, none⟩) l.length c, .agg #[.int .u64 x, .int .u64 y, .int .u64 z]] w1 fun e w' => RetB e ∧ Below w1.heap.size w1 w') := fun w1 => bytes_any _ _ _ x y z w1 hn
  obtain ⟨n, hnn⟩ : ∃ n, n = l.length := ⟨_, rfl⟩
  rw [← hnn] at hn hpos HB ⊢
  have HN : Hid (n = l.length) := hnn
  clear hnn
  by_cases hbig : n ≤ 43690
  · have hd : decide ((43690 : Int) < (n : Int)) = false := by simp; omega
    have hlen : l.length ≤ 43690 := by rw [← HN.out]; exact hbig
    have HC : Hid (∀ w1, Rows3 w1 b off l → Calls Try.prog 7 #[.slice (some ⟨b, off, none⟩) l.length c] w1 fun e w' => e = .returned (.slice (some ⟨w1.heap.size, 0, none⟩) l.length l.length) ∧
      w'.ownsRow w1.heap.size 24 3 (.slice (some ⟨w1.heap.size, 0, none⟩) l.length l.length) l.length (flat l) ∧ Below w1.heap.size w1 w') := fun w1 h => clone_any b off c l w1 h hlen
    have HZ : Hid (∀ w1 g, Rows3 w1 g 0 l → Calls Try.prog 8 #[.slice (some ⟨g, 0, none⟩) l.length l.length, .agg #[.int .u64 x, .int .u64 y, .int .u64 z]] w1 fun e w' =>
      WEnd e w' (w1.heap.size + 1) 24 (keep l (x, y, z)) ∧ Below w1.heap.size w1 w') := fun w1 g h => zz_any g 0 l.length l x y z w1 h hlen (by rw [← HN.out]; exact hpos)
    rw [← HN.out] at HC HZ
    clear hlen
    go_enter Try.func3, Try.ntmps3
    go_wp2_with fail
    refine (unhide HB _).mono ?_
    rintro e w1 ⟨⟨ok, rfl⟩, hb1⟩
    have hB1 : Below w.heap.size w w1 := ((Below.refl _ _).alloc (Nat.le_refl _) _).trans (hb1.mono (by simp))
    have c0 : w1.cell? ⟨w.heap.size, 0, none⟩ = some (.int .u64 x) := (hb1.cell (p := ⟨w.heap.size, 0, none⟩) (by simp)).trans (by simp)
    have c1 : w1.cell? ⟨w.heap.size, 1, none⟩ = some (.int .u64 y) := (hb1.cell (p := ⟨w.heap.size, 1, none⟩) (by simp)).trans (by simp)
    have c2 : w1.cell? ⟨w.heap.size, 2, none⟩ = some (.int .u64 z) := (hb1.cell (p := ⟨w.heap.size, 2, none⟩) (by simp)).trans (by simp)
    have hs1 : w.heap.size < w1.heap.size := by have := hb1.size; simp at this; omega
    clear hb1
    cases ok
    · go_wp2
      go_ret
      exact ⟨rfl, hB1⟩
    · go_wp2_with fail
      refine (unhide HC w1 (hr.below hB1 hr.1)).mono ?_
      rintro e w2 ⟨rfl, hown2, hb2⟩
      have hrow2 : Rows3 w2 w1.heap.size 0 l := rows_of_owns hown2 HN.out
      have hB2 : Below w.heap.size w w2 := hB1.trans (hb2.mono (by omega))
      have d0 : w2.cell? ⟨w.heap.size, 0, none⟩ = some (.int .u64 x) := (hb2.cell (p := ⟨w.heap.size, 0, none⟩) hs1).trans c0
      have d1 : w2.cell? ⟨w.heap.size, 1, none⟩ = some (.int .u64 y) := (hb2.cell (p := ⟨w.heap.size, 1, none⟩) hs1).trans c1
      have d2 : w2.cell? ⟨w.heap.size, 2, none⟩ = some (.int .u64 z) := (hb2.cell (p := ⟨w.heap.size, 2, none⟩) hs1).trans c2
      have hs2 : w1.heap.size < w2.heap.size := hrow2.1
      clear hown2 hb2 c0 c1 c2
      go_wp2_with fail
      refine (unhide HZ w2 w1.heap.size hrow2).mono ?_
      rintro e w3 ⟨⟨v3, rfl, hown3⟩, hb3⟩
      have hrow3 : Rows3 w3 w1.heap.size 0 l := hrow2.below hb3 hs2
      have hB3 : Below w.heap.size w w3 := hB2.trans (hb3.mono (by omega))
      have hs3 : w.heap.size < w3.heap.size := by have := hb3.size; omega
      have hs13 : w.heap.size < w2.heap.size := by omega
      have c0 : w3.cell? ⟨w.heap.size, 0, none⟩ = some (.int .u64 x) := (hb3.cell (p := ⟨w.heap.size, 0, none⟩) hs13).trans d0
      have c1 : w3.cell? ⟨w.heap.size, 1, none⟩ = some (.int .u64 y) := (hb3.cell (p := ⟨w.heap.size, 1, none⟩) hs13).trans d1
      have c2 : w3.cell? ⟨w.heap.size, 2, none⟩ = some (.int .u64 z) := (hb3.cell (p := ⟨w.heap.size, 2, none⟩) hs13).trans d2
      clear d0 d1 d2 hrow2 hb3 HB HC HZ
      go_wp2
      go_loopw [6, 7] (fun h i wr => ∃ k : Nat, k ≤ n ∧ i = .int .i64 k ∧ h = .int .i64 ((k : Int) - ((keep (l.take k) (x, y, z)).length : Int)) ∧ Below w3.heap.size w3 wr) (fun _ i _ => n - (intOf i).toNat)
      case atStart => exact ⟨0, Nat.zero_le _, rfl, rfl, Below.refl _ _⟩
      case round =>
        obtain ⟨k, hk, rfl, rfl, hnx⟩ := hrel
        have hs4 : w.heap.size < wr.heap.size := Nat.lt_of_lt_of_le hs3 hnx.size
        by_cases hlt : k < n
        · have hkl : k < l.length := by rw [← HN.out]; exact hlt
          obtain ⟨d0, d1, d2⟩ := (hrow3.below hnx hrow3.1).2 k hkl
          rw [Nat.zero_add] at d0 d1 d2
          have e0 := (hnx.cell (p := ⟨w.heap.size, 0, none⟩) hs3).trans c0
          have e1 := (hnx.cell (p := ⟨w.heap.size, 1, none⟩) hs3).trans c1
          have e2 := (hnx.cell (p := ⟨w.heap.size, 2, none⟩) hs3).trans c2
          have hkle : (keep (l.take k) (x, y, z)).length ≤ k := Nat.le_trans (keep_le _ _) (by simp; omega)
          have KD : Hid (l.getD k (0, 0, 0) = (x, y, z) → (keep (l.take (k + 1)) (x, y, z)).length = (keep (l.take k) (x, y, z)).length) := fun h => by rw [keep_drop hkl h]
          have KA : Hid (l.getD k (0, 0, 0) ≠ (x, y, z) → (keep (l.take (k + 1)) (x, y, z)).length = (keep (l.take k) (x, y, z)).length + 1) := fun h => by rw [keep_add hkl h]; simp
          generalize l.getD k (0, 0, 0) = rk at d0 d1 d2 KD KA
          obtain ⟨p, q, r⟩ := rk
          have hb0 : (0 : Int) < (n : Int) := by omega
          have hb1 : ((k : Int)) < (n : Int) := by omega
          generalize hm1 : (keep (l.take k) (x, y, z)).length = m1 at hkle KD KA ⊢
          clear hm1
          clear hkl c0 c1 c2
          by_cases hall : ((p, q, r) : R3) = (x, y, z)
          · have KE := hide (KD.out hall)
            have hq := eqIn_yes p q r x y z hall
            clear KD KA hall
            go_wp2
            go_quiet (fail)
            go_wp2
            go_roundw
            case rel => exact ⟨k + 1, by omega, by go_num, by rw [KE.out]; go_num, below_drewN hnx _⟩
            case measure => simp [intOf]; omega
          · have KE := hide (KA.out hall)
            have hq := eqIn_no p q r x y z hall
            clear KD KA hall
            go_wp2
            go_quiet (fail)
            go_wp2
            go_roundw
            case rel => exact ⟨k + 1, by omega, by go_num, by rw [KE.out]; go_num, below_drewN hnx _⟩
            case measure => simp [intOf]; omega
        · have hkn : l.take k = l := List.take_of_length_le (by rw [← HN.out]; omega)
          have hkk : k = n := by omega
          rw [hkn]
          clear hkn
          subst hkk
          have hBr : Below w.heap.size w wr := hB3.trans (hnx.mono (by omega))
          have hrow4 : Rows3 wr w1.heap.size 0 l := hrow3.below hnx hrow3.1
          have e0 := (hnx.cell (p := ⟨w.heap.size, 0, none⟩) hs3).trans c0
          have e1 := (hnx.cell (p := ⟨w.heap.size, 1, none⟩) hs3).trans c1
          have e2 := (hnx.cell (p := ⟨w.heap.size, 2, none⟩) hs3).trans c2
          have hle := keep_le l (x, y, z)
          have hsub := keep_sub l (x, y, z)
          have hne : ∀ j, j < (keep l (x, y, z)).length → (keep l (x, y, z)).getD j (0, 0, 0) ≠ (x, y, z) := fun j h => keep_ne h
          rw [← HN.out] at hle
          generalize keep l (x, y, z) = K at hown3 hle hsub hne ⊢
          have HSUB := hide hsub
          have HNE := hide hne
          clear hsub hne c0 c1 c2 hrow3
          by_cases hm0 : K.length = 0
          · obtain ⟨a3, cap3, hv3⟩ := owns_shape0 hown3 hm0
            rw [hv3, hm0]
            clear hown3 hv3 hm0 hle
            have hneq' : ((k : Int) - (k : Int)) = 0 := by omega
            go_wp2
            refine wp_loop_rounds 1 ?_
            rw [rounds_succ]
            go_wp2
            refine wp_loop_rounds 1 ?_
            rw [rounds_succ]
            go_wp2
            go_ret
            exact ⟨rfl, hBr⟩
          · obtain ⟨g3, cap3, hv3, hrow5, _⟩ := owns_shape hown3 (by omega)
            have hrow6 : Rows3 wr g3 0 K := hrow5.below hnx hrow5.1
            rw [hv3]
            clear hown3 hv3 hrow5
            obtain ⟨m, hmm⟩ : ∃ m, m = K.length := ⟨_, rfl⟩
            have HM : Hid (m = K.length) := hmm
            rw [← hmm] at hle hm0 ⊢
            clear hmm
            have hneq : ((m : Int) != (k : Int) - ((k : Int) - (m : Int))) = false := by simp; omega
            have hs6 : w.heap.size < wr.heap.size := hs4
            clear hnx hs4 hlt hk hB1 hB2 hB3 hr
            obtain ⟨wa, hwa⟩ : ∃ wa : World, wa = wr := ⟨_, rfl⟩
            rw [← hwa] at hBr hrow4 hrow6 e0 e1 e2 hs6 ⊢
            clear hwa wr
            go_wp2
            go_loopw [8] (fun i wr => ∃ j : Nat, j ≤ m ∧ i = .int .i64 j ∧ Below wa.heap.size wa wr) (fun i _ => m - (intOf i).toNat)
            case atStart => exact ⟨0, Nat.zero_le _, rfl, Below.refl _ _⟩
            case round =>
              obtain ⟨j, hj, rfl, hnx⟩ := hrel
              by_cases hlt : j < m
              · have hjl : j < K.length := by rw [← HM.out]; exact hlt
                obtain ⟨d0, d1, d2⟩ := (hrow6.below hnx hrow6.1).2 j hjl
                rw [Nat.zero_add] at d0 d1 d2
                have g0 := (hnx.cell (p := ⟨w.heap.size, 0, none⟩) hs6).trans e0
                have g1 := (hnx.cell (p := ⟨w.heap.size, 1, none⟩) hs6).trans e1
                have g2 := (hnx.cell (p := ⟨w.heap.size, 2, none⟩) hs6).trans e2
                have hnej := HNE.out j hjl
                generalize K.getD j (0, 0, 0) = rk at d0 d1 d2 hnej
                obtain ⟨p, q, r⟩ := rk
                have hq := eqIn_no p q r x y z hnej
                have hb1 : ((j : Int)) < (m : Int) := by omega
                clear hnej hjl e0 e1 e2
                go_wp2
                go_quiet (fail)
                go_wp2
                go_roundw
                case rel => exact ⟨j + 1, by omega, by go_num, below_drewN hnx _⟩
                case measure => simp [intOf]; omega
              · have hBs : Below w.heap.size w wr := hBr.trans (hnx.mono (by omega))
                have hrow7 : Rows3 wr w1.heap.size 0 l := hrow4.below hnx hrow4.1
                have hrow8 : Rows3 wr g3 0 K := hrow6.below hnx hrow6.1
                have hs7 : w.heap.size < wr.heap.size := Nat.lt_of_lt_of_le hs6 hnx.size
                clear hnx hBr hrow4 hrow6 e0 e1 e2 hs6 HNE
                obtain ⟨wb, hwb⟩ : ∃ wb : World, wb = wr := ⟨_, rfl⟩
                rw [← hwb] at hBs hrow7 hrow8 hs7 ⊢
                clear hwb wr
                go_wp2
                go_loopw [9, 10] (fun t i wr => ∃ a j : Nat, a ≤ k ∧ j ≤ m ∧ t = .int .i64 a ∧ i = .int .i64 j ∧ Hid ((K.drop j).Sublist (l.drop a)) ∧ Below wb.heap.size wb wr) (fun _ i _ => m - (intOf i).toNat)
                case atStart => exact ⟨0, 0, Nat.zero_le _, Nat.zero_le _, rfl, rfl, HSUB.out, Below.refl _ _⟩
                case round =>
                  obtain ⟨a, j2, ha, hj2, rfl, rfl, hsb, hnx⟩ := hrel
                  by_cases hlt2 : j2 < m
                  · have hjl : j2 < K.length := by rw [← HM.out]; exact hlt2
                    have HJL := hide hjl
                    clear hjl
                    have hrow9 : Rows3 wr w1.heap.size 0 l := hrow7.below hnx hrow7.1
                    have hrow10 : Rows3 wr g3 0 K := hrow8.below hnx hrow8.1
                    have hBt : Hid (Below wb.heap.size wb wr) := hnx
                    clear hnx
                    obtain ⟨wc, hwc⟩ : ∃ wc : World, wc = wr := ⟨_, rfl⟩
                    rw [← hwc] at hBt hrow9 hrow10 ⊢
                    clear hwc wr
                    go_wp2
                    go_loopw [9] (fun t wr => ∃ a : Nat, a ≤ k ∧ t = .int .i64 a ∧ Hid ((K.drop j2).Sublist (l.drop a)) ∧ Below wc.heap.size wc wr) (fun t _ => k - (intOf t).toNat)
                    case atStart => exact ⟨a, ha, rfl, hsb, Below.refl _ _⟩
                    case round =>
                      clear hsb ha
                      obtain ⟨a2, ha2, rfl, hsb, hnx⟩ := hrel
                      by_cases hlt3 : a2 < k
                      · have hal : a2 < l.length := by rw [← HN.out]; exact hlt3
                        obtain ⟨d0, d1, d2⟩ := (hrow9.below hnx hrow9.1).2 a2 hal
                        obtain ⟨f0, f1, f2⟩ := (hrow10.below hnx hrow10.1).2 j2 HJL.out
                        rw [Nat.zero_add] at d0 d1 d2 f0 f1 f2
                        have SK : Hid (l.getD a2 (0, 0, 0) ≠ K.getD j2 (0, 0, 0) → (K.drop j2).Sublist (l.drop (a2 + 1))) := fun h => sub_skip HJL.out hal hsb.out h
                        have ST : Hid (l.getD a2 (0, 0, 0) = K.getD j2 (0, 0, 0) → (K.drop (j2 + 1)).Sublist (l.drop (a2 + 1))) := fun h => sub_take HJL.out hal hsb.out h
                        generalize l.getD a2 (0, 0, 0) = r1 at d0 d1 d2 SK ST
                        generalize K.getD j2 (0, 0, 0) = r2 at f0 f1 f2 SK ST
                        obtain ⟨p, q, r⟩ := r1
                        obtain ⟨x', y', z'⟩ := r2
                        have hb1 : ((a2 : Int)) < (k : Int) := by omega
                        have hb2 : ((j2 : Int)) < (m : Int) := by omega
                        have hb3 : decide ((a2 : Int) < (k : Int)) = true := by simp; omega
                        clear hal
                        by_cases hall : ((p, q, r) : R3) = (x', y', z')
                        · have hq := eqIn_yes p q r x' y' z' hall
                          have S2 := hide (ST.out hall)
                          have hne2 : ((a2 : Int) == (k : Int)) = false := by simp; omega
                          clear SK ST hall
                          go_wp2
                          go_quiet (fail)
                          go_wp2
                          go_roundw
                          case rel => exact ⟨a2 + 1, j2 + 1, by omega, by omega, by go_num, by go_num, S2, hBt.out.trans ((below_drewN hnx _).mono hBt.out.size)⟩
                          case measure => simp [intOf]; omega
                        · have hq := eqIn_no p q r x' y' z' hall
                          have S1 := hide (SK.out hall)
                          clear SK ST hall
                          go_wp2
                          go_quiet (fail)
                          go_wp2
                          go_roundw
                          case rel => exact ⟨a2 + 1, by omega, by go_num, S1, below_drewN hnx _⟩
                          case measure => simp [intOf]; omega
                      · exact (sub_end HJL.out (by rw [← HN.out]; omega) hsb.out).elim
                  · go_wp2
                    go_ret
                    exact ⟨rfl, hBs.trans (hnx.mono (by omega))⟩
  · go_enter Try.func3, Try.ntmps3
    go_wp2_with fail
    refine (unhide HB _).mono ?_
    rintro e w1 ⟨⟨ok, rfl⟩, hb1⟩
    have hB1 : Below w.heap.size w w1 := ((Below.refl _ _).alloc (Nat.le_refl _) _).trans (hb1.mono (by simp))
    cases ok
    · go_wp2
      go_ret
      exact ⟨rfl, hB1⟩
    · go_wp2
      go_ret
      exact ⟨rfl, hB1⟩

end Go.Proofs.Qxb6600196a
