/-
  FnTwiceFindsAppendedRepeat (function 5): the walk.
-/
import Derived.Test.Qxb6600155aTwD
namespace Go.Proofs.Qxb6600155a
open Go.RowKit

/-- The plain law: a list with one of its own elements at its end has a repeat; if the list had none, the first repeat is that element. -/
theorem ext_repeat (ss : List ByteArray) (i : Nat) (hi : i < ss.length) : ¬ (ss ++ [ss.getD i ByteArray.empty]).Nodup := by
  intro h
  rw [List.nodup_append] at h
  exact h.2.2 _ (getD_mem hi) _ (List.mem_singleton.2 rfl) rfl
theorem ext_first (ss : List ByteArray) (x s : ByteArray) (k : Nat) (hk : k < (ss ++ [x]).length) (hs : s = (ss ++ [x]).getD k ByteArray.empty) (hm : s ∈ (ss ++ [x]).take k) (hnd : ss.Nodup) : s = x := by
  by_cases h : k < ss.length
  · exfalso
    rw [List.take_append_of_le_length (by omega)] at hm
    have e : (ss ++ [x]).getD k ByteArray.empty = ss[k] := by simp [List.getD, List.getElem?_append_left h, List.getElem?_eq_getElem h]
    rw [e] at hs
    subst hs
    obtain ⟨j, hj, e2⟩ := List.getElem_of_mem hm
    have hj' : j < k := by simp at hj; omega
    rw [List.getElem_take] at e2
    have := (List.nodup_iff_pairwise_ne.1 hnd)
    have hp := List.pairwise_iff_getElem.1 this j k (by omega) h hj'
    exact hp e2
  · have : k = ss.length := by simp at hk; omega
    subst this
    rw [hs]; simp [List.getD]

theorem ext_size {ss : List ByteArray} {x : ByteArray} {m : Nat} (hs : ∀ j, (ss.getD j ByteArray.empty).size ≤ maxLen) (hx : x = ss.getD m ByteArray.empty) : ∀ j, ((ss ++ [x]).getD j ByteArray.empty).size ≤ maxLen := by
  intro j
  by_cases h : j < ss.length
  · have := hs j
    simpa [List.getD, List.getElem?_append_left h] using this
  · by_cases h2 : j = ss.length
    · subst h2
      have := hs m
      rw [← hx] at this
      simpa [List.getD] using this
    · rw [List.getD, List.getElem?_eq_none (by simp; omega)]
      exact Nat.zero_le _

theorem TwEnd.any {e : Ending} {ss : List ByteArray} (h : TwEnd e ss) : ∃ (s : ByteArray) (ok : Bool), e = .returned (.tuple #[.string s, .bool ok]) ∧ Hid (ok = false → ss.Nodup) := by
  rcases h with ⟨h, hd⟩ | ⟨k, s, _, _, _, _, h⟩
  · exact ⟨_, _, h, fun _ => hd⟩
  · exact ⟨_, _, h, fun h => by cases h⟩

set_option maxHeartbeats 400000 in
theorem fits_empty (a : Option Addr) (c : Nat) (w : World) :
    Calls Try.prog 7 #[.slice a 0 c] w fun e w' => RetB e ∧ w' = w := by
  go_enter Try.func7, Try.ntmps7
  go_wp2
  refine wp_loop_rounds 1 ?_
  rw [rounds_succ]
  go_wp2
  go_ret
  exact ⟨.mk _ rfl, rfl⟩

set_option maxHeartbeats 400000 in
theorem law_empty (a : Option Addr) (c : Nat) (i : Int) (w : World) :
    Calls Try.prog 5 #[.slice a 0 c, .int .i64 i] w fun e w' => e = .returned (.bool true) ∧ Below w.heap.size w w' := by
  go_enter Try.func5, Try.ntmps5
  go_wp2_with fail
  refine (bytes_empty a c i _).mono ?_
  rintro e w' ⟨⟨r, rfl⟩, rfl⟩
  cases r
  · go_wp2
    go_ret
    exact ⟨rfl, Below.refl _ _⟩
  · go_wp2_with fail
    refine (fits_empty a c _).mono ?_
    rintro e w'' ⟨⟨r, rfl⟩, rfl⟩
    cases r
    · go_wp2
      go_ret
      exact ⟨rfl, Below.refl _ _⟩
    · by_cases h : i < 0
      · go_wp2
        go_ret
        exact ⟨rfl, Below.refl _ _⟩
      · go_wp2
        go_ret
        exact ⟨rfl, Below.refl _ _⟩

set_option maxHeartbeats 800000 in
theorem law_any (b off c : Nat) (ss : List ByteArray) (i : Int) (w : World) (hc : Strs w b off ss) (hn : ss.length ≤ 140737488351232) (hs : ∀ j, (ss.getD j ByteArray.empty).size ≤ maxLen) :
    Calls Try.prog 5 #[.slice (some ⟨b, off, none⟩) ss.length c, .int .i64 i] w fun e w' => e = .returned (.bool true) ∧ Below w.heap.size w w' := by
  have HS : Hid (∀ j, (ss.getD j ByteArray.empty).size ≤ maxLen) := hs
  have HB := hide (bytes_any b off c i ss w hc hn hs)
  clear hs
  by_cases hbig : ss.length ≤ 65536
  · have HF := hide (fits_any b off c ss w hc hbig HS.out)
    have HC := hide (copy_any b off c ss w hc hbig)
    have HD : Hid (∀ w1 : World, Strs w1 w.heap.size 0 ss → Calls Try.prog 9 #[.slice (some ⟨w.heap.size, 0, none⟩) ss.length ss.length] w1 fun e w' => TwEnd e ss ∧ Below w1.heap.size w1 w') :=
      fun w1 h => door_any w.heap.size 0 ss.length ss w1 h (by omega) (Nat.le_refl _) HS.out
    obtain ⟨n, hnn⟩ : ∃ n, n = ss.length := ⟨_, rfl⟩
    have HN : Hid (n = ss.length) := hnn
    rw [← hnn] at hbig hn HB HF HC HD ⊢
    clear hnn
    go_enter Try.func5, Try.ntmps5
    go_wp2_with fail
    refine (unhide HB).mono ?_
    rintro e w' ⟨⟨r, rfl⟩, hw⟩
    obtain rfl := hw.symm
    clear hw
    cases r
    · go_wp2
      go_ret
      exact ⟨rfl, Below.refl _ _⟩
    · go_wp2_with fail
      refine (unhide HF).mono ?_
      rintro e w'' ⟨⟨r, rfl⟩, hw⟩
      obtain rfl := hw.symm
      clear hw
      cases r
      · go_wp2
        go_ret
        exact ⟨rfl, Below.refl _ _⟩
      · by_cases h : i < 0
        · go_wp2
          go_ret
          exact ⟨rfl, Below.refl _ _⟩
        · by_cases h2 : (n : Int) ≤ i
          · go_wp2
            go_ret
            exact ⟨rfl, Below.refl _ _⟩
          · obtain ⟨m, rfl⟩ := Int.eq_ofNat_of_zero_le (show 0 ≤ i by omega)
            have hd1 : decide ((m : Int) < 0) = false := by simp
            have hd2 : decide ((n : Int) ≤ (m : Int)) = false := by simp; omega
            have hd3 : decide ((65536 : Int) < (n : Int)) = false := by simp; omega
            clear h h2
            have hmn : m < n := by have := of_decide_eq_false hd2; omega
            go_wp2_with fail
            refine (unhide HC).mono ?_
            rintro e w1 ⟨rfl, hown1, hb1⟩
            have HX1 : Hid (Strs w1 w.heap.size 0 ss) := strs_of_owns (by rw [← HN.out]; exact hown1)
            clear hown1
            go_wp2_with fail
            refine (unhide HD w1 HX1.out).mono ?_
            rintro e w2 ⟨he, hb2⟩
            obtain ⟨s0, ok0, rfl, hok0⟩ := he.any
            clear he
            obtain ⟨i0, hi, hz0, hz1, hz2⟩ := info_parts Try.info9
            go_wp2_with (at_make; refine wpList_make_full _ rfl _ _ 22 rfl w2.heap.size 9 i0 (.string ByteArray.empty) 1 Try.underlying22 hi hz0 hz1 .i64 .i64 _ _ (n + 1) rfl rfl (by omega) (by omega) (by rw [hz2]; omega) (by unfold maxLen; omega) (Nat.le_refl _) ?_; intro w3 hown3 hgrow3)
            obtain ⟨x, hx⟩ : ∃ x, x = ss.getD m ByteArray.empty := ⟨_, rfl⟩
            have HXX := hide hx
            have HXD : Hid (∀ w3 : World, Strs w3 w2.heap.size 0 (ss ++ [x]) → Calls Try.prog 9 #[.slice (some ⟨w2.heap.size, 0, none⟩) (n + 1) (n + 1)] w3 fun e w' => TwEnd e (ss ++ [x]) ∧ Below w3.heap.size w3 w') := by
              intro w3 h3
              have hl : (ss ++ [x]).length = n + 1 := by rw [HN.out]; simp
              have := door_any w2.heap.size 0 (n + 1) (ss ++ [x]) w3 h3 (by omega) (by omega) (ext_size HS.out hx)
              rw [hl] at this
              exact this
            have hlx : (ss ++ [x]).length = n + 1 := by rw [HN.out]; simp
            have HLX := hide hlx
            have HEQ : Hid (∀ k, k < n → (ss ++ [x]).getD k ByteArray.empty = ss.getD k ByteArray.empty) := fun k hk => by
              simp [List.getD, List.getElem?_append_left (show k < ss.length by rw [← HN.out]; exact hk)]
            have HEX : Hid ((ss ++ [x]).getD n ByteArray.empty = x) := by show _ = _; rw [HN.out]; simp [List.getD]
            clear hx hlx
            have hX2 : Strs w2 w.heap.size 0 ss := ⟨Nat.lt_of_lt_of_le HX1.out.1 hb2.size, fun j hj => (hb2.cell (p := ⟨w.heap.size, 0 + j, none⟩) HX1.out.1).trans (HX1.out.2 j hj)⟩
            have HX2 := hide hX2
            clear hX2
            have hlt12 : w.heap.size < w2.heap.size := HX2.out.1
            have hb3 : Below w2.heap.size w2 w3 := (Below.refl _ _).grown hgrow3 (Nat.le_refl _) (fun k hk => by cases hk)
            have ho3 : w3.ownsRow w2.heap.size 9 1 (.slice (some ⟨w2.heap.size, 0, none⟩) (n + 1) (n + 1)) (n + 1) (half (ss ++ [x]) (n + 1) 0) := by
              rw [half_zero, ← toList_madeCells_one]
              have e : (Value.string ByteArray.empty).cells = #[.string ByteArray.empty] := rfl
              rw [e, Nat.mul_one] at hown3
              exact hown3
            clear hown3 hgrow3
            go_loopw [8] (fun i wr => ∃ k : Nat, k ≤ n ∧ i = .int .i64 k ∧ wr.ownsRow w2.heap.size 9 1 (.slice (some ⟨w2.heap.size, 0, none⟩) (n + 1) (n + 1)) (n + 1) (half (ss ++ [x]) (n + 1) k) ∧ Below w2.heap.size w2 wr) (fun i _ => n - (intOf i).toNat)
            case atStart => exact ⟨0, Nat.zero_le _, rfl, ho3, hb3⟩
            case round =>
              obtain ⟨k, hk, rfl, hown, hnx⟩ := hrel
              by_cases hlt : k < n
              · have hst := half_step (ss ++ [x]) (n + 1) k (by omega) (by rw [HLX.out]; exact Nat.le_refl _)
                have hcx := (hnx.cell (p := ⟨w.heap.size, 0 + k, none⟩) hlt12).trans (HX2.out.2 k (by rw [← HN.out]; exact hlt))
                rw [HEQ.out k hlt] at hst
                rw [Nat.zero_add] at hcx
                obtain ⟨s, hs'⟩ : ∃ s, s = ss.getD k ByteArray.empty := ⟨_, rfl⟩
                rw [← hs'] at hcx hst
                clear hs'
                have hfz := hown.frozenAt k
                have hcl := hown.cellAt k (by omega)
                rw [half_at (ss ++ [x]) (n + 1) k (by omega) (by rw [HLX.out]; exact Nat.le_refl _)] at hcl
                have hR := hown.stored k (.string s)
                rw [hst] at hR
                obtain ⟨hR1, hR2⟩ := hR
                have hR3 := hnx.grown hR2 hnx.size (fun k hk => by cases hk; exact Nat.le_refl _)
                clear hR2 hown hst
                go_wp2
                go_roundw
                case rel => exact ⟨k + 1, by omega, by go_num, hR1, hR3⟩
                case measure => simp [intOf]; omega
              · have hkn : k = n := by omega
                subst hkn
                have hst := half_step (ss ++ [x]) (k + 1) k (by omega) (by rw [HLX.out]; exact Nat.le_refl _)
                rw [HEX.out] at hst
                have hfu : half (ss ++ [x]) (k + 1) (k + 1) = (ss ++ [x]).map Value.string := by
                  have := half_full (ss ++ [x]); rwa [HLX.out] at this
                have hcx := (hnx.cell (p := ⟨w.heap.size, 0 + m, none⟩) hlt12).trans (HX2.out.2 m (by rw [← HN.out]; exact hmn))
                rw [Nat.zero_add, ← HXX.out] at hcx
                have hfz := hown.frozenAt k
                have hcl := hown.cellAt k (by omega)
                rw [half_at (ss ++ [x]) (k + 1) k (by omega) (by rw [HLX.out]; exact Nat.le_refl _)] at hcl
                have hR := hown.stored k (.string x)
                rw [hst, hfu] at hR
                obtain ⟨hR1, hR2⟩ := hR
                have hR3 := hnx.grown hR2 hnx.size (fun k hk => by cases hk; exact Nat.le_refl _)
                have HS3 : Hid (Strs (wr.setCell ⟨w2.heap.size, k, none⟩ (.string x)) w2.heap.size 0 (ss ++ [x])) := strs_of_owns (cap := k + 1) (by rw [HLX.out]; exact hR1)
                clear hR2 hown hst hfu hR1
                go_wp2_with fail
                refine (unhide HXD _ HS3.out).mono ?_
                rintro e w4 ⟨he, hb4⟩
                have hBel : Below w.heap.size w w4 := ((hb1.trans (hb2.mono hb1.size)).trans (hR3.mono (Nat.le_of_lt hlt12))).trans (hb4.mono (Nat.le_trans (Nat.le_of_lt hlt12) hR3.size))
                have hcx4 : w4.cell? ⟨w.heap.size, m, none⟩ = some (.string x) := by
                  have h1 : Below w2.heap.size wr w4 := (((Below.refl _ _).setCell (p := ⟨w2.heap.size, k, none⟩) (Nat.le_refl _) _).trans (hb4.mono hR3.size))
                  exact (h1.cell (p := ⟨w.heap.size, m, none⟩) hlt12).trans hcx
                rcases he with ⟨rfl, hnd⟩ | ⟨j, s, hj1, hj2, hj3, hj4, rfl⟩
                · exfalso
                  have := ext_repeat ss m (by rw [← HN.out]; exact hmn)
                  rw [← HXX.out] at this
                  exact this hnd
                · have HFI : Hid (ss.Nodup → s = x) := fun hnd => ext_first ss x s j hj1 hj3 hj4 hnd
                  clear hb4 hcl hfz hcx hj1 hj2 hj3 hj4 hnx hR3
                  cases ok0
                  · have hsx := HFI.out (hok0.out rfl)
                    subst hsx
                    go_wp2
                    go_ret
                    exact ⟨by simp, hBel⟩
                  · go_wp2
                    go_ret
                    exact ⟨rfl, hBel⟩
  · obtain ⟨n, hnn⟩ : ∃ n, n = ss.length := ⟨_, rfl⟩
    rw [← hnn] at hbig hn HB ⊢
    clear hnn
    go_enter Try.func5, Try.ntmps5
    go_wp2_with fail
    refine (unhide HB).mono ?_
    rintro e w' ⟨⟨r, rfl⟩, rfl⟩
    cases r
    · go_wp2
      go_ret
      exact ⟨rfl, Below.refl _ _⟩
    · go_wp2
      go_ret
      exact ⟨rfl, Below.refl _ _⟩

end Go.Proofs.Qxb6600155a
