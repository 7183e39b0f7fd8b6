/-
  FnAppIDsAddAnswersFirstLine (3): the walk.
-/
import Derived.Test.Qxb6600213aApC
import Derived.Deep.RegionHeld3
namespace Go.Proofs.Qxb6600213a
open Go.RowKit Go.Maps Go.WideMaps

/-- The k-th string is v. -/
def isAt (ss : List ByteArray) (v : ByteArray) (i : Nat) : Bool := (ss.getD i ByteArray.empty).toList == v.toList
theorem isAt_self (ss : List ByteArray) (i : Nat) : isAt ss (ss.getD i ByteArray.empty) i = true := by simp [isAt]
theorem isAt_eq {ss : List ByteArray} {v : ByteArray} {i : Nat} (h : isAt ss v i = true) : ss.getD i ByteArray.empty = v := by
  have h := eq_of_beq h
  rw [ByteArray.toList_eq, ByteArray.toList_eq] at h
  exact ByteArray.ext (Array.toList_inj.1 h)
/-- The least number of a kind. -/
theorem least {p : Nat → Prop} (h : ∃ j, p j) : ∃ j, p j ∧ ∀ i, i < j → ¬ p i := by
  obtain ⟨n, hn⟩ := h
  induction n using Nat.strongRecOn with
  | _ n ih =>
    by_cases hl : ∃ m, m < n ∧ p m
    · obtain ⟨m, hm, hpm⟩ := hl
      exact ih m hm hpm
    · exact ⟨n, hn, fun i hi hpi => hl ⟨i, hi, hpi⟩⟩
theorem fst_spec {ss : List ByteArray} (v : ByteArray) {k : Nat} (hk : k ≤ ss.length) :
    (fst ss v k < k ∧ isAt ss v (fst ss v k) = true ∧ ∀ i, i < fst ss v k → isAt ss v i = false) ∨ (fst ss v k = k ∧ ∀ i, i < k → isAt ss v i = false) := by
  by_cases h : ∃ j, j < k ∧ isAt ss v j = true
  · obtain ⟨j, ⟨hj, hy⟩, hmin⟩ := least h
    have e : fst ss v k = j := fst_some hj hk hy (fun i hi => by
      cases hq : isAt ss v i
      · exact hq
      · exact absurd ⟨by omega, hq⟩ (hmin i hi))
    rw [e]
    exact .inl ⟨hj, hy, fun i hi => by
      cases hq : isAt ss v i
      · rfl
      · exact absurd ⟨by omega, hq⟩ (hmin i hi)⟩
  · have hn : ∀ i, i < k → isAt ss v i = false := fun i hi => by
      cases hq : isAt ss v i
      · rfl
      · exact absurd ⟨i, hi, hq⟩ h
    exact .inr ⟨fst_none hk hn, hn⟩

theorem fst_keep {ss : List ByteArray} {v : ByteArray} {k : Nat} (hk : k < ss.length) (h : fst ss v k < k) : fst ss v (k + 1) = fst ss v k := by
  rcases fst_spec v (Nat.le_of_lt hk) with ⟨h1, h2, h3⟩ | ⟨h1, _⟩
  · exact fst_some (by omega) hk h2 h3
  · omega
theorem fst_hit {ss : List ByteArray} {v : ByteArray} {k : Nat} (hk : k < ss.length) (h : ¬ fst ss v k < k) (hv : ss.getD k ByteArray.empty = v) : fst ss v (k + 1) = k := by
  rcases fst_spec v (Nat.le_of_lt hk) with ⟨h1, _⟩ | ⟨_, h2⟩
  · exact absurd h1 h
  · refine fst_some (by omega) hk ?_ h2
    rw [hv]; exact beq_self_eq_true _
theorem fst_miss {ss : List ByteArray} {v : ByteArray} {k : Nat} (hk : k < ss.length) (h : ¬ fst ss v k < k) (hv : ss.getD k ByteArray.empty ≠ v) : fst ss v (k + 1) = k + 1 := by
  rcases fst_spec v (Nat.le_of_lt hk) with ⟨h1, _⟩ | ⟨_, h2⟩
  · exact absurd h1 h
  · refine fst_none hk fun i hi => ?_
    rcases Nat.lt_or_eq_of_le (Nat.le_of_lt_succ hi) with h3 | h3
    · exact h2 i h3
    · subst h3
      cases hq : isAt ss v i
      · exact hq
      · exact absurd (isAt_eq hq) hv

theorem held_zero (ss : List ByteArray) (is : List Int) : Held (.map []) ss is 0 := ⟨tidy_empty, fun _ h => absurd h (Nat.not_lt_zero _), fun _ _ => rfl⟩
theorem keyLit (v : ByteArray) : WideAt.IsKeyLit (keyOfStr v) := trivial
theorem Held.found {D : DataW Unit} {ss : List ByteArray} {is : List Int} {k : Nat} (h : Held D ss is k) (hk : k < ss.length) (hf : fst ss (ss.getD k ByteArray.empty) k < k) : Held D ss is (k + 1) := by
  refine ⟨h.tidy, fun v hv => ?_, fun v hv => ?_⟩
  · by_cases h1 : fst ss v k < k
    · rw [fst_keep hk h1]; exact h.yes v h1
    · by_cases h2 : ss.getD k ByteArray.empty = v
      · rw [h2] at hf; exact absurd hf h1
      · rw [fst_miss hk h1 h2] at hv; omega
  · by_cases h1 : fst ss v k < k
    · rw [fst_keep hk h1] at hv; omega
    · exact h.no v h1
theorem Held.add {D : DataW Unit} {ss : List ByteArray} {is : List Int} {k : Nat} (h : Held D ss is k) (hk : k < ss.length) (hf : ¬ fst ss (ss.getD k ByteArray.empty) k < k) :
    Held (D.put (keyOfStr (ss.getD k ByteArray.empty)) (.lit (.int .i64 (is.getD k 0)))) ss is (k + 1) := by
  refine ⟨h.tidy.put (keyLit _) _, fun v hv => ?_, fun v hv => ?_⟩
  · by_cases h2 : ss.getD k ByteArray.empty = v
    · subst h2
      rw [fst_hit hk hf rfl]
      exact ⟨has_put_same h.tidy.isMap (keyLit _) _, atKey_put_same h.tidy.isMap (keyLit _) _ _⟩
    · have hne : keyOfStr v ≠ keyOfStr (ss.getD k ByteArray.empty) := fun e => h2 (keyOfStr_inj e).symm
      by_cases h1 : fst ss v k < k
      · rw [fst_keep hk h1]
        obtain ⟨y1, y2⟩ := h.yes v h1
        exact ⟨(has_put_other hne _).trans y1, (atKey_put_other hne _ _).trans y2⟩
      · rw [fst_miss hk h1 h2] at hv; omega
  · by_cases h2 : ss.getD k ByteArray.empty = v
    · rw [fst_hit hk (by rw [h2] at hf; exact hf) h2] at hv; omega
    · have hne : keyOfStr v ≠ keyOfStr (ss.getD k ByteArray.empty) := fun e => h2 (keyOfStr_inj e).symm
      by_cases h1 : fst ss v k < k
      · rw [fst_keep hk h1] at hv; omega
      · exact (has_put_other hne _).trans (h.no v h1)

theorem makeMap30 (w : World) : (Instr.makeMap 30 none).run Try.prog w = .ok (.map (some w.heap.size)) (w.alloc (.map #[] 0)) := by
  simp [Instr.makeMap, Result.andThen]

set_option maxHeartbeats 4000000 in
set_option maxRecDepth 20000 in
theorem walk3 (p q : Option Addr) (c d : Nat) (ss : List ByteArray) (is : List Int) (w : World) (hc : Strs w p ss) (hq : Ints w q is) (hn : ss.length ≤ 140737488351232) (hm : is.length ≤ 140737488351232)
    (hs : ∀ j, (ss.getD j ByteArray.empty).size ≤ 9223372036854775807) (hl : ∀ j, (Lit.int .i64 (is.getD j 0)).wf = true) :
    Calls Try.prog 3 #[.slice p ss.length c, .slice q is.length d] w fun e w' => e = .returned (.bool true) ∧ Below w.heap.size w w' := by
  have H5 := hide (bytes5 p q c is.length d ss w hc hn hm hs)
  have HC := hide hc
  have HQ := hide hq
  have HL := hide hl
  have hmk := makeMap30
  obtain ⟨n, hnn⟩ : ∃ n, n = ss.length := ⟨_, rfl⟩
  obtain ⟨m, hmm⟩ : ∃ m, m = is.length := ⟨_, rfl⟩
  have HN := hide hnn
  have HM := hide hmm
  rw [← hnn] at hn H5 ⊢
  rw [← hmm] at hm H5 ⊢
  clear hc hq hs hl hnn hmm
  go_enter Try.func3, Try.ntmps3
  go_wp2_with fail
  refine (unhide H5).mono ?_
  rintro e w' ⟨⟨r, rfl, hr⟩, hw⟩
  obtain rfl := hw.symm
  clear hw H5
  cases r with
  | false =>
    clear hr
    go_wp2
    go_ret
    exact ⟨rfl, Below.refl _ _⟩
  | true =>
    obtain ⟨b1, b2, b3⟩ := hr rfl
    have HB := hide b3
    clear hr b3
    rw [← HN.out] at b1
    have H6 := hide (script6 p q none c m d 0 ss [] w HC.out (fun h => absurd rfl h) (by rw [← HN.out]; exact b1) HB.out (by simp) (by simp) b2)
    rw [← HN.out] at H6
    go_wp2_with fail
    refine (unhide H6).mono ?_
    rintro e w' ⟨⟨x, rfl⟩, hw⟩
    obtain rfl := hw.symm
    clear hw H6
    by_cases hx : x ≤ 1048576
    · by_cases h4 : n ≤ 4096
      · have H7 := hide (copyS p c ss w HC.out (by rw [← HN.out]; omega))
        rw [← HN.out] at H7
        go_wp2_with fail
        refine (unhide H7).mono ?_
        rintro e w1 ⟨⟨p1, c1, rfl, hs1⟩, hb1⟩
        rw [← HN.out]
        have H8 := hide (copyI q d is w1 (HQ.out.below hb1) (by rw [← HM.out]; exact b2))
        rw [← HM.out] at H8
        have HS1 := hide hs1
        clear hs1 H7
        go_wp2_with fail
        refine (unhide H8).mono ?_
        rintro e w2 ⟨⟨q2, d2, rfl, hi2⟩, hb2⟩
        rw [← HM.out]
        have HI2 := hide hi2
        have HS2 := hide (HS1.out.below hb2)
        clear hi2 H8 HS1
        have hb12 := hb1.trans (hb2.mono hb1.size)
        clear hb1 hb2
        go_wp2_with fail
        refine (pairs9 p1 q2 n c1 m d2 w2).mono ?_
        rintro e w' ⟨rfl, hw⟩
        obtain rfl := hw.symm
        clear hw
        obtain ⟨z, hz⟩ : ∃ z, z = min n m := ⟨_, rfl⟩
        have hz1 : z ≤ n := by rw [hz]; exact Nat.min_le_left ..
        have hz2 : z ≤ m := by rw [hz]; exact Nat.min_le_right ..
        rw [← hz]
        clear hz
        go_wp2
        go_loopw [7] (fun s7 wq => ∃ (k y : Nat) (D : DataW Unit), k ≤ z ∧ y ≤ k ∧ s7 = .int .i64 k ∧ Own wq w2.heap.size y D ∧ Hid (Held D ss is k) ∧ Below w2.heap.size w2 wq) (fun s7 _ => z - (intOf s7).toNat)
        case atStart => exact ⟨0, 0, .map [], Nat.zero_le _, Nat.le_refl _, rfl, World.ownsMap_made _ _ _ _, hide (held_zero ss is), (Below.refl _ _).alloc (Nat.le_refl _) _⟩
        case round =>
          obtain ⟨k, y, D, hk, hy, rfl, hown, hheld, hbq⟩ := hrel
          by_cases hlt : k < z
          · have hks : k < ss.length := by rw [← HN.out]; omega
            have hki : k < is.length := by rw [← HM.out]; omega
            obtain ⟨sb, so, rfl, hsb, hsall⟩ := HS2.out (by rintro rfl; cases hks)
            obtain ⟨ib, io, rfl, hib, hiall⟩ := HI2.out (by rintro rfl; cases hki)
            have hsc1 := (hbq.cell (p := ⟨sb, so + k, none⟩) hsb).trans (hsall k hks)
            have hic1 := (hbq.cell (p := ⟨ib, io + k, none⟩) hib).trans (hiall k hki)
            have HIJ := hide (fun j (hj : j < k) => (hbq.cell (p := ⟨ib, io + j, none⟩) hib).trans (hiall j (by omega)))
            have HL1 := hide (HL.out k)
            have hsz : (ss.getD k ByteArray.empty).size ≤ 1048576 := HB.out _ (by simp [List.getD, List.getElem?_eq_getElem hks])
            have hkn : (k : Int) < (n : Int) := by omega
            have hkm : (k : Int) < (m : Int) := by omega
            have F : Hid (∀ W, Below w2.heap.size w2 W → Calls Try.prog 11 #[.slice (some ⟨sb, so, none⟩) n c1, .int .i64 k, .string (ss.getD k ByteArray.empty)] W fun e w' => e = .returned (.int .i64 (fstI ss (ss.getD k ByteArray.empty) k)) ∧ w' = W) :=
              hide (fun W hW => first11 (some ⟨sb, so, none⟩) n c1 k ss (ss.getD k ByteArray.empty) W (HS2.out.below hW) HN.out (by omega) (by omega))
            have hownd := hown.keep (Below.refl w2.heap.size.succ wr).drew (Nat.lt_succ_self _)
            have hbd : Below w2.heap.size w2 wr.drew := hbq.drew
            by_cases hf : fst ss (ss.getD k ByteArray.empty) k < k
            · obtain ⟨y1, y2⟩ := hheld.out.yes _ hf
              have H10 := hide (door_found w2.heap.size y D (ss.getD k ByteArray.empty) (is.getD k 0) _ _ hownd (by unfold maxLen; omega) y1 y2)
              have HN2 := hide (hheld.out.found hks hf)
              have e11 : fstI ss (ss.getD k ByteArray.empty) k = (fst ss (ss.getD k ByteArray.empty) k : Int) := by unfold fstI; rw [if_pos hf]
              rw [e11] at F
              have hjc := HIJ.out _ hf
              clear e11 y1 y2 hheld HIJ hsall hiall HL1
              generalize fst ss (ss.getD k ByteArray.empty) k = j at H10 F hjc hf
              generalize is.getD j 0 = lj at H10 hjc
              generalize ss.getD k ByteArray.empty = s at H10 F hsc1 hsz
              generalize is.getD k 0 = lk at H10 hic1
              have hjm : (j : Int) < (m : Int) := by omega
              go_wp2_with fail
              go_region_held3 (fun w' => w'.cell? ⟨sb, so + k, none⟩ = some (.string s) ∧ w'.cell? ⟨ib, io + k, none⟩ = some (.int .i64 lk)) (go_keep)
                ((go_at_call 10; refine (unhide H10).mono ?_; rintro e w3 ⟨rfl, hw3⟩; subst hw3))
              go_wp2_with fail
              refine (unhide F _ hbd).mono ?_
              rintro e w4 ⟨rfl, hw4⟩
              subst hw4
              go_wp2
              go_roundw
              case rel => exact ⟨k + 1, y, D, by omega, by omega, by go_num, hown.keep (Below.refl w2.heap.size.succ wr).drew (Nat.lt_succ_self _), HN2, hbd⟩
              case measure => simp [intOf]; omega
            · have H10 := hide (door_new w2.heap.size y D (ss.getD k ByteArray.empty) (is.getD k 0) _ hownd hsz (by omega) HL1.out (hheld.out.no _ hf))
              have HN2 := hide (hheld.out.add hks hf)
              have e11 : fstI ss (ss.getD k ByteArray.empty) k = -1 := by unfold fstI; rw [if_neg hf]
              rw [e11] at F
              clear e11 hheld HIJ hsall hiall hown hownd HL1 hf
              generalize ss.getD k ByteArray.empty = s at H10 F hsc1 hsz HN2
              generalize is.getD k 0 = lk at H10 hic1 HN2
              go_wp2_with fail
              go_region_held3 (fun w' => w'.cell? ⟨sb, so + k, none⟩ = some (.string s) ∧ w'.cell? ⟨ib, io + k, none⟩ = some (.int .i64 lk)) (go_keep)
                ((go_at_call 10; refine (unhide H10).mono ?_; rintro e w3 ⟨rfl, ho3, hb3⟩; have g1 := (hb3.cell (p := ⟨sb, so + k, none⟩) hsb).trans ((World.cell?_drew _ _).trans hsc1); have g2 := (hb3.cell (p := ⟨ib, io + k, none⟩) hib).trans ((World.cell?_drew _ _).trans hic1)))
              have hb4 := hbd.trans hb3
              go_wp2_with fail
              refine (unhide F _ hb4).mono ?_
              rintro e w4 ⟨rfl, hw4⟩
              subst hw4
              go_wp2
              go_roundw
              case rel => exact ⟨k + 1, y + 1, _, by omega, by omega, by go_num, ho3, HN2, hb4⟩
              case measure => simp [intOf]; omega
          · obtain rfl : k = z := by omega
            go_wp2
            go_ret
            exact ⟨rfl, hb12.trans (hbq.mono hb12.size)⟩
      · go_wp2
        go_ret
        exact ⟨rfl, Below.refl _ _⟩
    · go_wp2
      go_ret
      exact ⟨rfl, Below.refl _ _⟩

end Go.Proofs.Qxb6600213a
