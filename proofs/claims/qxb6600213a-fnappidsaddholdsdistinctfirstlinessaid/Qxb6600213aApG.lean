/-
  FnAppIDsAddHoldsDistinctFirstLines (4): the walk.
-/
import Derived.Test.Qxb6600213aApF
namespace Go.Proofs.Qxb6600213a
open Go.RowKit Go.Maps Go.WideMaps

set_option maxHeartbeats 8000000 in
set_option maxRecDepth 20000 in
theorem walk4 (p q r : Option Addr) (c d f : Nat) (ss us : List ByteArray) (is : List Int) (w : World) (hc : Strs w p ss) (hq : Ints w q is) (hr : Strs w r us) (hn : ss.length ≤ 140737488351232) (hm : is.length ≤ 140737488351232) (ho : us.length ≤ 140737488351232)
    (hs : ∀ j, (ss.getD j ByteArray.empty).size ≤ 9223372036854775807) (hl : ∀ j, (Lit.int .i64 (is.getD j 0)).wf = true) (ht : ∀ j, (us.getD j ByteArray.empty).size ≤ 9223372036854775807) :
    Calls Try.prog 4 #[.slice p ss.length c, .slice q is.length d, .slice r us.length f] w fun e w' => e = .returned (.bool true) ∧ Below w.heap.size w w' := by
  have H12 := hide (bytes12 p q r c is.length d f ss us w hc hr hn hm ho hs ht)
  have HC := hide hc
  have HQ := hide hq
  have HR := hide hr
  have HL := hide hl
  have hmk := makeMap30
  obtain ⟨n, hnn⟩ : ∃ n, n = ss.length := ⟨_, rfl⟩
  obtain ⟨m, hmm⟩ : ∃ m, m = is.length := ⟨_, rfl⟩
  obtain ⟨o, hoo⟩ : ∃ o, o = us.length := ⟨_, rfl⟩
  have HN := hide hnn
  have HM := hide hmm
  have HO := hide hoo
  rw [← hnn] at hn H12 ⊢
  rw [← hmm] at hm H12 ⊢
  rw [← hoo] at ho H12 ⊢
  clear hc hq hr hs hl ht hnn hmm hoo
  go_enter Try.func4, Try.ntmps4
  go_wp2_with fail
  refine (unhide H12).mono ?_
  rintro e w' ⟨⟨rr, rfl, hrr⟩, hw⟩
  obtain rfl := hw.symm
  clear hw H12
  cases rr with
  | false =>
    clear hrr
    go_wp2
    go_ret
    exact ⟨rfl, Below.refl _ _⟩
  | true =>
    obtain ⟨⟨b1, b3⟩, b2, b4, b5⟩ := hrr rfl
    have HB := hide b3
    have HB5 := hide b5
    clear hrr b3 b5
    rw [← HN.out] at b1
    rw [← HO.out] at b4
    have H6 := hide (script6 p q r c m d f ss us w HC.out HR.out (by rw [← HN.out]; exact b1) HB.out (by rw [← HO.out]; exact b4) HB5.out b2)
    rw [← HN.out, ← HO.out] at H6
    go_wp2_with fail
    refine (unhide H6).mono ?_
    rintro e w' ⟨⟨x, rfl⟩, hw⟩
    obtain rfl := hw.symm
    clear hw H6
    by_cases hx : x ≤ 1048576
    · by_cases h4 : n ≤ 4096
      · by_cases h5 : o ≤ 4096
        · have H7 := hide (copyS p c ss w HC.out (by rw [← HN.out]; omega))
          rw [← HN.out] at H7
          go_wp2_with fail
          refine (unhide H7).mono ?_
          rintro e w1 ⟨⟨p1, c1, rfl, hs1⟩, hb1⟩
          rw [← HN.out]
          have H8 := hide (copyI q d is w1 (HQ.out.below hb1) (by rw [← HM.out]; exact b2))
          rw [← HM.out] at H8
          have HS1 := hide hs1
          clear hs1 H7
          go_wp2_with fail
          refine (unhide H8).mono ?_
          rintro e w2 ⟨⟨q2, d2, rfl, hi2⟩, hb2⟩
          rw [← HM.out]
          have HI2 := hide hi2
          have HS2 := hide (HS1.out.below hb2)
          clear hi2 H8 HS1
          have hb12 := hb1.trans (hb2.mono hb1.size)
          clear hb1 hb2
          have H9 := hide (copyS r f us w2 (HR.out.below hb12) (by rw [← HO.out]; omega))
          rw [← HO.out] at H9
          go_wp2_with fail
          refine (unhide H9).mono ?_
          rintro e w3 ⟨⟨r3, f3, rfl, hu3⟩, hb3⟩
          rw [← HO.out]
          have HU3 := hide hu3
          have HS3 := hide (HS2.out.below hb3)
          have HI3 := hide (HI2.out.below hb3)
          clear hu3 H9 HS2 HI2
          have hb13 := hb12.trans (hb3.mono hb12.size)
          clear hb12 hb3
          go_wp2_with fail
          refine (pairs9 p1 q2 n c1 m d2 w3).mono ?_
          rintro e w' ⟨rfl, hw⟩
          obtain rfl := hw.symm
          clear hw
          obtain ⟨z, hz⟩ : ∃ z, z = min n m := ⟨_, rfl⟩
          have hz1 : z ≤ n := by rw [hz]; exact Nat.min_le_left ..
          have hz2 : z ≤ m := by rw [hz]; exact Nat.min_le_right ..
          rw [← hz]
          clear hz
          go_wp2
          go_loopw [9] (fun s9 wq => ∃ (k y : Nat) (D : DataW Unit), k ≤ z ∧ y ≤ k ∧ s9 = .int .i64 k ∧ Own wq w3.heap.size y D ∧ Hid (Held D ss is k ∧ size D = cnt ss k) ∧ Below w3.heap.size w3 wq) (fun s9 _ => z - (intOf s9).toNat)
          case atStart => exact ⟨0, 0, .map [], Nat.zero_le _, Nat.le_refl _, rfl, World.ownsMap_made _ _ _ _, hide ⟨held_zero ss is, rfl⟩, (Below.refl _ _).alloc (Nat.le_refl _) _⟩
          case round =>
            obtain ⟨k, y, D, hk, hy, rfl, hown, hheld, hbq⟩ := hrel
            by_cases hlt : k < z
            · have hks : k < ss.length := by rw [← HN.out]; omega
              have hki : k < is.length := by rw [← HM.out]; omega
              obtain ⟨sb, so, rfl, hsb, hsall⟩ := HS3.out (by rintro rfl; cases hks)
              obtain ⟨ib, io, rfl, hib, hiall⟩ := HI3.out (by rintro rfl; cases hki)
              have hsc1 := (hbq.cell (p := ⟨sb, so + k, none⟩) hsb).trans (hsall k hks)
              have hic1 := (hbq.cell (p := ⟨ib, io + k, none⟩) hib).trans (hiall k hki)
              have HL1 := hide (HL.out k)
              have hsz : (ss.getD k ByteArray.empty).size ≤ 1048576 := HB.out _ (by simp [List.getD, List.getElem?_eq_getElem hks])
              have hkn : (k : Int) < (n : Int) := by omega
              have hkm : (k : Int) < (m : Int) := by omega
              have hownd := hown.keep (Below.refl w3.heap.size.succ wr).drew (Nat.lt_succ_self _)
              have hbd : Below w3.heap.size w3 wr.drew := hbq.drew
              by_cases hf : fst ss (ss.getD k ByteArray.empty) k < k
              · obtain ⟨y1, y2⟩ := hheld.out.1.yes _ hf
                have H10 := hide (door_found w3.heap.size y D (ss.getD k ByteArray.empty) (is.getD k 0) _ _ hownd (by unfold maxLen; omega) y1 y2)
                have HN2 : Hid (Held D ss is (k + 1) ∧ size D = cnt ss (k + 1)) := hide ⟨hheld.out.1.found hks hf, by rw [hheld.out.2, cnt_old hf]⟩
                clear y1 y2 hheld hsall hiall HL1 hf
                generalize is.getD (fst ss (ss.getD k ByteArray.empty) k) 0 = lj at H10
                generalize ss.getD k ByteArray.empty = s at H10 hsc1 hsz
                generalize is.getD k 0 = lk at H10 hic1
                go_wp2_with fail
                go_region_held3 (fun w' => w'.cell? ⟨sb, so + k, none⟩ = some (.string s) ∧ w'.cell? ⟨ib, io + k, none⟩ = some (.int .i64 lk)) (go_keep)
                  ((go_at_call 10; refine (unhide H10).mono ?_; rintro e w4 ⟨rfl, hw4⟩; subst hw4))
                go_wp2
                go_roundw
                case rel => exact ⟨k + 1, y, D, by omega, by omega, by go_num, hownd, HN2, hbd⟩
                case measure => simp [intOf]; omega
              · have H10 := hide (door_new w3.heap.size y D (ss.getD k ByteArray.empty) (is.getD k 0) _ hownd hsz (by omega) HL1.out (hheld.out.1.no _ hf))
                have HN2 : Hid (Held (D.put (keyOfStr (ss.getD k ByteArray.empty)) (.lit (.int .i64 (is.getD k 0)))) ss is (k + 1) ∧ size (D.put (keyOfStr (ss.getD k ByteArray.empty)) (.lit (.int .i64 (is.getD k 0)))) = cnt ss (k + 1)) :=
                  hide ⟨hheld.out.1.add hks hf, by rw [size_put hheld.out.1.tidy, hheld.out.1.no _ hf, hheld.out.2, cnt_new hf]; rfl⟩
                clear hheld hsall hiall hown hownd HL1 hf
                generalize ss.getD k ByteArray.empty = s at H10 hsc1 hsz HN2
                generalize is.getD k 0 = lk at H10 hic1 HN2
                go_wp2_with fail
                go_region_held3 (fun w' => w'.cell? ⟨sb, so + k, none⟩ = some (.string s) ∧ w'.cell? ⟨ib, io + k, none⟩ = some (.int .i64 lk)) (go_keep)
                  ((go_at_call 10; refine (unhide H10).mono ?_; rintro e w4 ⟨rfl, ho4, hb4⟩; have g1 := (hb4.cell (p := ⟨sb, so + k, none⟩) hsb).trans ((World.cell?_drew _ _).trans hsc1); have g2 := (hb4.cell (p := ⟨ib, io + k, none⟩) hib).trans ((World.cell?_drew _ _).trans hic1)))
                have hb5 := hbd.trans hb4
                go_wp2
                go_roundw
                case rel => exact ⟨k + 1, y + 1, _, by omega, by omega, by go_num, ho4, HN2, hb5⟩
                case measure => simp [intOf]; omega
            · obtain rfl : k = z := by omega
              clear hlt hk
              have hlen : Maps.size D = cnt ss k := hheld.out.2
              have hcle := cnt_le ss k
              have HSR := hide (HS3.out.below hbq)
              have HUR := hide (HU3.out.below hbq)
              have HIR : Hid (∀ j, j < k → ∃ ib io, q2 = some ⟨ib, io, none⟩ ∧ wr.cell? ⟨ib, io + j, none⟩ = some (.int .i64 (is.getD j 0))) := hide (fun j hj => by
                obtain ⟨ib, io, h1, h2, h3⟩ := HI3.out (by rintro rfl; have := HM.out; simp at this; omega)
                exact ⟨ib, io, h1, (hbq.cell (p := ⟨ib, io + j, none⟩) h2).trans (h3 j (by rw [← HM.out]; omega))⟩)
              have F : Hid (∀ v, Calls Try.prog 11 #[.slice p1 n c1, .int .i64 k, .string v] wr fun e w' => e = .returned (.int .i64 (fstI ss v k)) ∧ w' = wr) :=
                hide (fun v => first11 p1 n c1 k ss v wr HSR.out HN.out (by rw [← HN.out]; exact hz1) (by omega))
              have HKL : k ≤ ss.length := by rw [← HN.out]; exact hz1
              have HKLH := hide HKL
              clear HKL
              go_wp2
              go_loop [10, 11] (fun s10 s11 => ∃ j : Nat, j ≤ k ∧ s11 = .int .i64 j ∧ s10 = .int .i64 (cnt ss j)) (fun _ s11 => k - (intOf s11).toNat)
              case atStart => exact ⟨0, Nat.zero_le _, rfl, rfl⟩
              case round =>
                obtain ⟨j, hj, rfl, rfl⟩ := hrel
                by_cases hjt : j < k
                · have hjs : j < ss.length := by have := HKLH.out; omega
                  obtain ⟨sb, so, hp1, _, hsc⟩ := HSR.out.at hjs
                  subst hp1
                  have hsz : (ss.getD j ByteArray.empty).size ≤ 1048576 := HB.out _ (by simp [List.getD, List.getElem?_eq_getElem hjs])
                  have hkey : keyOf Try.prog 9 (.string (ss.getD j ByteArray.empty)) = some (keyOfStr (ss.getD j ByteArray.empty)) := keyOf_string_mk Try.underlying9 (by unfold maxLen; omega)
                  have hjn : (j : Int) < (n : Int) := by omega
                  have hcj := cnt_le ss j
                  have FS := F.out (ss.getD j ByteArray.empty)
                  rcases fst_self hjt HKLH.out with ⟨g1, g2⟩ | ⟨g1, g2⟩
                  · have hfz : fst ss (ss.getD j ByteArray.empty) k < k := by omega
                    obtain ⟨y1, y2⟩ := hheld.out.1.yes _ hfz
                    have e11 : fstI ss (ss.getD j ByteArray.empty) k = (fst ss (ss.getD j ByteArray.empty) k : Int) := by unfold fstI; rw [if_pos hfz]
                    rw [e11] at FS
                    have HF := hide FS
                    have HY1 := hide y1
                    have HY2 := hide y2
                    obtain ⟨ib, io, hq2, hic⟩ := HIR.out _ hfz
                    subst hq2
                    have HCN := hide (cnt_old g1)
                    clear e11 FS y1 y2 g1
                    generalize fst ss (ss.getD j ByteArray.empty) k = fz at HF HY2 hic hfz g2
                    generalize is.getD fz 0 = lz at HY2 hic
                    generalize ss.getD j ByteArray.empty = s at HF HY1 HY2 hkey hsc hsz
                    have hne : ((fz : Int) == (j : Int)) = false := by simp; omega
                    have hfm : (fz : Int) < (m : Int) := by omega
                    go_wp2_with fail
                    refine (unhide HF).mono ?_
                    rintro e w5 ⟨rfl, hw5⟩
                    obtain rfl := hw5.symm
                    clear hw5
                    go_wp2_with (at_lookup; refine wpList_lookup_known _ rfl _ _ rfl w3.heap.size y D rfl hown _ _ rfl hkey lz true HY2.out HY1.out ?_)
                    go_round
                    case rel => exact ⟨j + 1, by omega, by go_num, by rw [HCN.out]⟩
                    case measure => simp [intOf]; omega
                  · have hfz : fst ss (ss.getD j ByteArray.empty) k < k := by omega
                    obtain ⟨y1, y2⟩ := hheld.out.1.yes _ hfz
                    have e11 : fstI ss (ss.getD j ByteArray.empty) k = (fst ss (ss.getD j ByteArray.empty) k : Int) := by unfold fstI; rw [if_pos hfz]
                    rw [e11, g2] at FS
                    rw [g2] at y2 hfz
                    have HF := hide FS
                    have HY1 := hide y1
                    have HY2 := hide y2
                    obtain ⟨ib, io, hq2, hic⟩ := HIR.out _ hfz
                    subst hq2
                    have HCN := hide (cnt_new g1)
                    clear e11 FS y1 y2 g1 g2
                    generalize is.getD j 0 = lz at HY2 hic
                    generalize ss.getD j ByteArray.empty = s at HF HY1 HY2 hkey hsc hsz
                    have hfm : (j : Int) < (m : Int) := by omega
                    go_wp2_with fail
                    refine (unhide HF).mono ?_
                    rintro e w5 ⟨rfl, hw5⟩
                    obtain rfl := hw5.symm
                    clear hw5
                    go_wp2_with (at_lookup; refine wpList_lookup_known _ rfl _ _ rfl w3.heap.size y D rfl hown _ _ rfl hkey lz true HY2.out HY1.out ?_)
                    go_round
                    case rel => exact ⟨j + 1, by omega, by go_num, by rw [HCN.out]; go_num⟩
                    case measure => simp [intOf]; omega
                · obtain rfl : j = k := by omega
                  clear hjt hj
                  go_wp2_with (at_len; refine wpList_len_own _ rfl _ 30 rfl 9 3 Try.underlying30 _ w3.heap.size y D rfl hown ?_; rw [hlen])
                  go_loop [15] (fun s15 => ∃ t : Nat, t ≤ o ∧ s15 = .int .i64 t) (fun s15 => o - (intOf s15).toNat)
                  case atStart => exact ⟨0, Nat.zero_le _, rfl⟩
                  case round =>
                    obtain ⟨t, ht, rfl⟩ := hrel
                    by_cases htt : t < o
                    · have hts : t < us.length := by rw [← HO.out]; exact htt
                      obtain ⟨ub, uo, hr3, _, huc⟩ := HUR.out.at hts
                      subst hr3
                      have husz : (us.getD t ByteArray.empty).size ≤ 1048576 := HB5.out _ (by simp [List.getD, List.getElem?_eq_getElem hts])
                      have hkey : keyOf Try.prog 9 (.string (us.getD t ByteArray.empty)) = some (keyOfStr (us.getD t ByteArray.empty)) := keyOf_string_mk Try.underlying9 (by unfold maxLen; omega)
                      have hto : (t : Int) < (o : Int) := by omega
                      have FS := F.out (us.getD t ByteArray.empty)
                      by_cases hfz : fst ss (us.getD t ByteArray.empty) j < j
                      · obtain ⟨y1, y2⟩ := hheld.out.1.yes _ hfz
                        have e11 : fstI ss (us.getD t ByteArray.empty) j = (fst ss (us.getD t ByteArray.empty) j : Int) := by unfold fstI; rw [if_pos hfz]
                        rw [e11] at FS
                        have HF := hide FS
                        have HY1 := hide y1
                        have HY2 := hide y2
                        obtain ⟨ib, io, hq2, hic⟩ := HIR.out _ hfz
                        subst hq2
                        clear e11 FS y1 y2
                        generalize fst ss (us.getD t ByteArray.empty) j = fz at HF HY2 hic hfz
                        generalize is.getD fz 0 = lz at HY2 hic
                        generalize us.getD t ByteArray.empty = s at HF HY1 HY2 hkey huc husz
                        have hfm : (fz : Int) < (m : Int) := by omega
                        go_wp2_with fail
                        refine (unhide HF).mono ?_
                        rintro e w5 ⟨rfl, hw5⟩
                        obtain rfl := hw5.symm
                        clear hw5
                        go_wp2_with (at_lookup; refine wpList_lookup_known _ rfl _ _ rfl w3.heap.size y D rfl hown _ _ rfl hkey lz true HY2.out HY1.out ?_)
                        go_round
                        case rel => exact ⟨t + 1, by omega, by go_num⟩
                        case measure => simp [intOf]; omega
                      · have y1 := hheld.out.1.no _ hfz
                        have HY2 := hide (atKey_of_not_has y1 (.lit (.int .i64 0)))
                        have HY1 := hide y1
                        have e11 : fstI ss (us.getD t ByteArray.empty) j = -1 := by unfold fstI; rw [if_neg hfz]
                        rw [e11] at FS
                        have HF := hide FS
                        clear e11 FS y1 hfz
                        generalize us.getD t ByteArray.empty = s at HF HY1 HY2 hkey huc husz
                        go_wp2_with fail
                        refine (unhide HF).mono ?_
                        rintro e w5 ⟨rfl, hw5⟩
                        obtain rfl := hw5.symm
                        clear hw5
                        go_wp2_with (at_lookup; refine wpList_lookup_known _ rfl _ _ rfl w3.heap.size y D rfl hown _ _ rfl hkey 0 false HY2.out HY1.out ?_)
                        go_round
                        case rel => exact ⟨t + 1, by omega, by go_num⟩
                        case measure => simp [intOf]; omega
                    · go_wp2
                      go_ret
                      exact ⟨rfl, hb13.trans (hbq.mono hb13.size)⟩
        · go_wp2
          go_ret
          exact ⟨rfl, Below.refl _ _⟩
      · go_wp2
        go_ret
        exact ⟨rfl, Below.refl _ _⟩
    · go_wp2
      go_ret
      exact ⟨rfl, Below.refl _ _⟩

end Go.Proofs.Qxb6600213a
