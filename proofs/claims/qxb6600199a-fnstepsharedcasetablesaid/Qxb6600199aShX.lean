/-
  zzInsert (19).
-/
import Derived.Test.Qxb6600199aShW
import Derived.Deep.CutRange
namespace Go.Proofs.Qxb6600199a
open Go.RowKit

/-- What zzInsert has laid behind k shares. -/
def outk (S : List Sh) (nm : List UInt8) (t k : Nat) : List Sh := if rk S nm < k then S.take (rk S nm) ++ (nm, be8 t) :: (S.drop (rk S nm)).take (k - rk S nm) else S.take k
theorem outk_zero (S : List Sh) (nm : List UInt8) (t : Nat) : outk S nm t 0 = [] := by simp [outk]
theorem outk_low {S : List Sh} {nm : List UInt8} {t k : Nat} (hk : k < S.length) (h : k < rk S nm) : outk S nm t (k + 1) = outk S nm t k ++ [S[k]] := by
  unfold outk
  rw [if_neg (by omega), if_neg (by omega), List.take_succ_eq_append_getElem hk]
theorem outk_at {S : List Sh} {nm : List UInt8} {t k : Nat} (hk : k < S.length) (h : k = rk S nm) : outk S nm t (k + 1) = outk S nm t k ++ [(nm, be8 t)] ++ [S[k]] := by
  unfold outk
  have e : List.take 1 (List.drop k S) = [S[k]] := by rw [List.drop_eq_getElem_cons hk]; rfl
  rw [if_pos (by omega), if_neg (by omega), ← h, show k + 1 - k = 1 by omega, e]
  simp
theorem outk_high {S : List Sh} {nm : List UInt8} {t k : Nat} (hk : k < S.length) (h : rk S nm < k) : outk S nm t (k + 1) = outk S nm t k ++ [S[k]] := by
  unfold outk
  rw [if_pos (by omega), if_pos h, show k + 1 - rk S nm = (k - rk S nm) + 1 by omega]
  have hl : k - rk S nm < (S.drop (rk S nm)).length := by simp; omega
  rw [List.take_succ_eq_append_getElem hl, List.append_assoc, List.cons_append]
  have e : (S.drop (rk S nm))[k - rk S nm] = S[k] := by
    rw [List.getElem_drop]
    congr 1
    omega
  rw [e]
theorem outk_len {S : List Sh} (nm : List UInt8) (t : Nat) {k : Nat} (hk : k ≤ S.length) : (outk S nm t k).length ≤ k + 1 := by
  unfold outk
  split
  · simp; omega
  · simp; omega
theorem outk_end {S : List Sh} {nm : List UInt8} (t : Nat) (h : rk S nm < S.length) : outk S nm t S.length = ins S nm t := by
  unfold outk ins
  rw [if_pos h, (lo_take S nm).1, (lo_take S nm).2, List.take_of_length_le (l := S.drop (rk S nm)) (by simp)]
theorem outk_last {S : List Sh} {nm : List UInt8} (t : Nat) (h : ¬ rk S nm < S.length) : outk S nm t S.length ++ [(nm, be8 t)] = ins S nm t := by
  have hle := rk_le S nm
  have e : rk S nm = S.length := by omega
  unfold outk ins
  rw [if_neg h, (lo_take S nm).1, (lo_take S nm).2, e, List.take_length, List.drop_length]
theorem outk_wf {S : List Sh} (hw : WF S) {nm : List UInt8} (hn : nm.length = 4) (t k : Nat) : WF (outk S nm t k) := by
  intro s hs
  unfold outk at hs
  split at hs
  · rcases List.mem_append.1 hs with h | h
    · exact hw s (List.mem_of_mem_take h)
    · rcases List.mem_cons.1 h with rfl | h
      · exact ⟨hn, be8_length t⟩
      · exact hw s (List.mem_of_mem_drop (List.mem_of_mem_take h))
  · exact hw s (List.mem_of_mem_take hs)
/-- The test against the k-th share. -/
theorem less_at {S : List Sh} (hs : Srt S) {nm : List UInt8} (hw : WF S) (hn : nm.length = 4) (hf : foundAt S nm = false) {k : Nat} (hk : k < S.length) : decide (num nm < num (S[k]).1) = decide (rk S nm ≤ k) := by
  rw [Bool.eq_iff_iff]
  simp only [decide_eq_true_eq]
  rcases find_facts hs nm k hk with ⟨h1, h2⟩ | ⟨h1, h2, _, h4⟩ | ⟨h1, h2, h3⟩
  · constructor <;> intro h <;> omega
  · have hne := h4 hf
    have : num nm ≠ num (S[k]).1 := fun e => hne (num_inj (by rw [(hw _ (List.getElem_mem hk)).1, hn]) e).symm
    constructor <;> intro h <;> omega
  · have : num nm ≠ num (S[k]).1 := fun e => h3 (num_inj (by rw [(hw _ (List.getElem_mem hk)).1, hn]) e).symm
    constructor <;> intro h <;> omega

/-- The eight bytes' own block. -/
def TB (w : World) (g t : Nat) : Prop := w.heap[g]? = some (.cells (b8 t) 60 (0, 0))
theorem TB.cell {w : World} {g t : Nat} (h : TB w g t) : ∀ j u, (Lib.byteCells (be8 t))[j]? = some u → w.cell? ((⟨g, 0, none⟩ : Addr).add j) = some u := by
  intro j u hj
  have e : (⟨g, 0, none⟩ : Addr).add j = ⟨g, j, none⟩ := by
    simp [Addr.add]
    intro h
    exact h.symm
  rw [e]
  unfold World.cell?
  unfold TB at h
  rw [h]
  simpa [b8, Lib.byteCells] using hj
theorem TB.lt {w : World} {g t : Nat} (h : TB w g t) : g < w.heap.size := (Array.getElem?_eq_some_iff.1 h).1
theorem TB.apart {w : World} {g t base n : Nat} {v : Value} {xs : List Value} (h : TB w g t) (hown : w.ownsRow base 5 1 v n xs) : v.ownBlock ≠ some g := by
  rcases hown.2 with ⟨rfl, _⟩ | ⟨g', cap, cur, rfl, _, hg, _⟩
  · simp [Value.ownBlock]
  · intro e
    have : g' = g := by simpa [Value.ownBlock] using e
    subst this
    unfold TB at h
    rw [h] at hg
    simp at hg
theorem TB.grown {w w' : World} {g t base n : Nat} {v : Value} {xs : List Value} (h : TB w g t) (hown : w.ownsRow base 5 1 v n xs) (hg : w.grownBy w' v.ownBlock) : TB w' g t := by
  unfold TB
  rw [hg.block g h.lt (fun e => h.apart hown e.symm)]
  exact h

theorem b8_some (t : Nat) : ∃ x0 x1 x2 x3 x4 x5 x6 x7 : Int, b8 t = #[.int .u8 x0, .int .u8 x1, .int .u8 x2, .int .u8 x3, .int .u8 x4, .int .u8 x5, .int .u8 x6, .int .u8 x7] := ⟨_, _, _, _, _, _, _, _, b8_eq t⟩
theorem own_drew {w : World} {base n k : Nat} {v : Value} {xs : List Value} (h : w.ownsRow base 5 1 v n xs) : (w.drewN k).ownsRow base 5 1 v n xs := by
  unfold World.ownsRow at *
  simpa using h
theorem TB.drewN {w : World} {g t : Nat} (h : TB w g t) (k : Nat) : TB (w.drewN k) g t := by
  unfold TB at *
  simpa using h

set_option maxHeartbeats 4000000 in
set_option maxRecDepth 20000 in
theorem insert_row (h nm : ByteArray) (S : List Sh) (t : Nat) (w : World) (hr : IsRow h S) (hS : S ≠ []) (hn : nm.size = 4) (ht : t < 18446744073709551616) (hf : foundAt S nm.data.toList = false) :
    Calls Try.prog 19 #[.string h, .string nm, .int .u64 t] w fun e w' => e = .returned (.string (⟨(enc (ins S nm.data.toList t)).toArray⟩)) ∧ Below w.heap.size w w' := by
  have hsz := hr.size
  have hsm := hr.small
  have hpos : 0 < S.length := List.length_pos_iff.2 hS
  obtain ⟨m, hm⟩ : ∃ m, m = S.length := ⟨_, rfl⟩
  have HM := hide hm
  rw [← hm] at hpos hsz
  clear hm
  have HSZ := hide hsz
  have hle : 12 * m ≤ h.size := by omega
  have hle2 : h.size ≤ 12 * m := by omega
  have hd : decide ((4 : Int) < (h.size : Int)) = true := by simp; omega
  have HR := hide hr
  have HNS := hide hn
  have hn4 : Hid (nm.data.toList.length = 4) := hide (by rw [Array.length_toList]; exact hn)
  have HLT := hide (fun k (hk : k < S.length) => less_at hr.srt hr.wf hn4.out hf hk)
  obtain ⟨i0, hi, hz0, hz1, hz2⟩ := info_parts infoByte
  obtain ⟨x0, x1, x2, x3, x4, x5, x6, x7, hb8⟩ := b8_some t
  have HB8 := hide hb8
  have H33 := hide (fun w => tokenBytes_any t w ht)
  rw [hb8] at H33
  have hnews : ∀ u ∈ Lib.byteCells (be8 t), u.oneCell' = true := fun u hu => by
    obtain ⟨b, _, rfl⟩ := List.mem_map.1 hu
    rfl
  have HNW := hide hnews
  clear hr hS hsz hb8 hf hnews
  go_enter Try.func19, Try.ntmps19
  go_wp2_with (at_make; refine wpList_make_own _ rfl _ _ 59 rfl w.heap.size 5 i0 (.int .u8 0) 1 Try.underlying59 hi hz0 hz1 .i64 .i64 _ (h.size + 12) rfl rfl (by omega) (by rw [hz2]; omega) (by unfold maxLen; omega) (Nat.le_refl _) ?_; intro w1 hown1 hgrow1)
  have hb1 : Below w.heap.size w w1 := (Below.refl _ _).grown hgrow1 (Nat.le_refl _) (fun k hk => by cases hk)
  have hlt1 := (hown1.lt _ rfl).2
  clear hgrow1
  refine (unhide H33 _).mono ?_
  rintro e w2 ⟨rfl, hb2⟩
  have hown2 := hown1.kept (grown_of_below hb2) (.inr (by simp [Value.ownBlock]))
  have hb12 := hb1.trans (hb2.mono hb1.size)
  clear hown1
  go_wp2
  have hTA : TB (w2.alloc (.cells #[.int .u8 x0, .int .u8 x1, .int .u8 x2, .int .u8 x3, .int .u8 x4, .int .u8 x5, .int .u8 x6, .int .u8 x7] 60)) w2.heap.size t := by
    unfold TB
    rw [HB8.out]
    exact heap_alloc_new _ _
  have hownA := hown2.alloc (.cells #[.int .u8 x0, .int .u8 x1, .int .u8 x2, .int .u8 x3, .int .u8 x4, .int .u8 x5, .int .u8 x6, .int .u8 x7] 60)
  have hbA := hb12.alloc hb12.size (.cells #[.int .u8 x0, .int .u8 x1, .int .u8 x2, .int .u8 x3, .int .u8 x4, .int .u8 x5, .int .u8 x6, .int .u8 x7] 60)
  clear hn hown2 H33 HB8 hlt1 hb1 hb2
  go_loopw [7, 9, 10] (fun s7 s9 s10 wr => ∃ k : Nat, k ≤ m ∧ s10 = .int .i64 ((k : Int) * 12) ∧ s9 = .bool (decide (rk S nm.data.toList < k)) ∧ s7 ≠ .slice none 0 0 ∧ wr.ownsRow w.heap.size 5 1 s7 (12 * (outk S nm.data.toList t k).length) (Lib.byteCells (enc (outk S nm.data.toList t k))) ∧ TB wr w2.heap.size t ∧ Below w.heap.size w wr) (fun _ _ s10 _ => 12 * m - (intOf s10).toNat)
  case atStart => exact ⟨0, Nat.zero_le _, rfl, by simp, by simp, by rw [outk_zero]; exact hownA, hTA, hbA⟩
  case round =>
    obtain ⟨k, hk, rfl, rfl, hne, hown, hT, hnx⟩ := hrel
    have hll := outk_len (S := S) nm.data.toList t (k := k) (by rw [← HM.out]; exact hk)
    have hwz : w.heap.size ≤ wr.heap.size := hnx.size
    by_cases hlt : k < m
    · have hkl : k < S.length := by rw [← HM.out]; exact hlt
      have hnm := HR.out.name hkl
      have hk12 : k * 12 + 12 ≤ h.size := by omega
      have hi1 : (k : Int) * 12 + 4 ≤ (h.size : Int) := by omega
      have hi2 : (k : Int) * 12 + 12 ≤ (h.size : Int) := by omega
      have HE : Hid ((h.extract (k * 12) (k * 12 + 12)).data.toList = encS (S[k])) := hide (by
        rw [ext_toList, HR.out.eq, show k * 12 + 12 - k * 12 = 12 by omega, Nat.mul_comm k 12]
        exact (enc_name HR.out.wf k hkl).2.2)
      have hxs : (h.extract (k * 12) (k * 12 + 12)).size = 12 := by
        show (h.extract (k * 12) (k * 12 + 12)).data.size = 12
        rw [← Array.length_toList, HE.out, encS_length (HR.out.wf _ (List.getElem_mem hkl))]
      have HLS : Hid (∀ w, Calls Try.prog 15 #[.string nm, .string (h.extract (k * 12) (k * 12 + 4))] w fun e w' => e = .returned (.bool (decide (rk S nm.data.toList ≤ k))) ∧ Dr w w') := hide (fun w => by
        have := less_any nm (h.extract (k * 12) (k * 12 + 4)) w HNS.out hnm.2
        rw [hnm.1, HLT.out k hkl] at this
        exact this)
      clear hnm
      rcases Nat.lt_trichotomy k (rk S nm.data.toList) with hc | hc | hc
      · have d1 : decide (rk S nm.data.toList < k) = false := by simp; omega
        have d2 : decide (rk S nm.data.toList ≤ k) = false := by simp; omega
        have HDN : Hid (decide (rk S nm.data.toList < k + 1) = false) := hide (by simp; omega)
        have HO := hide (outk_low (t := t) hkl hc)
        rw [d2] at HLS
        rw [d1]
        clear d1 d2 hc
        go_wp2_with fail
        refine (unhide HLS _).mono ?_
        rintro e w9 ⟨rfl, nn, rfl⟩
        have hownd := own_drew (k := nn) hown
        have hTd := hT.drewN nn
        have hbd : Below w.heap.size w (wr.drewN nn) := below_drewN hnx nn
        have hwd : w.heap.size ≤ (wr.drewN nn).heap.size := hbd.size
        go_wp2_with (at_builtin; refine Lib.wpList_append_own_string _ rfl _ _ 59 9 rfl w.heap.size 5 i0 Try.underlying59 Try.underlying9 hi hz0 hz1 hz2 _ _ _ rfl hownd (h.extract (k * 12) (k * 12 + 12)) rfl (by unfold maxLen; omega) (by omega) (by omega) ?_; intro v5 w5 hown5 hgrow5 hiff5)
        have hb5 : Below w.heap.size w w5 := hbd.grown hgrow5 hbd.size (fun j hj => (hownd.lt j hj).1)
        have hT5 := hTd.grown hownd hgrow5
        go_roundw
        case rel =>
          refine ⟨k + 1, by omega, by go_num, ?_, fun he => hne (hiff5.1 he).1, ?_, hT5, hb5⟩
          · rw [HDN.out]
          · rw [HO.out, List.length_append, enc_append, Lib.byteCells_append]
            rw [hxs, Lib.strCells_eq, HE.out] at hown5
            have e1 : enc [S[k]] = encS (S[k]) := by simp [enc]
            rw [e1]
            exact hown5
        case measure => simp [intOf]; omega
      · have d1 : decide (rk S nm.data.toList < k) = false := by simp; omega
        have d2 : decide (rk S nm.data.toList ≤ k) = true := by simp; omega
        have HDN : Hid (decide (rk S nm.data.toList < k + 1) = true) := hide (by simp; omega)
        have HO := hide (outk_at (t := t) hkl hc)
        rw [d2] at HLS
        rw [d1]
        clear d1 d2 hc
        have hn44 : nm.size ≤ 4 := by have := HNS.out; omega
        go_wp2_with fail
        refine (unhide HLS _).mono ?_
        rintro e w9 ⟨rfl, nn, rfl⟩
        have hownd := own_drew (k := nn) hown
        have hTd := hT.drewN nn
        have hbd : Below w.heap.size w (wr.drewN nn) := below_drewN hnx nn
        have hwd : w.heap.size ≤ (wr.drewN nn).heap.size := hbd.size
        go_upto_region 10 with (at_builtin; refine Lib.wpList_append_own_string _ rfl _ _ 59 9 rfl w.heap.size 5 i0 Try.underlying59 Try.underlying9 hi hz0 hz1 hz2 _ _ _ rfl hownd nm rfl (by unfold maxLen; omega) (by omega) (by omega) ?_; intro v3 w3 hown3 hgrow3 hiff3)
        have hb3 : Below w.heap.size w w3 := hbd.grown hgrow3 hbd.size (fun j hj => (hownd.lt j hj).1)
        have hT3 := hTd.grown hownd hgrow3
        have hw3 : w.heap.size ≤ w3.heap.size := hb3.size
        go_upto_region 12 with (at_builtin; refine wpList_append_own _ rfl _ _ 59 rfl w.heap.size 5 i0 (.int .u8 0) 1 1 Try.underlying59 hi hz0 hz1 hz2 rfl (by decide) _ _ _ rfl hown3 ⟨w2.heap.size, 0, none⟩ 8 8 (Lib.byteCells (be8 t)) rfl rfl hT3.cell HNW.out (by unfold maxLen; omega) (by omega) (by omega) ?_; intro v4 w4 hown4 hgrow4 hiff4)
        have hb4 : Below w.heap.size w w4 := hb3.grown hgrow4 hb3.size (fun j hj => (hown3.lt j hj).1)
        have hT4 := hT3.grown hown3 hgrow4
        have hw4 : w.heap.size ≤ w4.heap.size := hb4.size
        go_wp2_with (at_builtin; refine Lib.wpList_append_own_string _ rfl _ _ 59 9 rfl w.heap.size 5 i0 Try.underlying59 Try.underlying9 hi hz0 hz1 hz2 _ _ _ rfl hown4 (h.extract (k * 12) (k * 12 + 12)) rfl (by unfold maxLen; omega) (by omega) (by omega) ?_; intro v5 w5 hown5 hgrow5 hiff5)
        have hb5 : Below w.heap.size w w5 := hb4.grown hgrow5 hb4.size (fun j hj => (hown4.lt j hj).1)
        have hT5 := hT4.grown hown4 hgrow5
        go_roundw
        case rel =>
          refine ⟨k + 1, by omega, by go_num, ?_, fun he => hne (hiff3.1 (hiff4.1 (hiff5.1 he).1).1).1, ?_, hT5, hb5⟩
          · rw [HDN.out]
          · rw [HO.out, List.length_append, List.length_append, enc_append, enc_append, Lib.byteCells_append, Lib.byteCells_append]
            rw [hxs, Lib.strCells_eq, Lib.strCells_eq, HE.out, HNS.out] at hown5
            have e1 : enc [S[k]] = encS (S[k]) := by simp [enc]
            have e2 : enc [(nm.data.toList, be8 t)] = nm.data.toList ++ be8 t := by simp [enc, encS]
            rw [e1, e2, Lib.byteCells_append, ← List.append_assoc]
            exact hown5
        case measure => simp [intOf]; omega
      · have d1 : decide (rk S nm.data.toList < k) = true := by simp; omega
        have HDN : Hid (decide (rk S nm.data.toList < k + 1) = true) := hide (by simp; omega)
        have HO := hide (outk_high (t := t) hkl hc)
        rw [d1]
        clear d1 hc HLS
        have hownd := hown
        have hTd := hT
        have hbd := hnx
        have hwd := hbd.size
        go_wp2_with (at_builtin; refine Lib.wpList_append_own_string _ rfl _ _ 59 9 rfl w.heap.size 5 i0 Try.underlying59 Try.underlying9 hi hz0 hz1 hz2 _ _ _ rfl hownd (h.extract (k * 12) (k * 12 + 12)) rfl (by unfold maxLen; omega) (by omega) (by omega) ?_; intro v5 w5 hown5 hgrow5 hiff5)
        have hb5 : Below w.heap.size w w5 := hbd.grown hgrow5 hbd.size (fun j hj => (hownd.lt j hj).1)
        have hT5 := hTd.grown hownd hgrow5
        go_roundw
        case rel =>
          refine ⟨k + 1, by omega, by go_num, ?_, fun he => hne (hiff5.1 he).1, ?_, hT5, hb5⟩
          · rw [HDN.out]
          · rw [HO.out, List.length_append, enc_append, Lib.byteCells_append]
            rw [hxs, Lib.strCells_eq, HE.out] at hown5
            have e1 : enc [S[k]] = encS (S[k]) := by simp [enc]
            rw [e1]
            exact hown5
        case measure => simp [intOf]; omega
    · obtain rfl : k = m := by omega
      have hn44 : nm.size ≤ 4 := by have := HNS.out; omega
      have HWF := hide (outk_wf HR.out.wf hn4.out t k)
      by_cases hc : rk S nm.data.toList < k
      · have d1 : decide (rk S nm.data.toList < k) = true := by simp; omega
        have HEN : Hid (outk S nm.data.toList t k = ins S nm.data.toList t) := hide (by rw [HM.out]; exact outk_end t (by rw [← HM.out]; exact hc))
        rw [HEN.out] at hown HWF
        obtain ⟨g, cap, hv, hrun⟩ := own_str hown hne (by rw [enc_length HWF.out])
        rw [hv, d1]
        clear d1 hc
        go_wp2
        go_ret
        exact ⟨rfl, hnx⟩
      · have d1 : decide (rk S nm.data.toList < k) = false := by simp; omega
        have HEN : Hid (outk S nm.data.toList t k ++ [(nm.data.toList, be8 t)] = ins S nm.data.toList t) := hide (by rw [HM.out]; exact outk_last t (by rw [← HM.out]; exact hc))
        rw [d1]
        clear d1 hc
        go_upto_region 15 with (at_builtin; refine Lib.wpList_append_own_string _ rfl _ _ 59 9 rfl w.heap.size 5 i0 Try.underlying59 Try.underlying9 hi hz0 hz1 hz2 _ _ _ rfl hown nm rfl (by unfold maxLen; omega) (by omega) (by omega) ?_; intro v3 w3 hown3 hgrow3 hiff3)
        have hb3 : Below w.heap.size w w3 := hnx.grown hgrow3 hnx.size (fun j hj => (hown.lt j hj).1)
        have hT3 := hT.grown hown hgrow3
        have hw3 : w.heap.size ≤ w3.heap.size := hb3.size
        go_upto_region 16 with (at_builtin; refine wpList_append_own _ rfl _ _ 59 rfl w.heap.size 5 i0 (.int .u8 0) 1 1 Try.underlying59 hi hz0 hz1 hz2 rfl (by decide) _ _ _ rfl hown3 ⟨w2.heap.size, 0, none⟩ 8 8 (Lib.byteCells (be8 t)) rfl rfl hT3.cell HNW.out (by unfold maxLen; omega) (by omega) (by omega) ?_; intro v4 w4 hown4 hgrow4 hiff4)
        have hb4 : Below w.heap.size w w4 := hb3.grown hgrow4 hb3.size (fun j hj => (hown3.lt j hj).1)
        have hx4 : w4.ownsRow w.heap.size 5 1 v4 (12 * (outk S nm.data.toList t k).length + nm.size + 8) (Lib.byteCells (enc (ins S nm.data.toList t))) := by
          have e2 : enc [(nm.data.toList, be8 t)] = nm.data.toList ++ be8 t := by simp [enc, encS]
          rw [← HEN.out, enc_append, e2, Lib.byteCells_append, Lib.byteCells_append, ← List.append_assoc]
          rw [Lib.strCells_eq] at hown4
          exact hown4
        have hlen : 12 * (outk S nm.data.toList t k).length + nm.size + 8 = (enc (ins S nm.data.toList t)).length := by
          rw [← HEN.out, enc_append, List.length_append, enc_length HWF.out, HNS.out]
          simp [enc, encS, be8_length, hn4.out]
        obtain ⟨g, cap, hv, hrun⟩ := own_str hx4 (fun he => hne (hiff3.1 (hiff4.1 he).1).1) hlen
        rw [hv]
        clear hlen hx4 hown4 hown3 hiff3 hiff4 hv hown hgrow3 hgrow4 hT3
        generalize 12 * (outk S nm.data.toList t k).length + nm.size + 8 = N at hrun
        go_wp2
        go_ret
        exact ⟨rfl, hb4⟩

end Go.Proofs.Qxb6600199a
