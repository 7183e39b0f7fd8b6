/-
  zzTokenBytes (33), zzRemove (26), zzInsert (19).
-/
import Derived.Test.Qxb6600199aShP
import Derived.WalkLawsBesides
namespace Go.Proofs.Qxb6600199a
open Go.RowKit

/-- A token's eight bytes, as cells. -/
def b8 (t : Nat) : Array Value := ((be8 t).map (fun b => Value.int .u8 (b.toNat : Int))).toArray

theorem b8_eq (t : Nat) : b8 t = #[.int .u8 ((t : Int) / 256 / 256 / 256 / 256 / 256 / 256 / 256 % 256), .int .u8 ((t : Int) / 256 / 256 / 256 / 256 / 256 / 256 % 256), .int .u8 ((t : Int) / 256 / 256 / 256 / 256 / 256 % 256), .int .u8 ((t : Int) / 256 / 256 / 256 / 256 % 256),
    .int .u8 ((t : Int) / 256 / 256 / 256 % 256), .int .u8 ((t : Int) / 256 / 256 % 256), .int .u8 ((t : Int) / 256 % 256), .int .u8 ((t : Int) % 256)] := by
  have e : ∀ n : Nat, ((UInt8.ofNat n).toNat : Int) = (n : Int) % 256 := fun n => by rw [UInt8.toNat_ofNat']; omega
  unfold b8 be8
  simp only [List.map_cons, List.map_nil, e]
  have e1 : ((t / 256 ^ 7 : Nat) : Int) = (t : Int) / 256 / 256 / 256 / 256 / 256 / 256 / 256 := by omega
  have e2 : ((t / 256 ^ 6 : Nat) : Int) = (t : Int) / 256 / 256 / 256 / 256 / 256 / 256 := by omega
  have e3 : ((t / 256 ^ 5 : Nat) : Int) = (t : Int) / 256 / 256 / 256 / 256 / 256 := by omega
  have e4 : ((t / 256 ^ 4 : Nat) : Int) = (t : Int) / 256 / 256 / 256 / 256 := by omega
  have e5 : ((t / 256 ^ 3 : Nat) : Int) = (t : Int) / 256 / 256 / 256 := by omega
  have e6 : ((t / 256 ^ 2 : Nat) : Int) = (t : Int) / 256 / 256 := by omega
  have e7 : ((t / 256 : Nat) : Int) = (t : Int) / 256 := by omega
  rw [e1, e2, e3, e4, e5, e6, e7]

set_option maxHeartbeats 4000000 in
theorem tokenBytes_any (t : Nat) (w : World) (ht : t < 18446744073709551616) :
    Calls Try.prog 33 #[.int .u64 t] w fun e w' => e = .returned (.agg (b8 t)) ∧ Below w.heap.size w w' := by
  rw [b8_eq t]
  go_enter Try.func33, Try.ntmps33
  go_wp2
  refine wp_loop_rounds 9 ?_
  rw [rounds_succ]
  go_wp2
  rw [rounds_succ]
  go_wp2
  rw [rounds_succ]
  go_wp2
  rw [rounds_succ]
  go_wp2
  rw [rounds_succ]
  go_wp2
  rw [rounds_succ]
  go_wp2
  rw [rounds_succ]
  go_wp2
  rw [rounds_succ]
  go_wp2
  rw [rounds_succ]
  go_wp2
  exact bodyPost_ret (v := .agg #[.int .u8 ((t : Int) / 256 / 256 / 256 / 256 / 256 / 256 / 256 % 256), .int .u8 ((t : Int) / 256 / 256 / 256 / 256 / 256 / 256 % 256), .int .u8 ((t : Int) / 256 / 256 / 256 / 256 / 256 % 256), .int .u8 ((t : Int) / 256 / 256 / 256 / 256 % 256),
    .int .u8 ((t : Int) / 256 / 256 / 256 % 256), .int .u8 ((t : Int) / 256 / 256 % 256), .int .u8 ((t : Int) / 256 % 256), .int .u8 ((t : Int) % 256)]) (by simp [results, Try.results33, go_sem]) rfl ⟨rfl, ((Below.refl _ _).alloc (Nat.le_refl _) _).alloc (by simp) _⟩

theorem own_str {w : World} {base n : Nat} {v : Value} {l : List UInt8} (hown : w.ownsRow base 5 1 v n (Lib.byteCells l)) (hne : v ≠ .slice none 0 0) (hn : n = l.length) :
    ∃ g cap, v = .slice (some ⟨g, 0, none⟩) n cap ∧ (convert 59 9 (.slice (some ⟨g, 0, none⟩) n cap)).run Try.prog w = .ok (.string ⟨l.toArray⟩) w := by
  rcases hown.2 with ⟨hv, _⟩ | ⟨g, cap, cur, hv, _⟩
  · exact absurd hv hne
  · refine ⟨g, cap, hv, ?_⟩
    subst hv
    subst hn
    refine run_convert_bytes_back (P := Try.prog) w 59 9 5 ⟨g, 0, none⟩ cap l Try.underlying59 Try.underlying5 Try.underlying9 (fun j hj => ?_)
    have h := hown.cellAt j (by omega)
    have e : (⟨g, 0, none⟩ : Addr).add j = ⟨g, j, none⟩ := by
      simp [Addr.add]
      intro h
      exact h.symm
    rw [e, h]
    simp [Lib.byteCells, hj]

/-- The shares of another name. -/
def oth (S : List Sh) (nm : List UInt8) : List Sh := S.filter (fun s => !(s.1 == nm))
theorem oth_succ_eq {S : List Sh} {nm : List UInt8} {k : Nat} (hk : k < S.length) (h : (S[k]).1 = nm) : oth (S.take (k + 1)) nm = oth (S.take k) nm := by
  unfold oth
  rw [List.take_succ_eq_append_getElem hk, List.filter_append]
  simp [h]
theorem oth_succ_ne {S : List Sh} {nm : List UInt8} {k : Nat} (hk : k < S.length) (h : (S[k]).1 ≠ nm) : oth (S.take (k + 1)) nm = oth (S.take k) nm ++ [S[k]] := by
  unfold oth
  rw [List.take_succ_eq_append_getElem hk, List.filter_append]
  simp [h]
theorem oth_rem {S : List Sh} {nm : List UInt8} (hs : Srt S) (hf : foundAt S nm = true) : oth S nm = rem S nm := by
  have e := lo_hi S (num nm)
  have hlo := lo_below (S := S) (n := num nm)
  have hs' : Srt (lo S (num nm) ++ hi S (num nm)) := by rw [e]; exact hs
  obtain ⟨_, p2, _⟩ := List.pairwise_append.1 hs'
  unfold rem
  unfold foundAt at hf
  conv => lhs; rw [← e]
  cases hh : hi S (num nm) with
  | nil => rw [hh] at hf; cases hf
  | cons s r =>
    rw [hh] at hf p2
    have hsn : s.1 = nm := by simpa using hf
    unfold oth
    rw [List.filter_append, List.tail_cons, List.filter_cons_of_neg (by simp [hsn])]
    congr 1
    · refine List.filter_eq_self.2 fun x hx => ?_
      have := hlo x hx
      simp only [Bool.not_eq_true', beq_eq_false_iff_ne, ne_eq]
      rintro rfl
      omega
    · refine List.filter_eq_self.2 fun x hx => ?_
      have := (List.pairwise_cons.1 p2).1 x hx
      simp only [Bool.not_eq_true', beq_eq_false_iff_ne, ne_eq]
      rintro rfl
      rw [hsn] at this
      omega
theorem oth_length (S : List Sh) (nm : List UInt8) (k : Nat) : (oth (S.take k) nm).length ≤ k := by
  refine Nat.le_trans (List.length_filter_le _ _) ?_
  simp
  omega
theorem oth_wf {S : List Sh} (h : WF S) (nm : List UInt8) (k : Nat) : WF (oth (S.take k) nm) := fun s hs => h s (List.mem_of_mem_take (List.mem_filter.1 hs).1)

set_option maxHeartbeats 2000000 in
theorem remove_row (h nm : ByteArray) (S : List Sh) (w : World) (hr : IsRow h S) (hS : S ≠ []) :
    Calls Try.prog 26 #[.string h, .string nm] w fun e w' => e = .returned (.string ⟨(enc (oth S nm.data.toList)).toArray⟩) ∧ Below w.heap.size w w' := by
  have hsz := hr.size
  have hsm := hr.small
  have hpos : 0 < S.length := List.length_pos_iff.2 hS
  obtain ⟨m, hm⟩ : ∃ m, m = S.length := ⟨_, rfl⟩
  have HM := hide hm
  rw [← hm] at hpos hsz
  clear hm
  have HSZ := hide hsz
  have hle : 12 * m ≤ h.size := by omega
  have hle2 : h.size ≤ 12 * m := by omega
  have hd : decide ((h.size : Int) ≤ 4) = false := by simp; omega
  have HR := hide hr
  obtain ⟨i0, hi, hz0, hz1, hz2⟩ := info_parts infoByte
  clear hr hS hsz
  go_enter Try.func26, Try.ntmps26
  go_wp2_with (at_make; refine wpList_make_own _ rfl _ _ 59 rfl w.heap.size 5 i0 (.int .u8 0) 1 Try.underlying59 hi hz0 hz1 .i64 .i64 _ h.size rfl rfl rfl (by rw [hz2]; omega) (by unfold maxLen; omega) (Nat.le_refl _) ?_; intro w1 hown1 hgrow1)
  have hb1 : Below w.heap.size w w1 := (Below.refl _ _).grown hgrow1 (Nat.le_refl _) (fun k hk => by cases hk)
  clear hgrow1
  go_loopw [5, 6] (fun s5 s6 wr => ∃ k : Nat, k ≤ m ∧ s6 = .int .i64 ((k : Int) * 12) ∧ s5 ≠ .slice none 0 0 ∧ wr.ownsRow w.heap.size 5 1 s5 (12 * (oth (S.take k) nm.data.toList).length) (Lib.byteCells (enc (oth (S.take k) nm.data.toList))) ∧ Below w.heap.size w wr) (fun _ s6 _ => 12 * m - (intOf s6).toNat)
  case atStart => exact ⟨0, Nat.zero_le _, rfl, by simp, hown1, hb1⟩
  case round =>
    obtain ⟨k, hk, rfl, hne, hown, hnx⟩ := hrel
    by_cases hlt : k < m
    · have hkl : k < S.length := by rw [← HM.out]; exact hlt
      have hnm := HR.out.name hkl
      have hk12 : k * 12 + 12 ≤ h.size := by omega
      have hi1 : (k : Int) * 12 + 4 ≤ (h.size : Int) := by omega
      have hi2 : (k : Int) * 12 + 12 ≤ (h.size : Int) := by omega
      have HQ : Hid (((h.extract (k * 12) (k * 12 + 4)).toList == nm.toList) = decide ((S[k]).1 = nm.data.toList)) := hide (by
        rw [ByteArray.toList_eq, ByteArray.toList_eq, hnm.1, Bool.eq_iff_iff]
        simp)
      have HE : Hid ((h.extract (k * 12) (k * 12 + 12)).data.toList = encS (S[k])) := hide (by
        rw [ext_toList, HR.out.eq, show k * 12 + 12 - k * 12 = 12 by omega, Nat.mul_comm k 12]
        exact (enc_name HR.out.wf k hkl).2.2)
      have HL := hide (oth_length S nm.data.toList k)
      have HWF := hide (oth_wf HR.out.wf nm.data.toList k)
      by_cases hqn : (S[k]).1 = nm.data.toList
      · have hq : ((h.extract (k * 12) (k * 12 + 4)).toList == nm.toList) = true := by rw [HQ.out]; simpa using hqn
        have HO := hide (oth_succ_eq hkl hqn)
        clear HQ hnm hqn
        go_wp2
        go_roundw
        case rel => exact ⟨k + 1, by omega, by go_num, hne, by rw [HO.out]; exact hown, hnx⟩
        case measure => simp [intOf]; omega
      · have hq : ((h.extract (k * 12) (k * 12 + 4)).toList == nm.toList) = false := by rw [HQ.out]; simpa using hqn
        have HO := hide (oth_succ_ne hkl hqn)
        clear HQ hnm hqn
        have hxs : (h.extract (k * 12) (k * 12 + 12)).size = 12 := by
          show (h.extract (k * 12) (k * 12 + 12)).data.size = 12
          rw [← Array.length_toList, HE.out, encS_length (HR.out.wf _ (List.getElem_mem hkl))]
        have hll := HL.out
        go_wp2_with (at_builtin; refine Lib.wpList_append_own_string _ rfl _ _ 59 9 rfl w.heap.size 5 i0 Try.underlying59 Try.underlying9 hi hz0 hz1 hz2 _ _ _ rfl hown (h.extract (k * 12) (k * 12 + 12)) rfl (by unfold maxLen; omega) (by omega) (by have := hnx.size; omega) ?_; intro v' w2 hown2 hgrow2 hiff2)
        have hb2 : Below w.heap.size w w2 := hnx.grown hgrow2 hnx.size (fun j hj => (hown.lt j hj).1)
        go_roundw
        case rel =>
          refine ⟨k + 1, by omega, by go_num, fun he => hne (hiff2.1 he).1, ?_, hb2⟩
          rw [HO.out, List.length_append, enc_append, Lib.byteCells_append]
          rw [hxs, Lib.strCells_eq, HE.out] at hown2
          have e1 : enc [S[k]] = encS (S[k]) := by simp [enc]
          rw [e1]
          exact hown2
        case measure => simp [intOf]; omega
    · obtain rfl : k = m := by omega
      have hf : oth (S.take k) nm.data.toList = oth S nm.data.toList := by rw [HM.out, List.take_length]
      rw [hf] at hown
      have HW : WF (oth S nm.data.toList) := by rw [← hf]; exact oth_wf HR.out.wf _ _
      obtain ⟨g, cap, hv, hrun⟩ := own_str hown hne (by rw [enc_length HW])
      rw [hv]
      clear hf
      go_wp2
      go_ret
      exact ⟨rfl, hnx⟩

end Go.Proofs.Qxb6600199a
