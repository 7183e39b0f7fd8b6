/-
  state.shareAt (30).
-/
import Derived.Test.Qxb6600199aShB
import Derived.Test.Qxb6600199aShC
namespace Go.Proofs.Qxb6600199a
open Go.RowKit

theorem ext_toList (h : ByteArray) (a b : Nat) : (h.extract a b).data.toList = (h.data.toList.drop a).take (b - a) := by
  rw [ByteArray.data_extract, Array.toList_extract]

/-- This string is this row of shares. -/
structure IsRow (h : ByteArray) (S : List Sh) : Prop where
  eq : h.data.toList = enc S
  wf : WF S
  srt : Srt S
  small : h.size ≤ 2097152

theorem IsRow.size {h : ByteArray} {S : List Sh} (r : IsRow h S) : h.size = 12 * S.length := by
  have := congrArg List.length r.eq
  rw [enc_length r.wf] at this
  simpa using this

/-- The name of the i-th share, cut out of the row. -/
theorem IsRow.name {h : ByteArray} {S : List Sh} (r : IsRow h S) {i : Nat} (hi : i < S.length) : (h.extract (i * 12) (i * 12 + 4)).data.toList = (S[i]).1 ∧ (h.extract (i * 12) (i * 12 + 4)).size = 4 := by
  have e : (h.extract (i * 12) (i * 12 + 4)).data.toList = (S[i]).1 := by
    rw [ext_toList, r.eq, Nat.mul_comm i 12, show 12 * i + 4 - 12 * i = 4 by omega]
    exact (enc_name r.wf i hi).1
  refine ⟨e, ?_⟩
  show (h.extract (i * 12) (i * 12 + 4)).data.size = 4
  rw [← Array.length_toList, e, (r.wf (S[i]) (List.getElem_mem hi)).1]
theorem ret_ib {a b : Int} {c d : Bool} (h : a = b) (k : c = d) : Ending.returned (.tuple #[.int .i64 a, .bool c]) = .returned (.tuple #[.int .i64 b, .bool d]) := by rw [h, k]
theorem foundAt_eq {S : List Sh} {nm : List UInt8} {r : Nat} (h1 : ∀ s ∈ S.take r, num s.1 < num nm) (h2 : ∀ s ∈ S.drop r, num nm ≤ num s.1) : (r ≤ S.length → rk S nm = r) ∧ (S.length ≤ r → foundAt S nm = false) ∧ ∀ hr : r < S.length, foundAt S nm = decide ((S[r]).1 = nm) := by
  obtain ⟨e1, e2⟩ := rank_of h1 h2
  refine ⟨fun hr => ?_, fun hr => ?_, fun hr => ?_⟩
  · unfold rk; rw [e1]; simp; omega
  · unfold foundAt; rw [e2, List.drop_of_length_le hr]
  · unfold foundAt; rw [e2, List.drop_eq_getElem_cons hr]

set_option maxHeartbeats 400000 in
theorem shareAt_none (h : ByteArray) (l rf : Int) (g : Bool) (nm : ByteArray) (w : World) (hh : h.size ≤ 4) :
    Calls Try.prog 30 #[.agg #[.string h, .int .u64 l, .int .u32 rf, .bool g], .string nm] w fun e w' => e = .returned (.tuple #[.int .i64 0, .bool false]) ∧ Below w.heap.size w w' := by
  have hd : decide ((4 : Int) < (h.size : Int)) = false := by simp; omega
  go_enter Try.func30, Try.ntmps30
  go_wp2
  go_ret2
  exact ⟨rfl, ((Below.refl _ _).alloc (Nat.le_refl _) _).alloc (by simp) _⟩

set_option maxHeartbeats 1000000 in
theorem shareAt_any (h : ByteArray) (l rf : Int) (g : Bool) (nm : ByteArray) (S : List Sh) (w : World) (hr : IsRow h S) (hS : S ≠ []) (hn : nm.size = 4) :
    Calls Try.prog 30 #[.agg #[.string h, .int .u64 l, .int .u32 rf, .bool g], .string nm] w fun e w' =>
      e = .returned (.tuple #[.int .i64 ((12 * rk S nm.data.toList : Nat) : Int), .bool (foundAt S nm.data.toList)]) ∧ Below w.heap.size w w' := by
  have hsz := hr.size
  have hsm := hr.small
  have hpos : 0 < S.length := List.length_pos_iff.2 hS
  obtain ⟨m, hm⟩ : ∃ m, m = S.length := ⟨_, rfl⟩
  have HM := hide hm
  rw [← hm] at hpos hsz
  clear hm
  have HSZ := hide hsz
  have hs1 : 4 < h.size := by omega
  have hd : decide ((4 : Int) < (h.size : Int)) = true := by simp; omega
  have HN := hide hn
  clear hsz hn
  go_enter Try.func30, Try.ntmps30
  go_wp2_with (first | (go_at_call 38; refine (sessionNumber_any nm _ HN.out).mono ?_; rintro e w1 ⟨rfl, hdr⟩) | go_in)
  have hB1 : Below w.heap.size w w1 := (((Below.refl _ _).alloc (Nat.le_refl _) _).alloc (by simp) _).trans (hdr.below _)
  have hc1 : w1.cell? ⟨w.heap.size, 0, none⟩ = some (.string h) := by rw [hdr.cell]; simp
  have hz1 : w.heap.size < w1.heap.size := by have := (hdr.below 0).size; simp at this; omega
  clear hdr
  go_quiet (fail)
  have hB1 : Below w.heap.size w (w1.drewN nq) := below_drewN hB1 _
  have hc1 : (w1.drewN nq).cell? ⟨w.heap.size, 0, none⟩ = some (.string h) := hc1
  have hz1 : w.heap.size < (w1.drewN nq).heap.size := hz1
  generalize w1.drewN nq = w2 at hB1 hc1 hz1 ⊢
  go_wp2
  go_loopw [7, 8] (fun a b wr => ∃ i j : Nat, i ≤ j ∧ j ≤ m ∧ a = .int .i64 i ∧ b = .int .i64 j ∧ Hid (∀ s ∈ S.take i, num s.1 < num nm.data.toList) ∧ Hid (∀ s ∈ S.drop j, num nm.data.toList ≤ num s.1) ∧ Below w2.heap.size w2 wr) (fun a b _ => (intOf b).toNat - (intOf a).toNat)
  case atStart =>
    refine ⟨0, m, Nat.zero_le _, Nat.le_refl _, rfl, ?_, fun s hs => by simp at hs, fun s hs => ?_, Below.refl _ _⟩
    · have := HSZ.out; go_num
    · rw [HM.out, List.drop_length] at hs; cases hs
  case round =>
    obtain ⟨i, j, hij, hjm, rfl, rfl, H1, H2, hnx⟩ := hrel
    by_cases hlt : i < j
    · have hcx := (hnx.cell (p := ⟨w.heap.size, 0, none⟩) hz1).trans hc1
      have hzx : w.heap.size < wr.heap.size := Nat.lt_of_lt_of_le hz1 hnx.size
      have hle : 12 * m ≤ h.size := by have := HSZ.out; omega
      have hmid : (i + j) / 2 < S.length := by rw [← HM.out]; omega
      obtain ⟨hnm, hnz⟩ := hr.name hmid
      have HC : Hid (∀ w, Calls Try.prog 38 #[.string (h.extract ((i + j) / 2 * 12) ((i + j) / 2 * 12 + 4))] w fun e w' => e = .returned (.int .u32 (num (S[(i + j) / 2]).1)) ∧ Dr w w') := fun w => by
        have := sessionNumber_any _ w hnz
        rwa [hnm] at this
      have HL : Hid (num (S[(i + j) / 2]).1 < num nm.data.toList → ∀ s ∈ S.take ((i + j) / 2 + 1), num s.1 < num nm.data.toList) := fun h => take_below hr.srt hmid h
      have HG : Hid (num nm.data.toList ≤ num (S[(i + j) / 2]).1 → ∀ s ∈ S.drop ((i + j) / 2), num nm.data.toList ≤ num s.1) := fun h => drop_above hr.srt hmid h
      generalize num (S[(i + j) / 2]).1 = q at HC HL HG
      clear hnm hnz hmid
      by_cases hq : q < num nm.data.toList
      · go_wp2_with fail
        refine (unhide HC _).mono ?_
        rintro e w3 ⟨rfl, hdr⟩
        go_wp2
        go_roundw
        case rel => exact ⟨(i + j) / 2 + 1, j, by omega, hjm, by go_num, rfl, HL.out hq, H2, hnx.trans (hdr.below _)⟩
        case measure => simp [intOf]; omega
      · go_wp2_with fail
        refine (unhide HC _).mono ?_
        rintro e w3 ⟨rfl, hdr⟩
        go_wp2
        go_roundw
        case rel => exact ⟨i, (i + j) / 2, by omega, by omega, rfl, by go_num, H1, HG.out (by omega), hnx.trans (hdr.below _)⟩
        case measure => simp [intOf]; omega
    · have hij' : i = j := by omega
      subst hij'
      obtain ⟨f1, f2, f3⟩ := foundAt_eq H1.out H2.out
      rw [← HM.out] at f1 f2
      have F1 := hide (f1 hjm)
      have hcx := (hnx.cell (p := ⟨w.heap.size, 0, none⟩) hz1).trans hc1
      have hzx : w.heap.size < wr.heap.size := Nat.lt_of_lt_of_le hz1 hnx.size
      have hBx : Below w.heap.size w wr := hB1.trans (hnx.mono (Nat.le_of_lt hz1))
      by_cases him : i < m
      · have hil : i < S.length := by rw [← HM.out]; exact him
        obtain ⟨hnm, hnz⟩ := hr.name hil
        have F3 := hide (f3 hil)
        have hg : ((i : Int) * 12) < (h.size : Int) := by have := HSZ.out; omega
        have hg' : decide (((i : Int) * 12) < (h.size : Int)) = true := by simpa using hg
        have hg2 : i * 12 + 4 ≤ h.size := by have := HSZ.out; omega
        have heq : ((h.extract (i * 12) (i * 12 + 4)).toList == nm.toList) = foundAt S nm.data.toList := by
          rw [F3.out, ByteArray.toList_eq, ByteArray.toList_eq, hnm, Bool.eq_iff_iff]
          simp
        obtain ⟨fb, hfb⟩ : ∃ fb, fb = foundAt S nm.data.toList := ⟨_, rfl⟩
        have HFB := hide hfb
        rw [← hfb] at heq
        clear hfb f1 f2 f3 hnm hnz F3
        go_wp2
        go_quiet (fail)
        go_wp2
        go_ret2
        exact ⟨ret_ib (by rw [F1.out]; omega) HFB.out, below_drewN hBx _⟩
      · have F2 := hide (f2 (by omega))
        have hg' : decide (((i : Int) * 12) < (h.size : Int)) = false := by have := HSZ.out; simp; omega
        have hbd : i * 12 ≤ 2097152 := by have := HSZ.out; omega
        clear f1 f2 f3
        go_wp2
        go_quiet (fail)
        go_wp2
        go_ret2
        exact ⟨ret_ib (by rw [F1.out]; omega) F2.out.symm, below_drewN hBx _⟩

end Go.Proofs.Qxb6600199a
