/-
  zzTokenOf (31), zzFind (13).
-/
import Derived.Test.Qxb6600199aShI
namespace Go.Proofs.Qxb6600199a
open Go.RowKit

theorem ext_getD (h : ByteArray) (a k : Nat) (hk : k < 8) (hi : a + 4 + k < h.size) : (h[a + 4 + k]'hi) = (h.extract (a + 4) (a + 12)).data.toList.getD k 0 := by
  rw [ext_toList, List.getD, List.getElem?_take, if_pos (by omega), List.getElem?_drop]
  have e : h.data.toList[a + 4 + k]? = some (h[a + 4 + k]'hi) := by
    rw [Array.getElem?_toList]
    exact Array.getElem?_eq_getElem hi
  rw [e]
  rfl

set_option maxHeartbeats 1000000 in
theorem tokenOf_any (h : ByteArray) (a : Nat) (w : World) (ha : a + 12 ≤ h.size) (hsm : h.size ≤ 2097152) :
    Calls Try.prog 31 #[.string h, .int .i64 a] w fun e w' => e = .returned (.int .u64 (num (h.extract (a + 4) (a + 12)).data.toList)) ∧ w' = w := by
  obtain ⟨x, hx⟩ : ∃ x, x = (h.extract (a + 4) (a + 12)).data.toList := ⟨_, rfl⟩
  have HX := hide hx
  have hl : x.length = 8 := by
    rw [hx, ext_toList, List.length_take, List.length_drop, Array.length_toList]
    have : h.data.size = h.size := rfl
    omega
  have HL := hide hl
  rw [← hx]
  clear hx hl
  go_enter Try.func31, Try.ntmps31
  go_wp2
  go_loop [5, 6] (fun t i => ∃ k : Nat, k ≤ 8 ∧ i = .int .i64 k ∧ t = .int .u64 (num (x.take k))) (fun _ i => 8 - (intOf i).toNat)
  case atStart => exact ⟨0, by omega, rfl, rfl⟩
  case round =>
    obtain ⟨k, hk, rfl, rfl⟩ := hrel
    by_cases hlt : k < 8
    · have hT := take_num_lt x k hlt
      have HT := hide (take_num x k (by rw [HL.out]; exact hlt))
      have hi : a + 4 + k < h.size := by omega
      have hg := ext_getD h a k hlt hi
      rw [← HX.out] at hg
      have hb8 := (x.getD k 0).toNat_lt
      generalize x.getD k 0 = bk at hg HT hb8
      generalize num (x.take k) = T at hT HT ⊢
      have hii : (a : Int) + 4 + (k : Int) < (h.size : Int) := by omega
      go_wp2
      go_round
      case rel => exact ⟨k + 1, by omega, by go_num, by rw [HT.out]; go_num⟩
      case measure => simp [intOf]; omega
    · have hk8 : k = 8 := by omega
      subst hk8
      have ht : x.take 8 = x := List.take_of_length_le (by rw [HL.out]; exact Nat.le_refl _)
      rw [ht]
      clear ht
      go_wp2
      go_ret
      exact ⟨rfl, rfl⟩

theorem find_facts {S : List Sh} (hs : Srt S) (nm : List UInt8) (k : Nat) (hk : k < S.length) :
    (k < rk S nm ∧ num (S[k]).1 < num nm) ∨ (k = rk S nm ∧ num nm ≤ num (S[k]).1 ∧ (foundAt S nm = true → (S[k]).1 = nm ∧ tokAt S nm = num (S[k]).2) ∧ (foundAt S nm = false → (S[k]).1 ≠ nm)) ∨
      (rk S nm < k ∧ num nm ≤ num (S[k]).1 ∧ (S[k]).1 ≠ nm) := by
  obtain ⟨e1, e2⟩ := lo_take S nm
  rcases Nat.lt_trichotomy k (rk S nm) with h | h | h
  · refine .inl ⟨h, lo_below (S := S) _ ?_⟩
    rw [e1]
    exact List.mem_take_iff_getElem.2 ⟨k, by omega, rfl⟩
  · subst h
    have hd : S.drop (rk S nm) = S[rk S nm] :: S.drop (rk S nm + 1) := List.drop_eq_getElem_cons hk
    have hh : hi S (num nm) = S[rk S nm] :: S.drop (rk S nm + 1) := e2.trans hd
    refine .inr (.inl ⟨rfl, hi_above hs _ (by rw [hh]; exact List.mem_cons_self ..), ?_, ?_⟩)
    · intro hf
      unfold foundAt at hf
      unfold tokAt
      rw [hh] at hf ⊢
      exact ⟨by simpa using hf, rfl⟩
    · intro hf
      unfold foundAt at hf
      rw [hh] at hf
      simpa using hf
  · have hr : rk S nm < S.length := by omega
    have hd : S.drop (rk S nm) = S[rk S nm] :: S.drop (rk S nm + 1) := List.drop_eq_getElem_cons hr
    have h1 := hi_above (n := num nm) hs (S[rk S nm]) (by rw [e2, hd]; exact List.mem_cons_self ..)
    have h2 : num (S[rk S nm]).1 < num (S[k]).1 := List.pairwise_iff_getElem.1 hs _ _ hr hk h
    refine .inr (.inr ⟨h, by omega, fun e => ?_⟩)
    rw [e] at h2
    omega

set_option maxHeartbeats 400000 in
theorem find_none (h nm : ByteArray) (w : World) (hh : h.size ≤ 4) :
    Calls Try.prog 13 #[.string h, .string nm] w fun e w' => e = .returned (.tuple #[.int .i64 0, .bool false, .int .u64 0]) ∧ w' = w := by
  have hd : decide ((h.size : Int) ≤ 4) = true := by simp; omega
  go_enter Try.func13, Try.ntmps13
  go_wp2
  go_ret3
  exact ⟨rfl, rfl⟩

/-- What the scan has found behind k shares. -/
def fnd (S : List Sh) (nm : List UInt8) (k : Nat) : Bool := decide (rk S nm < k) && foundAt S nm
def tk (S : List Sh) (nm : List UInt8) (k : Nat) : Nat := if fnd S nm k = true then tokAt S nm else 0
theorem fnd_succ_ne {S : List Sh} {nm : List UInt8} {k : Nat} (h : k ≠ rk S nm) : fnd S nm (k + 1) = fnd S nm k ∧ tk S nm (k + 1) = tk S nm k := by
  have : fnd S nm (k + 1) = fnd S nm k := by
    unfold fnd
    congr 1
    rw [Bool.eq_iff_iff]
    simp
    omega
  exact ⟨this, by unfold tk; rw [this]⟩
theorem fnd_succ_no {S : List Sh} {nm : List UInt8} (k : Nat) (h : foundAt S nm = false) : fnd S nm k = false ∧ tk S nm k = 0 := by
  have : fnd S nm k = false := by unfold fnd; rw [h]; simp
  exact ⟨this, by unfold tk; rw [this]; rfl⟩
theorem fnd_yes {S : List Sh} {nm : List UInt8} {k : Nat} (hk : rk S nm < k) (h : foundAt S nm = true) : fnd S nm k = true ∧ tk S nm k = tokAt S nm := by
  have : fnd S nm k = true := by unfold fnd; rw [h]; simp; omega
  exact ⟨this, by unfold tk; rw [this]; rfl⟩

def cn (S : List Sh) (nm : List UInt8) (k : Nat) : Nat := min k (rk S nm)
theorem cn_le (S : List Sh) (nm : List UInt8) (k : Nat) : cn S nm k ≤ k := Nat.min_le_left ..
theorem ret_ibu {a b x y : Int} {c d : Bool} (h : a = b) (k : c = d) (e : x = y) : Ending.returned (.tuple #[.int .i64 a, .bool c, .int .u64 x]) = .returned (.tuple #[.int .i64 b, .bool d, .int .u64 y]) := by rw [h, k, e]

set_option maxHeartbeats 2000000 in
theorem find_row (h nm : ByteArray) (S : List Sh) (w : World) (hr : IsRow h S) (hS : S ≠ []) (hn : nm.size = 4) :
    Calls Try.prog 13 #[.string h, .string nm] w fun e w' =>
      e = .returned (.tuple #[.int .i64 ((12 * rk S nm.data.toList : Nat) : Int), .bool (foundAt S nm.data.toList), .int .u64 (tokOr S nm.data.toList : Int)]) ∧ Dr w w' := by
  have hsz := hr.size
  have hsm := hr.small
  have hpos : 0 < S.length := List.length_pos_iff.2 hS
  obtain ⟨m, hm⟩ : ∃ m, m = S.length := ⟨_, rfl⟩
  have HM := hide hm
  rw [← hm] at hpos hsz
  clear hm
  have HSZ := hide hsz
  have hle : 12 * m ≤ h.size := by omega
  have hle2 : h.size ≤ 12 * m := by omega
  have hd : decide ((h.size : Int) ≤ 4) = false := by simp; omega
  have HN := hide hn
  have hrk := rk_le S nm.data.toList
  rw [← HM.out] at hrk
  clear hsz hn
  go_enter Try.func13, Try.ntmps13
  go_wp2
  go_loopw [7, 8, 9, 10] (fun c f t i wr => ∃ k : Nat, k ≤ m ∧ c = .int .i64 (cn S nm.data.toList k : Int) ∧ f = .bool (fnd S nm.data.toList k) ∧ t = .int .u64 (tk S nm.data.toList k) ∧ i = .int .i64 ((k : Int) * 12) ∧ Dr w wr) (fun _ _ _ i _ => 12 * m - (intOf i).toNat)
  case atStart => exact ⟨0, Nat.zero_le _, by simp [cn], by simp [fnd], by simp [tk, fnd], rfl, Dr.refl _⟩
  case round =>
    obtain ⟨k, hk, rfl, rfl, rfl, rfl, hdr⟩ := hrel
    by_cases hlt : k < m
    · have hkl : k < S.length := by rw [← HM.out]; exact hlt
      obtain ⟨hnm, hnz⟩ := hr.name hkl
      have HL := hide (fun w => less_any (h.extract (k * 12) (k * 12 + 4)) nm w hnz HN.out)
      have HF := hide (find_facts hr.srt nm.data.toList k hkl)
      have HQ : Hid (((h.extract (k * 12) (k * 12 + 4)).toList == nm.toList) = decide ((S[k]).1 = nm.data.toList)) := by
        show _ = _
        rw [ByteArray.toList_eq, ByteArray.toList_eq, hnm, Bool.eq_iff_iff]
        simp
      rw [hnm] at HL
      have hcn := cn_le S nm.data.toList k
      have HCN : Hid ((k < rk S nm.data.toList → cn S nm.data.toList (k + 1) = cn S nm.data.toList k + 1) ∧ (rk S nm.data.toList ≤ k → cn S nm.data.toList (k + 1) = cn S nm.data.toList k)) := ⟨fun h => by unfold cn; omega, fun h => by unfold cn; omega⟩
      have HTO : Hid (∀ w, Calls Try.prog 31 #[.string h, .int .i64 ((k * 12 : Nat) : Int)] w fun e w' => e = .returned (.int .u64 (num (S[k]).2)) ∧ w' = w) := fun w => by
        have := tokenOf_any h (k * 12) w (by have := HSZ.out; omega) hsm
        rw [ext_toList, hr.eq, show k * 12 + 12 - (k * 12 + 4) = 8 by omega, Nat.mul_comm k 12, (enc_name hr.wf k hkl).2.1, Nat.mul_comm 12 k] at this
        exact this
      rcases HF.out with ⟨q1, q2⟩ | ⟨q1, q2, q3, q4⟩ | ⟨q1, q2, q3⟩
      · have F := hide (fnd_succ_ne (S := S) (nm := nm.data.toList) (k := k) (by omega))
        have C1 := hide (HCN.out.1 q1)
        have D1 : decide (num (S[k]).1 < num nm.data.toList) = true := by simpa using q2
        rw [D1] at HL
        clear HF HQ HTO HCN D1 q1 q2 hnm hnz
        generalize cn S nm.data.toList k = c at hcn C1 ⊢
        generalize fnd S nm.data.toList k = f at F ⊢
        generalize tk S nm.data.toList k = tt at F ⊢
        go_wp2_with fail
        refine (unhide HL _).mono ?_
        rintro e w3 ⟨rfl, hdr3⟩
        go_wp2
        go_roundw
        case rel => exact ⟨k + 1, by omega, by rw [C1.out]; go_num, by rw [F.out.1], by rw [F.out.2], by go_num, hdr.trans hdr3⟩
        case measure => simp [intOf]; omega
      · have D1 : decide (num (S[k]).1 < num nm.data.toList) = false := by simp; omega
        have C1 := hide (HCN.out.2 (by omega))
        rw [D1] at HL
        cases hfb : foundAt S nm.data.toList
        · have F := hide (fnd_succ_no (S := S) (nm := nm.data.toList) k hfb)
          have F' := hide (fnd_succ_no (S := S) (nm := nm.data.toList) (k + 1) hfb)
          have hq : ((h.extract (k * 12) (k * 12 + 4)).toList == nm.toList) = false := by rw [HQ.out]; simpa using q4 hfb
          clear HF HQ HTO HCN D1 q1 q2 q3 q4 hnm hnz hfb
          rw [F.out.1, F.out.2]
          generalize cn S nm.data.toList k = c at hcn C1 ⊢
          go_wp2_with fail
          refine (unhide HL _).mono ?_
          rintro e w3 ⟨rfl, hdr3⟩
          go_wp2
          go_roundw
          case rel => exact ⟨k + 1, by omega, by rw [C1.out], by rw [F'.out.1], by rw [F'.out.2]; rfl, by go_num, hdr.trans hdr3⟩
          case measure => simp [intOf]; omega
        · have F' := hide (fnd_yes (S := S) (nm := nm.data.toList) (k := k + 1) (by omega) hfb)
          have hq : ((h.extract (k * 12) (k * 12 + 4)).toList == nm.toList) = true := by rw [HQ.out]; simpa using (q3 hfb).1
          have T1 := hide (q3 hfb).2
          clear HF HQ HCN D1 q1 q2 q3 q4 hnm hnz hfb
          generalize cn S nm.data.toList k = c at hcn C1 ⊢
          generalize fnd S nm.data.toList k = f
          generalize tk S nm.data.toList k = tt
          generalize num (S[k]).2 = tv at T1 HTO
          go_wp2_with fail
          refine (unhide HL _).mono ?_
          rintro e w3 ⟨rfl, hdr3⟩
          go_wp2_with fail
          rw [show ((k : Int) * 12) = ((k * 12 : Nat) : Int) by omega]
          refine (unhide HTO _).mono ?_
          rintro e w4 ⟨rfl, rfl⟩
          rw [show ((k * 12 : Nat) : Int) = ((k : Int) * 12) by omega]
          go_wp2
          go_roundw
          case rel => exact ⟨k + 1, by omega, by rw [C1.out], by rw [F'.out.1], by rw [F'.out.2, T1.out], by go_num, hdr.trans hdr3⟩
          case measure => simp [intOf]; omega
      · have F := hide (fnd_succ_ne (S := S) (nm := nm.data.toList) (k := k) (by omega))
        have C1 := hide (HCN.out.2 (by omega))
        have D1 : decide (num (S[k]).1 < num nm.data.toList) = false := by simp; omega
        have hq : ((h.extract (k * 12) (k * 12 + 4)).toList == nm.toList) = false := by rw [HQ.out]; simpa using q3
        rw [D1] at HL
        clear HF HQ HTO HCN D1 q1 q2 q3 hnm hnz
        generalize cn S nm.data.toList k = c at hcn C1 ⊢
        generalize fnd S nm.data.toList k = f at F ⊢
        generalize tk S nm.data.toList k = tt at F ⊢
        go_wp2_with fail
        refine (unhide HL _).mono ?_
        rintro e w3 ⟨rfl, hdr3⟩
        go_wp2
        go_roundw
        case rel => exact ⟨k + 1, by omega, by rw [C1.out], by rw [F.out.1], by rw [F.out.2], by go_num, hdr.trans hdr3⟩
        case measure => simp [intOf]; omega
    · have hkm : k = m := by omega
      subst hkm
      have F1 : Hid (cn S nm.data.toList k = rk S nm.data.toList) := by show _ = _; unfold cn; omega
      have F2 : Hid (fnd S nm.data.toList k = foundAt S nm.data.toList ∧ tk S nm.data.toList k = tokOr S nm.data.toList) := by
        have e : fnd S nm.data.toList k = foundAt S nm.data.toList := by
          unfold fnd
          by_cases hlt2 : rk S nm.data.toList < k
          · simp [hlt2]
          · have : foundAt S nm.data.toList = false := by
              unfold foundAt
              rw [(lo_take S nm.data.toList).2, List.drop_of_length_le (by rw [← HM.out]; omega)]
            simp [this]
        exact ⟨e, by unfold tk tokOr; rw [e]⟩
      have hcn := cn_le S nm.data.toList k
      generalize cn S nm.data.toList k = c at hcn F1 ⊢
      generalize fnd S nm.data.toList k = f at F2 ⊢
      generalize tk S nm.data.toList k = tt at F2 ⊢
      go_wp2
      go_ret3
      exact ⟨ret_ibu (by rw [F1.out]; omega) F2.out.1 (by rw [F2.out.2]), hdr⟩

/-- The scan on a free name or a row of shares. -/
theorem find_any (h nm : ByteArray) (S : List Sh) (w : World) (hr : IsRow h S) (hn : nm.size = 4) :
    Calls Try.prog 13 #[.string h, .string nm] w fun e w' =>
      e = .returned (.tuple #[.int .i64 ((12 * rk S nm.data.toList : Nat) : Int), .bool (foundAt S nm.data.toList), .int .u64 (tokOr S nm.data.toList : Int)]) ∧ Dr w w' := by
  by_cases hS : S = []
  · subst hS
    have h0 : h.size = 0 := by rw [hr.size]; rfl
    refine (find_none h nm w (by omega)).mono fun e w' ⟨he, hw⟩ => ⟨he, ?_⟩
    rw [hw]; exact Dr.refl _
  · exact find_row h nm S w hr hS hn

end Go.Proofs.Qxb6600199a
