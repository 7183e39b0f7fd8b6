/-
  zzWellShared (17).
-/
import Derived.Test.Qxb6600199aShJ
namespace Go.Proofs.Qxb6600199a
open Go.RowKit

theorem enc_inj : ∀ {S R : List Sh}, WF S → WF R → enc S = enc R → S = R
  | [], [], _, _, _ => rfl
  | [], r :: R, _, hr, h => by
    have := congrArg List.length h
    rw [enc_length hr] at this
    simp [enc] at this
  | s :: S, [], hs, _, h => by
    have := congrArg List.length h
    rw [enc_length hs] at this
    simp [enc] at this
  | s :: S, r :: R, hs, hr, h => by
    rw [enc_cons, enc_cons] at h
    have hl : (encS s).length = (encS r).length := by rw [encS_length hs.head, encS_length hr.head]
    obtain ⟨h1, h2⟩ := List.append_inj h hl
    obtain ⟨e1, e2⟩ := List.append_inj (show s.1 ++ s.2 = r.1 ++ r.2 from h1) (by rw [hs.head.1, hr.head.1])
    rw [enc_inj hs.tail hr.tail h2]
    exact congrArg (· :: R) (Prod.ext e1 e2)

theorem srt_succ {S : List Sh} {k : Nat} (hk : k + 1 < S.length) (h : Srt (S.take (k + 1))) (hlt : num (S[k]).1 < num (S[k + 1]).1) : Srt (S.take (k + 2)) := by
  unfold Srt at h ⊢
  rw [List.take_succ_eq_append_getElem hk]
  refine List.pairwise_append.2 ⟨h, by simp, ?_⟩
  intro a ha b hb
  simp only [List.mem_singleton] at hb
  subst hb
  obtain ⟨i, hi, rfl⟩ := List.getElem_of_mem ha
  rw [List.getElem_take]
  have hi' : i < k + 1 := by simp at hi; omega
  rcases Nat.lt_or_eq_of_le (show i ≤ k by omega) with h1 | h1
  · have := List.pairwise_iff_getElem.1 h i k (by simp; omega) (by simp; omega) h1
    rw [List.getElem_take, List.getElem_take] at this
    omega
  · subst h1; exact hlt

/-- What zzWellShared answers. -/
def WellEnd (e : Ending) (h : ByteArray) : Prop := ∃ b : Bool, e = .returned (.bool b) ∧ (b = true ↔ ∃ S, IsRow h S ∧ S ≠ [])
theorem WellEnd.no {e : Ending} {h : ByteArray} (he : e = .returned (.bool false)) (hn : ¬ ∃ S, IsRow h S ∧ S ≠ []) : WellEnd e h := ⟨false, he, ⟨fun h => absurd h (by decide), fun h => absurd h hn⟩⟩

set_option maxHeartbeats 2000000 in
theorem well_any (h : ByteArray) (w : World) (hsm : h.size ≤ 2097152) :
    Calls Try.prog 17 #[.string h] w fun e w' => WellEnd e h ∧ Dr w w' := by
  by_cases h1 : h.size < 12
  · have hd : decide ((h.size : Int) < 12) = true := by simp; omega
    have HN : Hid (¬ ∃ S, IsRow h S ∧ S ≠ []) := by
      rintro ⟨S, hr, hS⟩
      have := hr.size
      have := List.length_pos_iff.2 hS
      omega
    go_enter Try.func17, Try.ntmps17
    go_wp2
    go_ret
    exact ⟨.no rfl HN.out, Dr.refl _⟩
  · have hd : decide ((h.size : Int) < 12) = false := by simp; omega
    by_cases h2 : h.size % 12 = 0
    · obtain ⟨m, hm⟩ : ∃ m, h.size = 12 * m := ⟨h.size / 12, by omega⟩
      obtain ⟨S, hw, hl, he⟩ := chunks m h.data.toList (by rw [Array.length_toList]; exact hm)
      have HM := hide hm
      have HL := hide hl
      have HE := hide he
      have hle : 12 * m ≤ h.size := by omega
      have hle2 : h.size ≤ 12 * m := by omega
      have hmpos : 0 < m := by omega
      have hd2 : (((h.size : Int) % 12) != 0) = false := by simp; omega
      have NM : Hid (∀ k (hk : k < S.length), (h.extract (k * 12) (k * 12 + 4)).data.toList = (S[k]).1 ∧ (h.extract (k * 12) (k * 12 + 4)).size = 4) := by
        intro k hk
        have e : (h.extract (k * 12) (k * 12 + 4)).data.toList = (S[k]).1 := by
          rw [ext_toList, ← HE.out, Nat.mul_comm k 12, show 12 * k + 4 - 12 * k = 4 by omega]
          exact (enc_name hw k hk).1
        refine ⟨e, ?_⟩
        show (h.extract (k * 12) (k * 12 + 4)).data.size = 4
        rw [← Array.length_toList, e, (hw (S[k]) (List.getElem_mem hk)).1]
      clear hm hl he h2
      go_enter Try.func17, Try.ntmps17
      go_wp2
      go_loopw [3] (fun i wr => ∃ k : Nat, k + 1 ≤ m ∧ i = .int .i64 ((k : Int) * 12 + 12) ∧ Hid (Srt (S.take (k + 1))) ∧ Dr w wr) (fun i _ => 12 * m - (intOf i).toNat)
      case atStart => exact ⟨0, by omega, rfl, by show Srt _; unfold Srt; cases S <;> simp, Dr.refl _⟩
      case round =>
        obtain ⟨k, hk, rfl, hsr, hdr⟩ := hrel
        by_cases hlt : k + 1 < m
        · have hkl : k + 1 < S.length := by rw [HL.out]; exact hlt
          obtain ⟨n1, z1⟩ := NM.out k (by omega)
          obtain ⟨n2, z2⟩ := NM.out (k + 1) hkl
          have HLS := hide (fun w => less_any _ _ w z1 z2)
          rw [n1, n2, show (k + 1) * 12 = k * 12 + 12 by omega] at HLS
          have HSC := hide (srt_succ hkl hsr.out)
          have HNS : Hid (Srt S → num (S[k]).1 < num (S[k + 1]).1) := fun hs => List.pairwise_iff_getElem.1 hs k (k + 1) (by omega) hkl (by omega)
          generalize num (S[k]).1 = a1 at HLS HSC HNS
          generalize num (S[k + 1]).1 = a2 at HLS HSC HNS
          have hi1 : (k : Int) * 12 + 12 < (h.size : Int) := by omega
          have hi2 : (k : Int) * 12 + 12 + 4 ≤ (h.size : Int) := by omega
          clear n1 z1 n2 z2 NM
          by_cases ha : a1 < a2
          · have D1 : decide (a1 < a2) = true := by simpa using ha
            rw [D1] at HLS
            go_wp2
            go_quiet ((go_at_call 15; exact Calls.quiet_of (unhide HLS _)))
            go_wp2
            go_roundw
            case rel => exact ⟨k + 1, by omega, by go_num, HSC.out ha, hdr.step _⟩
            case measure => simp [intOf]; omega
          · have D1 : decide (a1 < a2) = false := by simpa using ha
            rw [D1] at HLS
            go_wp2
            go_quiet ((go_at_call 15; exact Calls.quiet_of (unhide HLS _)))
            go_wp2
            go_ret
            refine ⟨.no rfl ?_, hdr.step _⟩
            rintro ⟨R, hR, _⟩
            have : R = S := enc_inj hR.wf hw (hR.eq.symm.trans HE.out.symm)
            subst this
            exact ha (HNS.out hR.srt)
        · have hkm : k + 1 = m := by omega
          have hsS : Hid (Srt S) := by
            have := hsr.out
            rwa [hkm, List.take_of_length_le (by rw [HL.out]; exact Nat.le_refl _)] at this
          have HKM := hide hkm
          clear hkm
          go_wp2
          go_ret
          refine ⟨⟨true, rfl, ⟨fun _ => ⟨S, ⟨HE.out.symm, hw, hsS.out, hsm⟩, ?_⟩, fun _ => rfl⟩⟩, hdr⟩
          intro e
          have := HL.out
          rw [e] at this
          simp at this
          omega
    · have hd2 : (((h.size : Int) % 12) != 0) = true := by simp; omega
      have HN : Hid (¬ ∃ S, IsRow h S ∧ S ≠ []) := by
        rintro ⟨S, hr, hS⟩
        have := hr.size
        omega
      go_enter Try.func17, Try.ntmps17
      go_wp2
      go_ret
      exact ⟨.no rfl HN.out, Dr.refl _⟩

end Go.Proofs.Qxb6600199a
