/-
  FnStepSharedCaseTable (8): the walk.
-/
import Derived.Test.Qxb6600199aSiA
namespace Go.Proofs.Qxb6600199a
open Go.RowKit

/-- The holder's three views: free, shared, held exclusive; and what the table's words are in each. -/
theorem view_three (h nm : ByteArray) (S : List Sh) (an ac sh : Bool) (l : Int) (t : Nat) (wok : Bool) (wnt : Int) (fd : Bool) (tk : Int) (hv : View h S) (hn : nm.size = 4)
    (hfd : fd = foundAt S nm.data.toList) (htk : tk = (tokOr S nm.data.toList : Int))
    (e1 : wok = wokA an ac (grn h S nm.data.toList sh l t) (!h.toList.isEmpty && !(h.toList == nm.toList) && !foundAt S nm.data.toList) (sh && foundAt S nm.data.toList && ((tokOr S nm.data.toList : Int) == (t : Int))))
    (e2 : wnt = wntA an ac (grn h S nm.data.toList sh l t)) :
    (h.toList.isEmpty = true ∧ decide ((4 : Int) < (h.size : Int)) = false ∧ ((h.size : Int) == 4) = false ∧ fd = false ∧ wok = wokA an ac (sh && decide (l < (t : Int))) false false ∧ wnt = wntA an ac (sh && decide (l < (t : Int)))) ∨
     (h.toList.isEmpty = false ∧ decide ((4 : Int) < (h.size : Int)) = true ∧ ((h.size : Int) == 4) = false ∧ wok = wokA an ac (sh && !fd && decide (l < (t : Int))) (!fd) (sh && fd && (tk == (t : Int))) ∧ wnt = wntA an ac (sh && !fd && decide (l < (t : Int)))) ∨
     (h.toList.isEmpty = false ∧ decide ((4 : Int) < (h.size : Int)) = false ∧ ((h.size : Int) == 4) = true ∧ fd = false ∧ wok = wokA an ac false (!(h.toList == nm.toList)) false ∧ wnt = wntA an ac false) := by
  subst hfd
  subst htk
  have hl : h.toList.length = h.size := by rw [ByteArray.toList_eq]; rfl
  have hln : nm.toList.length = nm.size := by rw [ByteArray.toList_eq]; rfl
  rcases hv with hr | ⟨h4, rfl⟩
  · have h4 := hr.not4
    have hq : ((h.size : Int) == 4) = false := by simp; omega
    have hg : grn h S nm.data.toList sh l t = (sh && !foundAt S nm.data.toList && decide (l < (t : Int))) := by
      unfold grn shb
      rw [if_neg h4]
    have hsz := hr.size
    rw [hg] at e1 e2
    by_cases h0 : S.length = 0
    · obtain rfl := List.length_eq_zero_iff.mp h0
      have he : h.toList.isEmpty = true := by
        rw [List.isEmpty_iff_length_eq_zero, hl]
        simpa using hsz
      have hz : h.size = 0 := by simpa using hsz
      refine .inl ⟨he, by simp; omega, hq, rfl, ?_, ?_⟩
      · rw [e1, he]
        simp [foundAt, hi]
      · rw [e2]
        simp [foundAt, hi]
    · have hb : h.size > 4 := by omega
      have he : h.toList.isEmpty = false := by
        rw [Bool.eq_false_iff]
        intro hc
        rw [List.isEmpty_iff_length_eq_zero, hl] at hc
        omega
      have hne : (h.toList == nm.toList) = false := by
        rw [beq_eq_false_iff_ne]
        intro hc
        rw [hc] at hl
        omega
      refine .inr (.inl ⟨he, by simp; omega, hq, ?_, e2⟩)
      rw [e1, he, hne]
      simp
  · have hg : grn h [] nm.data.toList sh l t = false := by
      unfold grn shb
      rw [if_pos h4]
      simp
    have he : h.toList.isEmpty = false := by
      rw [Bool.eq_false_iff]
      intro hc
      rw [List.isEmpty_iff_length_eq_zero, hl] at hc
      omega
    have hf : foundAt [] nm.data.toList = false := rfl
    rw [hg] at e1 e2
    refine .inr (.inr ⟨he, by simp; omega, by simp; omega, hf, ?_, e2⟩)
    rw [e1, he, hf]
    simp

set_option maxHeartbeats 8000000 in
set_option maxRecDepth 20000 in
theorem walk8 (h nm kd : ByteArray) (l rf : Int) (t : Nat) (g an ac re sh : Bool) (w : World) (ht : t < 18446744073709551616) (hs : h.size + nm.size + kd.size ≤ 1048576) (hn : nm.size = 4) :
    Calls Try.prog 8 #[.string h, .int .u64 l, .int .u32 rf, .bool g, .string nm, .string kd, .bool an, .bool ac, .bool re, .bool sh, .int .u64 t] w fun e w' => e = .returned (.bool true) ∧ Below w.heap.size w w' := by
  have HN := hide hn
  have hn4 : (((nm.size : Int)) != 4) = false := by simp; omega
  have hd1 : decide ((1048576 : Int) < (h.size : Int) + (nm.size : Int) + (kd.size : Int)) = false := by simp; omega
  have H24 := hide (bytes24_yes h nm kd l rf t g an ac re sh w hs)
  have HW := hide (fun w => well11 h w (by omega))
  have HSM : Hid (h.size + 12 ≤ 2097152) := hide (by omega)
  clear hn
  go_enter Try.func8, Try.ntmps8
  go_wp2_with fail
  refine (unhide H24).mono ?_
  rintro e w' ⟨rfl, hw⟩
  obtain rfl := hw.symm
  clear hw H24
  go_wp2_with fail
  refine (unhide HW _).mono ?_
  rintro e w1 ⟨⟨b, rfl, hb⟩, hd⟩
  have HB := hide hb
  clear hb HW
  cases b with
  | false =>
    go_wp2
    go_ret
    exact ⟨rfl, hd.below _⟩
  | true =>
    obtain ⟨S, hV⟩ : ∃ S, View h S := by
      rcases HB.out rfl with h4 | ⟨S, hr⟩
      · exact ⟨[], .inr ⟨h4, rfl⟩⟩
      · exact ⟨S, .inl hr⟩
    have HV := hide hV
    clear hV HB
    have hb1 := hd.below w.heap.size
    clear hd
    go_upto_region 8 with fail
    have hop : OpAt (w1.alloc (.cells #[.int .i64 0, .string nm, .string kd, .string ⟨#[]⟩, .int .i64 0, .int .i64 0, .int .i64 0, .bool an, .bool ac, .bool re, .bool sh, .int .u64 t, .string ⟨#[]⟩] 43)) w1.heap.size nm kd an ac re sh t := ⟨by simp, by simp, by simp, by simp, by simp, by simp, by simp, by simp⟩
    have hbA := hb1.alloc hb1.size (.cells #[.int .i64 0, .string nm, .string kd, .string ⟨#[]⟩, .int .i64 0, .int .i64 0, .int .i64 0, .bool an, .bool ac, .bool re, .bool sh, .int .u64 t, .string ⟨#[]⟩] 43)
    clear hb1
    obtain ⟨wok, wnt, hW, HC⟩ : ∃ wok wnt,
        (((kd.toList == [114, 101, 108, 101, 97, 115, 101]) = true ∧ wok = wokR an re (own S nm.data.toList t) ∧ wnt = wntR an re (own S nm.data.toList t)) ∨
          ((kd.toList == [114, 101, 108, 101, 97, 115, 101]) = false ∧ wok = wokA an ac (grn h S nm.data.toList sh l t) (!h.toList.isEmpty && !(h.toList == nm.toList) && !foundAt S nm.data.toList) (sh && foundAt S nm.data.toList && ((tokOr S nm.data.toList : Int) == (t : Int))) ∧ wnt = wntA an ac (grn h S nm.data.toList sh l t))) ∧
        Hid (Calls Try.prog 25 #[.string h, .int .u64 l, .int .u32 rf, .bool g, .pointer (some ⟨w1.heap.size, 0, none⟩)] (w1.alloc (.cells #[.int .i64 0, .string nm, .string kd, .string ⟨#[]⟩, .int .i64 0, .int .i64 0, .int .i64 0, .bool an, .bool ac, .bool re, .bool sh, .int .u64 t, .string ⟨#[]⟩] 43)) fun e w' =>
          (∃ ok h' l' rf' g', StepFive e ok h' l' rf' g' ∧ Out8 h l rf g S nm.data.toList t wok wnt ok h' l' rf' g') ∧ Below (w1.alloc (.cells #[.int .i64 0, .string nm, .string kd, .string ⟨#[]⟩, .int .i64 0, .int .i64 0, .int .i64 0, .bool an, .bool ac, .bool re, .bool sh, .int .u64 t, .string ⟨#[]⟩] 43)).heap.size (w1.alloc (.cells #[.int .i64 0, .string nm, .string kd, .string ⟨#[]⟩, .int .i64 0, .int .i64 0, .int .i64 0, .bool an, .bool ac, .bool re, .bool sh, .int .u64 t, .string ⟨#[]⟩] 43)) w') := by
      cases hk : (kd.toList == [114, 101, 108, 101, 97, 115, 101]) with
      | true => exact ⟨_, _, .inl ⟨rfl, rfl, rfl⟩, hide (out_release h l rf g w1.heap.size nm kd an ac re sh t S _ HV.out HN.out hop hk)⟩
      | false => exact ⟨_, _, .inr ⟨rfl, rfl, rfl⟩, hide (out_acquire h l rf g w1.heap.size nm kd an ac re sh t S _ HV.out HN.out ht HSM.out hop hk)⟩
    have HWT := hide hW
    clear hW hop
    go_wp2_with fail
    refine (unhide HC).mono ?_
    rintro e w2 ⟨⟨ok, h', l', rf', g', rfl, ho⟩, hb2⟩
    have HO := hide ho
    clear ho HC
    have hbB := hbA.trans (hb2.mono hbA.size)
    clear hb2 hbA
    obtain ⟨fd, hfd⟩ : ∃ fd, fd = foundAt S nm.data.toList := ⟨_, rfl⟩
    obtain ⟨tk, htk⟩ : ∃ tk : Int, tk = (tokOr S nm.data.toList : Int) := ⟨_, rfl⟩
    have HF : Hid (∀ w, Calls Try.prog 13 #[.string h, .string nm] w fun e w' => (∃ i : Int, e = .returned (.tuple #[.int .i64 i, .bool fd, .int .u64 tk])) ∧ Dr w w') := hide (by
      rw [hfd, htk]
      exact fun w => view_find h nm S w HV.out HN.out)
    have HFD := hide hfd
    have HTK := hide htk
    clear hfd htk
    go_wp2_with fail
    refine (unhide HF _).mono ?_
    rintro e w3 ⟨⟨fi, rfl⟩, hd3⟩
    have hbC := hbB.trans (hd3.below _)
    clear HF hd3 hbB
    go_upto_if 95 with fail
    go_cut [32, 33, 34, 35, 36, 37] from 95 to 165 (fun s32 s33 _ _ _ _ wx => s32 = .bool wok ∧ s33 = .int .i64 wnt ∧ wx = w3)
    case first =>
      rename_i K0 hK0 J K1 hJ hK1
      clear hK0 HO HSM hs hn4 hd1 hbC ht
      rcases HWT.out with ⟨hk, e1, e2⟩ | ⟨hk, e1, e2⟩
      · unfold own at e1 e2
        rw [← HFD.out, ← HTK.out] at e1 e2
        have HE1 := hide e1
        have HE2 := hide e2
        clear e1 e2 HWT HV HN HFD HTK
        rw [hk]
        cases hte : (tk == (t : Int)) <;> rw [hte] at HE1 HE2 <;> cases an <;> cases re <;> cases fd <;> (go_wp2; go_meet; exact ⟨by rw [HE1.out]; rfl, by rw [HE2.out]; rfl, rfl⟩)
      · have HV3 := hide (view_three h nm S an ac sh l t wok wnt fd tk HV.out HN.out HFD.out HTK.out e1 e2)
        clear e1 e2 HWT HV HN HFD HTK
        rw [hk]
        rcases HV3.out with ⟨ha, hb, hc, rfl, e1, e2⟩ | ⟨ha, hb, hc, e1, e2⟩ | ⟨ha, hb, hc, rfl, e1, e2⟩
        · have HE1 := hide e1
          have HE2 := hide e2
          clear e1 e2 HV3
          cases hlt : decide (l < (t : Int)) <;> rw [hlt] at HE1 HE2 <;> cases an <;> cases ac <;> cases sh <;> (go_wp2; go_meet; exact ⟨by rw [HE1.out]; rfl, by rw [HE2.out]; rfl, rfl⟩)
        · have HE1 := hide e1
          have HE2 := hide e2
          clear e1 e2 HV3
          cases hlt : decide (l < (t : Int)) <;> rw [hlt] at HE1 HE2 <;> cases hte : (tk == (t : Int)) <;> rw [hte] at HE1 <;> cases an <;> cases ac <;> cases sh <;> cases fd <;> (go_wp2; go_meet; exact ⟨by rw [HE1.out]; rfl, by rw [HE2.out]; rfl, rfl⟩)
        · have HE1 := hide e1
          have HE2 := hide e2
          clear e1 e2 HV3
          cases hnb : (h.toList == nm.toList) <;> rw [hnb] at HE1 <;> cases an <;> cases ac <;> cases sh <;> (go_wp2; go_meet; exact ⟨by rw [HE1.out]; rfl, by rw [HE2.out]; rfl, rfl⟩)
    case rest =>
      obtain ⟨rfl, rfl, rfl⟩ := hcut
      obtain ⟨rfl, ho⟩ := HO.out
      rcases ho with ⟨rfl, rfl, rfl, rfl, rfl⟩ | ⟨rfl, rfl, rfl, rfl, rfl, hfd⟩ | ⟨rfl, rfl, rfl, rfl, rfl, hfd, h4⟩
      · go_wp2
        go_ret
        exact ⟨rfl, hbC⟩
      · have HRm : Hid (∀ w, Calls Try.prog 26 #[.string h, .string nm] w fun e w' => e = .returned (.string (encB (rem S nm.data.toList))) ∧ Below w.heap.size w w') := hide (fun w => by
          rcases HV.out with hr | ⟨_, rfl⟩
          · have := remove_row h nm S w hr (by rintro rfl; cases hfd)
            rw [oth_rem hr.srt hfd] at this
            exact this
          · cases hfd)
        clear hfd HO
        generalize encB (rem S nm.data.toList) = hx at HRm
        go_wp2_with fail
        refine (unhide HRm _).mono ?_
        rintro e w4 ⟨rfl, hb4⟩
        go_wp2
        go_ret
        exact ⟨rfl, hbC.trans (hb4.mono hbC.size)⟩
      · have HRm : Hid (∀ w, Calls Try.prog 19 #[.string h, .string nm, .int .u64 t] w fun e w' => e = .returned (.string (encB (ins S nm.data.toList t))) ∧ Below w.heap.size w w') := hide (fun w => by
          rcases HV.out with hr | ⟨h4', _⟩
          · exact insert_any h nm S t w hr HN.out ht hfd
          · exact absurd h4' h4)
        clear hfd HO h4
        generalize encB (ins S nm.data.toList t) = hx at HRm
        go_wp2_with fail
        refine (unhide HRm _).mono ?_
        rintro e w4 ⟨rfl, hb4⟩
        go_wp2
        go_ret
        exact ⟨rfl, hbC.trans (hb4.mono hbC.size)⟩

end Go.Proofs.Qxb6600199a
