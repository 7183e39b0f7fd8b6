/-
  stepShared (36): an acquire.
-/
import Derived.Test.Qxb6600199aShN
namespace Go.Proofs.Qxb6600199a
open Go.RowKit

theorem StepAt.drewN {w wx : World} {h : ByteArray} {l rf : Int} {g : Bool} {a : Nat} {nm kd : ByteArray} {an ac re sh : Bool} {f : Int} (hs : StepAt w wx h l rf g a nm kd an ac re sh f) (n : Nat) : StepAt w (wx.drewN n) h l rf g a nm kd an ac re sh f := by
  have h0 : Below wx.heap.size wx (wx.drewN n) := below_drewN (Below.refl _ _) _
  have := hs.sz
  have := h0.size
  exact ⟨hs.bel.trans (h0.mono (by omega)), by omega, hs.box.keep h0 (by omega), hs.res.keep h0 (by omega), hs.fr.keep h0 (by omega), hs.op.keep h0 hs.op.lt, hs.lt⟩

theorem StepAt.drew {w wx : World} {h : ByteArray} {l rf : Int} {g : Bool} {a : Nat} {nm kd : ByteArray} {an ac re sh : Bool} {f : Int} (hs : StepAt w wx h l rf g a nm kd an ac re sh f) : StepAt w wx.drew h l rf g a nm kd an ac re sh f :=
  hs.keep (Below.refl _ _)

set_option maxHeartbeats 40000000 in
set_option maxRecDepth 20000 in
theorem step_acquire (hd : ByteArray) (l rf : Int) (g : Bool) (a : Nat) (nm kd : ByteArray) (an ac re sh : Bool) (f tok : Int) (fd te sb lb gr eb nb : Bool) (w : World) (ho : OpAt w a nm kd an ac re sh f)
    (hte : (tok == f) = te) (hlb : decide (l < f) = lb) (hgr : (sh && sb && lb) = gr) (heb : hd.toList.isEmpty = eb) (hnb : (hd.toList == nm.toList) = nb) (hk : (kd.toList == [114, 101, 108, 101, 97, 115, 101]) = false) (hA : ByteArray) (lA rA : Int) (gA : Bool)
    (H34 : Hid (∀ w, Calls Try.prog 34 #[.agg #[.string hd, .int .u64 l, .int .u32 rf, .bool g], .string nm] w fun e w' => e = .returned (.tuple #[.int .u64 tok, .bool fd]) ∧ Below w.heap.size w w'))
    (H43 : Hid (∀ w, Calls Try.prog 43 #[.agg #[.string hd, .int .u64 l, .int .u32 rf, .bool g], .string nm] w fun e w' => e = .returned (.bool sb) ∧ Below w.heap.size w w'))
    (H32 : Hid (gr = true → ∀ w, Calls Try.prog 32 #[.agg #[.string hd, .int .u64 l, .int .u32 rf, .bool g], .string nm, .int .u64 f] w fun e w' => e = .returned (.agg #[.string hA, .int .u64 lA, .int .u32 rA, .bool gA]) ∧ Below w.heap.size w w')) :
    Calls Try.prog 36 #[.agg #[.string hd, .int .u64 l, .int .u32 rf, .bool g], .pointer (some ⟨a, 0, none⟩)] w fun e w' =>
      (if ((!an || ac) && gr) = true then StepRet e true hA lA rA gA else StepRet e (!an || ((!ac && (!eb && !nb && !fd)) || (ac && (sh && fd && te)))) hd l rf g) ∧ Below w.heap.size w w' := by
  have HO := hide ho
  have HG := hide hgr
  have HT := hide hte
  have HL := hide hlb
  have HE := hide heb
  have HNB := hide hnb
  clear hgr hte hlb heb hnb
  obtain ⟨hlt, o1, o2, o7, o8, o9, o10, o11⟩ := ho
  go_enter Try.func36, Try.ntmps36
  go_upto_region 1 with fail
  go_cut [6, 7] from 10 to 18 (fun s6 s7 wx => s6 = .int .u64 tok ∧ s7 = .bool fd ∧ StepAt w wx hd l rf g a nm kd an ac re sh f)
  case first =>
    go_region_with (go_at_call 34; refine (unhide H34 _).mono ?_; rintro e w1 ⟨rfl, hb⟩)
    all_goals (go_wp2_with fail; go_meet; exact ⟨rfl, rfl, .of HO.out hb⟩)
  case rest =>
    clear hlt o1 o2 o7 o8 o9 o10 o11
    obtain ⟨rfl, rfl, hst⟩ := hcut
    have HS := hide hst
    obtain ⟨hB, hz, ⟨b0, b1, b2, b3⟩, ⟨r0, r1, r2, r3⟩, ⟨f0, f1, f2, f3⟩, ⟨hlt, o1, o2, o7, o8, o9, o10, o11⟩, halt⟩ := hst
    go_upto_region 7 with fail
    go_cut [9] from 70 to 90 (fun s9 wx => s9 = .bool gr ∧ StepAt w wx hd l rf g a nm kd an ac re sh f)
    case first =>
      cases sh with
      | false =>
        have hg : gr = false := by rw [← HG.out]; rfl
        subst hg
        go_quiet (fail)
        go_wp2
        go_meet
        exact ⟨rfl, HS.out.drewN _⟩
      | true =>
        cases sb with
        | false =>
          have hg : gr = false := by rw [← HG.out]; rfl
          subst hg
          first | (go_region_with (go_at_call 43; refine (unhide H43 _).mono ?_; rintro e w1 ⟨rfl, hb⟩; have hst1 := HS.out.keep hb; clear hB hz b0 b1 b2 b3 r0 r1 r2 r3 f0 f1 f2 f3 hlt o1 o2 o7 o8 o9 o10 o11 hb HS; have HS := hide hst1; obtain ⟨hB, hz, ⟨b0, b1, b2, b3⟩, ⟨r0, r1, r2, r3⟩, ⟨f0, f1, f2, f3⟩, ⟨hlt, o1, o2, o7, o8, o9, o10, o11⟩, -⟩ := hst1)) | skip
          all_goals (go_wp2; go_meet; exact ⟨rfl, HS.out⟩)
        | true =>
          have hg : gr = lb := by rw [← HG.out]; simp
          subst hg
          have hl := HL.out
          first | (go_region_with (go_at_call 43; refine (unhide H43 _).mono ?_; rintro e w1 ⟨rfl, hb⟩; have hst1 := HS.out.keep hb; clear hB hz b0 b1 b2 b3 r0 r1 r2 r3 f0 f1 f2 f3 hlt o1 o2 o7 o8 o9 o10 o11 hb HS; have HS := hide hst1; obtain ⟨hB, hz, ⟨b0, b1, b2, b3⟩, ⟨r0, r1, r2, r3⟩, ⟨f0, f1, f2, f3⟩, ⟨hlt, o1, o2, o7, o8, o9, o10, o11⟩, -⟩ := hst1)) | skip
          all_goals (go_wp2; go_meet; exact ⟨rfl, HS.out⟩)
    case rest =>
      clear hB hz b0 b1 b2 b3 r0 r1 r2 r3 f0 f1 f2 f3 hlt o1 o2 o7 o8 o9 o10 o11 HS
      obtain ⟨rfl, hst⟩ := hcut
      have HS := hide hst
      obtain ⟨hB, hz, ⟨b0, b1, b2, b3⟩, ⟨r0, r1, r2, r3⟩, ⟨f0, f1, f2, f3⟩, ⟨hlt, o1, o2, o7, o8, o9, o10, o11⟩, -⟩ := hst
      cases an with
      | false =>
        cases gr with
        | true =>
          have H := hide (fun w => H32.out rfl w)
          go_wp2_with fail
          go_region_with (go_at_call 32; refine (unhide H _).mono ?_; rintro e w1 ⟨rfl, hb⟩; have hst1 := HS.out.keep hb; clear hB hz b0 b1 b2 b3 r0 r1 r2 r3 f0 f1 f2 f3 hlt o1 o2 o7 o8 o9 o10 o11 hb; obtain ⟨hB, hz, ⟨b0, b1, b2, b3⟩, ⟨r0, r1, r2, r3⟩, ⟨f0, f1, f2, f3⟩, ⟨hlt, o1, o2, o7, o8, o9, o10, o11⟩, -⟩ := hst1)
          all_goals (go_wp2; exact bodyPost_ret (v := .tuple #[.bool true, .agg #[.string hA, .int .u64 lA, .int .u32 rA, .bool gA]]) (by simp [results, Try.results36, go_sem, r0, r1, r2, r3]) rfl ⟨by first | exact rfl | (rw [if_pos (by rfl)]; exact rfl), below_store hB _ _ _ _⟩)
        | false =>
          go_wp2_with fail
          go_region
          go_wp2
          exact bodyPost_ret (v := .tuple #[.bool true, .agg #[.string hd, .int .u64 l, .int .u32 rf, .bool g]]) (by simp [results, Try.results36, go_sem, r0, r1, r2, r3]) rfl ⟨by first | exact rfl | (rw [if_neg (by decide)]; exact rfl), (below_store hB _ _ _ _).drew⟩
      | true =>
        cases ac with
        | false =>
          have he := HE.out
          cases eb with
          | true =>
            go_wp2_with fail
            go_region
            go_wp2
            exact bodyPost_ret (v := .tuple #[.bool false, .agg #[.string hd, .int .u64 l, .int .u32 rf, .bool g]]) (by simp [results, Try.results36, go_sem, r0, r1, r2, r3]) rfl ⟨by first | exact rfl | (rw [if_neg (by decide)]; exact rfl) | simp [StepRet], (below_store hB _ _ _ _).drew⟩
          | false =>
            have hq := HNB.out
            cases nb with
            | true =>
              go_wp2_with fail
              go_region
              go_wp2
              exact bodyPost_ret (v := .tuple #[.bool false, .agg #[.string hd, .int .u64 l, .int .u32 rf, .bool g]]) (by simp [results, Try.results36, go_sem, r0, r1, r2, r3]) rfl ⟨by first | exact rfl | (rw [if_neg (by decide)]; exact rfl) | simp [StepRet], (below_store hB _ _ _ _).drew⟩
            | false =>
              cases fd with
              | true =>
                go_wp2_with fail
                go_region
                go_wp2
                exact bodyPost_ret (v := .tuple #[.bool false, .agg #[.string hd, .int .u64 l, .int .u32 rf, .bool g]]) (by simp [results, Try.results36, go_sem, r0, r1, r2, r3]) rfl ⟨by first | exact rfl | (rw [if_neg (by decide)]; exact rfl) | simp [StepRet], (below_store hB _ _ _ _).drew⟩
              | false =>
                go_wp2_with fail
                go_region
                go_wp2
                exact bodyPost_ret (v := .tuple #[.bool true, .agg #[.string hd, .int .u64 l, .int .u32 rf, .bool g]]) (by simp [results, Try.results36, go_sem, r0, r1, r2, r3]) rfl ⟨by first | exact rfl | (rw [if_neg (by decide)]; exact rfl) | simp [StepRet], (below_store hB _ _ _ _).drew⟩
        | true =>
          cases gr with
          | true =>
            have H := hide (fun w => H32.out rfl w)
            go_wp2_with fail
            go_region_with (go_at_call 32; refine (unhide H _).mono ?_; rintro e w1 ⟨rfl, hb⟩; have hst1 := HS.out.keep hb; clear hB hz b0 b1 b2 b3 r0 r1 r2 r3 f0 f1 f2 f3 hlt o1 o2 o7 o8 o9 o10 o11 hb; obtain ⟨hB, hz, ⟨b0, b1, b2, b3⟩, ⟨r0, r1, r2, r3⟩, ⟨f0, f1, f2, f3⟩, ⟨hlt, o1, o2, o7, o8, o9, o10, o11⟩, -⟩ := hst1)
            all_goals (go_wp2; exact bodyPost_ret (v := .tuple #[.bool true, .agg #[.string hA, .int .u64 lA, .int .u32 rA, .bool gA]]) (by simp [results, Try.results36, go_sem, r0, r1, r2, r3]) rfl ⟨by first | exact rfl | (rw [if_pos (by rfl)]; exact rfl), below_store hB _ _ _ _⟩)
          | false =>
            cases sh with
            | false =>
              go_wp2_with fail
              go_region
              go_wp2
              exact bodyPost_ret (v := .tuple #[.bool false, .agg #[.string hd, .int .u64 l, .int .u32 rf, .bool g]]) (by simp [results, Try.results36, go_sem, r0, r1, r2, r3]) rfl ⟨by first | exact rfl | (rw [if_neg (by decide)]; exact rfl) | simp [StepRet], (below_store hB _ _ _ _).drew⟩
            | true =>
              cases fd with
              | false =>
                go_wp2_with fail
                go_region
                go_wp2
                exact bodyPost_ret (v := .tuple #[.bool false, .agg #[.string hd, .int .u64 l, .int .u32 rf, .bool g]]) (by simp [results, Try.results36, go_sem, r0, r1, r2, r3]) rfl ⟨by first | exact rfl | (rw [if_neg (by decide)]; exact rfl) | simp [StepRet], (below_store hB _ _ _ _).drew⟩
              | true =>
                have ht := HT.out
                go_wp2_with fail
                go_region
                go_wp2
                exact bodyPost_ret (v := .tuple #[.bool te, .agg #[.string hd, .int .u64 l, .int .u32 rf, .bool g]]) (by simp [results, Try.results36, go_sem, r0, r1, r2, r3]) rfl ⟨by first | exact rfl | (rw [if_neg (by decide)]; exact rfl) | simp [StepRet], (below_store hB _ _ _ _).drew⟩

end Go.Proofs.Qxb6600199a
