/-
  state.sharable (43), stepShared (36).
-/
import Derived.Test.Qxb6600199aShL
import Derived.Deep.RegionWith
import Derived.Deep.CutRange
namespace Go.Proofs.Qxb6600199a
open Go.RowKit

set_option maxHeartbeats 1000000 in
/-- A free name is sharable. -/
theorem sharable_free (h : ByteArray) (l rf : Int) (g : Bool) (nm : ByteArray) (A : Int) (fb : Bool) (w : World) (he : h.toList.isEmpty = true)
    (HC : Hid (∀ w, Calls Try.prog 30 #[.agg #[.string h, .int .u64 l, .int .u32 rf, .bool g], .string nm] w fun e w' => e = .returned (.tuple #[.int .i64 A, .bool fb]) ∧ Below w.heap.size w w')) :
    Calls Try.prog 43 #[.agg #[.string h, .int .u64 l, .int .u32 rf, .bool g], .string nm] w fun e w' => e = .returned (.bool true) ∧ Below w.heap.size w w' := by
  go_enter Try.func43, Try.ntmps43
  go_wp2_with fail
  refine (unhide HC _).mono ?_
  rintro e w1 ⟨rfl, hb⟩
  have hB1 : Below w.heap.size w w1 := ((Below.refl _ _).alloc (Nat.le_refl _) _).trans (hb.mono (by simp))
  have hz1 : w.heap.size < w1.heap.size := by have := hb.size; simp at this; omega
  have b1 : Bx w1 w.heap.size (.string h) (.int .u64 l) (.int .u32 rf) (.bool g) := Bx.keep (B := w.heap.size + 1) ⟨by simp, by simp, by simp, by simp⟩ (hb.mono (by simp)) (by omega)
  obtain ⟨c0, c1, c2, c3⟩ := b1
  clear hb
  go_wp2
  go_ret
  exact ⟨rfl, hB1⟩

set_option maxHeartbeats 1000000 in
theorem sharable_held (h : ByteArray) (l rf : Int) (g : Bool) (nm : ByteArray) (A : Int) (fb sb : Bool) (w : World) (he : h.toList.isEmpty = false) (hs : decide ((4 : Int) < (h.size : Int)) = sb)
    (HC : Hid (∀ w, Calls Try.prog 30 #[.agg #[.string h, .int .u64 l, .int .u32 rf, .bool g], .string nm] w fun e w' => e = .returned (.tuple #[.int .i64 A, .bool fb]) ∧ Below w.heap.size w w')) :
    Calls Try.prog 43 #[.agg #[.string h, .int .u64 l, .int .u32 rf, .bool g], .string nm] w fun e w' => e = .returned (.bool (sb && !fb)) ∧ Below w.heap.size w w' := by
  have H37 : Hid (∀ w, Calls Try.prog 37 #[.agg #[.string h, .int .u64 l, .int .u32 rf, .bool g]] w fun e w' => e = .returned (.bool sb) ∧ Below w.heap.size w w') := hide (fun w => by rw [← hs]; exact shared_any h l rf g w)
  clear hs
  go_enter Try.func43, Try.ntmps43
  go_wp2_with fail
  refine (unhide HC _).mono ?_
  rintro e w1 ⟨rfl, hb⟩
  have hB1 : Below w.heap.size w w1 := ((Below.refl _ _).alloc (Nat.le_refl _) _).trans (hb.mono (by simp))
  have hz1 : w.heap.size < w1.heap.size := by have := hb.size; simp at this; omega
  have b1 : Bx w1 w.heap.size (.string h) (.int .u64 l) (.int .u32 rf) (.bool g) := Bx.keep (B := w.heap.size + 1) ⟨by simp, by simp, by simp, by simp⟩ (hb.mono (by simp)) (by omega)
  obtain ⟨c0, c1, c2, c3⟩ := b1
  clear hb
  go_wp2_with fail
  refine (unhide H37 _).mono ?_
  rintro e w2 ⟨rfl, hb2⟩
  have hB2 := hB1.trans (hb2.mono hB1.size)
  cases sb with
  | true =>
    go_wp2
    go_ret
    exact ⟨by simp, hB2⟩
  | false =>
    go_wp2
    go_ret
    exact ⟨by simp, hB2⟩

/-- The operation, where it lies. -/
structure OpAt (w : World) (a : Nat) (nm kd : ByteArray) (an ac re sh : Bool) (f : Int) : Prop where
  lt : a < w.heap.size
  c1 : w.cell? ⟨a, 1, none⟩ = some (.string nm)
  c2 : w.cell? ⟨a, 2, none⟩ = some (.string kd)
  c7 : w.cell? ⟨a, 7, none⟩ = some (.bool an)
  c8 : w.cell? ⟨a, 8, none⟩ = some (.bool ac)
  c9 : w.cell? ⟨a, 9, none⟩ = some (.bool re)
  c10 : w.cell? ⟨a, 10, none⟩ = some (.bool sh)
  c11 : w.cell? ⟨a, 11, none⟩ = some (.int .u64 f)

theorem OpAt.keep {w w' : World} {a B : Nat} {nm kd : ByteArray} {an ac re sh : Bool} {f : Int} (h : OpAt w a nm kd an ac re sh f) (hb : Below B w w') (ha : a < B) : OpAt w' a nm kd an ac re sh f :=
  ⟨Nat.lt_of_lt_of_le h.lt hb.size, (hb.cell (p := ⟨a, 1, none⟩) ha).trans h.c1, (hb.cell (p := ⟨a, 2, none⟩) ha).trans h.c2, (hb.cell (p := ⟨a, 7, none⟩) ha).trans h.c7, (hb.cell (p := ⟨a, 8, none⟩) ha).trans h.c8, (hb.cell (p := ⟨a, 9, none⟩) ha).trans h.c9,
    (hb.cell (p := ⟨a, 10, none⟩) ha).trans h.c10, (hb.cell (p := ⟨a, 11, none⟩) ha).trans h.c11⟩

/-- Where stepShared stands behind its prologue: its box, its result's cell, the operation. -/
structure StepAt (w wx : World) (h : ByteArray) (l rf : Int) (g : Bool) (a : Nat) (nm kd : ByteArray) (an ac re sh : Bool) (f : Int) : Prop where
  bel : Below w.heap.size w wx
  sz : w.heap.size + 1 < wx.heap.size
  box : Bx wx w.heap.size (.string h) (.int .u64 l) (.int .u32 rf) (.bool g)
  res : Bx wx (w.heap.size + 1) (.string ⟨#[]⟩) (.int .u64 0) (.int .u32 0) (.bool false)
  fr : Fr wx (w.heap.size + 1)
  op : OpAt wx a nm kd an ac re sh f
  lt : a < w.heap.size

abbrev boxed (w : World) (h : ByteArray) (l rf : Int) (g : Bool) : World := (w.alloc (.cells #[.string h, .int .u64 l, .int .u32 rf, .bool g] 55)).alloc (.cells #[.string ⟨#[]⟩, .int .u64 0, .int .u32 0, .bool false] 55)

theorem below_boxed (w : World) (h : ByteArray) (l rf : Int) (g : Bool) : Below w.heap.size w (boxed w h l rf g) := ((Below.refl _ _).alloc (Nat.le_refl _) _).alloc (by simp) _

theorem StepAt.of {w w1 : World} {h : ByteArray} {l rf : Int} {g : Bool} {a : Nat} {nm kd : ByteArray} {an ac re sh : Bool} {f : Int} (ho : OpAt w a nm kd an ac re sh f)
    (hb : Below (boxed w h l rf g).drew.heap.size (boxed w h l rf g).drew w1) : StepAt w w1 h l rf g a nm kd an ac re sh f := by
  have hsz : (boxed w h l rf g).drew.heap.size = w.heap.size + 2 := by simp [boxed]
  have h0 : Below (w.heap.size + 2) (boxed w h l rf g) w1 := by
    rw [hsz] at hb
    exact ((Below.refl _ _).drew).trans hb
  have hB : Below w.heap.size w w1 := (below_boxed w h l rf g).trans (h0.mono (by omega))
  have := h0.size
  simp [boxed] at this
  exact ⟨hB, by omega, Bx.keep ⟨by simp [boxed], by simp [boxed], by simp [boxed], by simp [boxed]⟩ h0 (by omega), Bx.keep ⟨by simp [boxed], by simp [boxed], by simp [boxed], by simp [boxed]⟩ h0 (by omega),
    Fr.keep ⟨by simp [boxed], by simp [boxed], by simp [boxed], by simp [boxed]⟩ h0 (by omega), ho.keep hB ho.lt, ho.lt⟩

theorem StepAt.keep {w wx w1 : World} {h : ByteArray} {l rf : Int} {g : Bool} {a : Nat} {nm kd : ByteArray} {an ac re sh : Bool} {f : Int} (hs : StepAt w wx h l rf g a nm kd an ac re sh f)
    (hb : Below wx.drew.heap.size wx.drew w1) : StepAt w w1 h l rf g a nm kd an ac re sh f := by
  have h0 : Below wx.heap.size wx w1 := ((Below.refl _ _).drew).trans hb
  have := hs.sz
  have := h0.size
  exact ⟨hs.bel.trans (h0.mono (by omega)), by omega, hs.box.keep h0 (by omega), hs.res.keep h0 (by omega), hs.fr.keep h0 (by omega), hs.op.keep h0 hs.op.lt, hs.lt⟩

def StepRet (e : Ending) (ok : Bool) (h : ByteArray) (l rf : Int) (g : Bool) : Prop := e = .returned (.tuple #[.bool ok, .agg #[.string h, .int .u64 l, .int .u32 rf, .bool g]])

theorem below_store {w wx : World} (hB : Below w.heap.size w wx) (p q r s : Value) : Below w.heap.size w ((((wx.setCell ⟨w.heap.size + 1, 0, none⟩ p).setCell ⟨w.heap.size + 1, 1, none⟩ q).setCell ⟨w.heap.size + 1, 2, none⟩ r).setCell ⟨w.heap.size + 1, 3, none⟩ s) :=
  (((hB.setCell (Nat.le_succ _) _).setCell (Nat.le_succ _) _).setCell (Nat.le_succ _) _).setCell (Nat.le_succ _) _

set_option maxHeartbeats 8000000 in
set_option maxRecDepth 20000 in
theorem step_release (hd : ByteArray) (l rf : Int) (g : Bool) (a : Nat) (nm kd : ByteArray) (an ac re sh : Bool) (f tok : Int) (fd te mt : Bool) (w : World) (ho : OpAt w a nm kd an ac re sh f)
    (hte : (tok == f) = te) (hmt : (fd && te) = mt) (hk : (kd.toList == [114, 101, 108, 101, 97, 115, 101]) = true) (hA : ByteArray) (lA rA : Int) (gA : Bool)
    (H34 : Hid (∀ w, Calls Try.prog 34 #[.agg #[.string hd, .int .u64 l, .int .u32 rf, .bool g], .string nm] w fun e w' => e = .returned (.tuple #[.int .u64 tok, .bool fd]) ∧ Below w.heap.size w w'))
    (H35 : Hid (mt = true → ∀ w, Calls Try.prog 35 #[.agg #[.string hd, .int .u64 l, .int .u32 rf, .bool g], .string nm] w fun e w' => e = .returned (.agg #[.string hA, .int .u64 lA, .int .u32 rA, .bool gA]) ∧ Below w.heap.size w w')) :
    Calls Try.prog 36 #[.agg #[.string hd, .int .u64 l, .int .u32 rf, .bool g], .pointer (some ⟨a, 0, none⟩)] w fun e w' =>
      (if ((!an || re) && mt) = true then StepRet e true hA lA rA gA else StepRet e (!an || (!re && !mt)) hd l rf g) ∧ Below w.heap.size w w' := by
  have HO := hide ho
  have HM := hide hmt
  have HT := hide hte
  clear hmt hte
  obtain ⟨hlt, o1, o2, o7, o8, o9, o10, o11⟩ := ho
  go_enter Try.func36, Try.ntmps36
  go_upto_region 1 with fail
  go_cut [6, 7] from 10 to 18 (fun s6 s7 wx => s6 = .int .u64 tok ∧ s7 = .bool fd ∧ StepAt w wx hd l rf g a nm kd an ac re sh f)
  case first =>
    go_region_with (go_at_call 34; refine (unhide H34 _).mono ?_; rintro e w1 ⟨rfl, hb⟩)
    all_goals (go_wp2_with fail; go_meet; exact ⟨rfl, rfl, .of HO.out hb⟩)
  case rest =>
    clear hlt o1 o2 o7 o8 o9 o10 o11
    obtain ⟨rfl, rfl, hst⟩ := hcut
    have HS := hide hst
    obtain ⟨hB, hz, ⟨b0, b1, b2, b3⟩, ⟨r0, r1, r2, r3⟩, ⟨f0, f1, f2, f3⟩, ⟨hlt, o1, o2, o7, o8, o9, o10, o11⟩, halt⟩ := hst
    go_upto_region 3 with fail
    go_cut [8] from 24 to 32 (fun s8 wx => s8 = .bool mt ∧ wx = wc)
    case first =>
      have ht := HT.out
      have hm := HM.out
      subst hm
      cases fd with
      | true =>
        go_wp2
        go_meet
        exact ⟨by simp, rfl⟩
      | false =>
        go_wp2
        go_meet
        exact ⟨rfl, rfl⟩
    case rest =>
      obtain ⟨rfl, rfl⟩ := hcut
      cases an with
      | true =>
        cases re with
        | true =>
          cases mt with
          | true =>
            have H := hide (fun w => H35.out rfl w)
            go_wp2_with fail
            go_region_with (go_at_call 35; refine (unhide H _).mono ?_; rintro e w1 ⟨rfl, hb⟩; have hst1 := HS.out.keep hb; clear hB hz b0 b1 b2 b3 r0 r1 r2 r3 f0 f1 f2 f3 hlt o1 o2 o7 o8 o9 o10 o11 hb; obtain ⟨hB, hz, ⟨b0, b1, b2, b3⟩, ⟨r0, r1, r2, r3⟩, ⟨f0, f1, f2, f3⟩, ⟨hlt, o1, o2, o7, o8, o9, o10, o11⟩, -⟩ := hst1)
            all_goals (go_wp2; exact bodyPost_ret (v := .tuple #[.bool true, .agg #[.string hA, .int .u64 lA, .int .u32 rA, .bool gA]]) (by simp [results, Try.results36, go_sem, r0, r1, r2, r3]) rfl ⟨by first | exact rfl | (rw [if_pos (by rfl)]; exact rfl), below_store hB _ _ _ _⟩)
          | false =>
            go_wp2_with fail
            go_region
            go_wp2
            exact bodyPost_ret (v := .tuple #[.bool false, .agg #[.string hd, .int .u64 l, .int .u32 rf, .bool g]]) (by simp [results, Try.results36, go_sem, r0, r1, r2, r3]) rfl ⟨by first | exact rfl | (rw [if_neg (by decide)]; exact rfl), (below_store hB _ _ _ _).drew⟩
        | false =>
          cases mt with
          | true =>
            go_wp2_with fail
            go_region
            go_wp2
            exact bodyPost_ret (v := .tuple #[.bool false, .agg #[.string hd, .int .u64 l, .int .u32 rf, .bool g]]) (by simp [results, Try.results36, go_sem, r0, r1, r2, r3]) rfl ⟨by first | exact rfl | (rw [if_neg (by decide)]; exact rfl), (below_store hB _ _ _ _).drew⟩
          | false =>
            go_wp2_with fail
            go_region
            go_wp2
            exact bodyPost_ret (v := .tuple #[.bool true, .agg #[.string hd, .int .u64 l, .int .u32 rf, .bool g]]) (by simp [results, Try.results36, go_sem, r0, r1, r2, r3]) rfl ⟨by first | exact rfl | (rw [if_neg (by decide)]; exact rfl), (below_store hB _ _ _ _).drew⟩
      | false =>
        cases re with
        | true =>
          cases mt with
          | true =>
            have H := hide (fun w => H35.out rfl w)
            go_wp2_with fail
            go_region_with (go_at_call 35; refine (unhide H _).mono ?_; rintro e w1 ⟨rfl, hb⟩; have hst1 := HS.out.keep hb; clear hB hz b0 b1 b2 b3 r0 r1 r2 r3 f0 f1 f2 f3 hlt o1 o2 o7 o8 o9 o10 o11 hb; obtain ⟨hB, hz, ⟨b0, b1, b2, b3⟩, ⟨r0, r1, r2, r3⟩, ⟨f0, f1, f2, f3⟩, ⟨hlt, o1, o2, o7, o8, o9, o10, o11⟩, -⟩ := hst1)
            all_goals (go_wp2; exact bodyPost_ret (v := .tuple #[.bool true, .agg #[.string hA, .int .u64 lA, .int .u32 rA, .bool gA]]) (by simp [results, Try.results36, go_sem, r0, r1, r2, r3]) rfl ⟨by first | exact rfl | (rw [if_pos (by rfl)]; exact rfl), below_store hB _ _ _ _⟩)
          | false =>
            go_wp2_with fail
            go_region
            go_wp2
            exact bodyPost_ret (v := .tuple #[.bool true, .agg #[.string hd, .int .u64 l, .int .u32 rf, .bool g]]) (by simp [results, Try.results36, go_sem, r0, r1, r2, r3]) rfl ⟨by first | exact rfl | (rw [if_neg (by decide)]; exact rfl), (below_store hB _ _ _ _).drew⟩
        | false =>
          cases mt with
          | true =>
            have H := hide (fun w => H35.out rfl w)
            go_wp2_with fail
            go_region_with (go_at_call 35; refine (unhide H _).mono ?_; rintro e w1 ⟨rfl, hb⟩; have hst1 := HS.out.keep hb; clear hB hz b0 b1 b2 b3 r0 r1 r2 r3 f0 f1 f2 f3 hlt o1 o2 o7 o8 o9 o10 o11 hb; obtain ⟨hB, hz, ⟨b0, b1, b2, b3⟩, ⟨r0, r1, r2, r3⟩, ⟨f0, f1, f2, f3⟩, ⟨hlt, o1, o2, o7, o8, o9, o10, o11⟩, -⟩ := hst1)
            all_goals (go_wp2; exact bodyPost_ret (v := .tuple #[.bool true, .agg #[.string hA, .int .u64 lA, .int .u32 rA, .bool gA]]) (by simp [results, Try.results36, go_sem, r0, r1, r2, r3]) rfl ⟨by first | exact rfl | (rw [if_pos (by rfl)]; exact rfl), below_store hB _ _ _ _⟩)
          | false =>
            go_wp2_with fail
            go_region
            go_wp2
            exact bodyPost_ret (v := .tuple #[.bool true, .agg #[.string hd, .int .u64 l, .int .u32 rf, .bool g]]) (by simp [results, Try.results36, go_sem, r0, r1, r2, r3]) rfl ⟨by first | exact rfl | (rw [if_neg (by decide)]; exact rfl), (below_store hB _ _ _ _).drew⟩

end Go.Proofs.Qxb6600199a
