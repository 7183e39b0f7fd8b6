/-
  ZZStepShared (25), and stepShared over a row of shares.
-/
import Derived.Test.Qxb6600199aShO
import Derived.Test.Qxb6600199aShP
namespace Go.Proofs.Qxb6600199a
open Go.RowKit

def StepFive (e : Ending) (ok : Bool) (h : ByteArray) (l rf : Int) (g : Bool) : Prop := e = .returned (.tuple #[.bool ok, .string h, .int .u64 l, .int .u32 rf, .bool g])

set_option maxHeartbeats 1000000 in
theorem door25 (h : ByteArray) (l rf : Int) (g : Bool) (a : Nat) (w : World) (P : Bool → ByteArray → Int → Int → Bool → Prop)
    (HC : Hid (Calls Try.prog 36 #[.agg #[.string h, .int .u64 l, .int .u32 rf, .bool g], .pointer (some ⟨a, 0, none⟩)] w fun e w' => (∃ ok h' l' rf' g', StepRet e ok h' l' rf' g' ∧ P ok h' l' rf' g') ∧ Below w.heap.size w w')) :
    Calls Try.prog 25 #[.string h, .int .u64 l, .int .u32 rf, .bool g, .pointer (some ⟨a, 0, none⟩)] w fun e w' => (∃ ok h' l' rf' g', StepFive e ok h' l' rf' g' ∧ P ok h' l' rf' g') ∧ Below w.heap.size w w' := by
  go_enter Try.func25, Try.ntmps25
  go_wp2_with fail
  refine (unhide HC).mono ?_
  rintro e w1 ⟨⟨ok, h', l', rf', g', rfl, hp⟩, hb⟩
  have HP := hide hp
  clear hp HC
  go_wp2
  go_quiet (fail)
  go_wp2
  exact bodyPost_ret (v := .tuple #[.bool ok, .string h', .int .u64 l', .int .u32 rf', .bool g']) (by simp [results, Try.results25, go_sem]) rfl ⟨⟨ok, h', l', rf', g', rfl, HP.out⟩, below_drewN (hb.alloc hb.size _) _⟩

def encB (S : List Sh) : ByteArray := ⟨(enc S).toArray⟩
theorem isRow_encB {S : List Sh} (hw : WF S) (hs : Srt S) (hl : 12 * S.length ≤ 2097152) : IsRow (encB S) S := by
  refine ⟨?_, hw, hs, ?_⟩
  · simp [encB]
  · show (enc S).toArray.size ≤ _
    rw [List.size_toArray, enc_length hw]
    exact hl
theorem IsRow.encB {h : ByteArray} {S : List Sh} (r : IsRow h S) : h = encB S := isRow_ext r (isRow_encB r.wf r.srt (by rw [← r.size]; exact r.small))

/-- What the callees answer over a row. -/
theorem row_sharable (h : ByteArray) (l rf : Int) (g : Bool) (nm : ByteArray) (S : List Sh) (w : World) (hr : IsRow h S) (hn : nm.size = 4) :
    Calls Try.prog 43 #[.agg #[.string h, .int .u64 l, .int .u32 rf, .bool g], .string nm] w fun e w' => e = .returned (.bool (!foundAt S nm.data.toList)) ∧ Below w.heap.size w w' := by
  by_cases hS : S = []
  · subst hS
    have h0 : h.size = 0 := by rw [hr.size]; rfl
    have he : h.toList.isEmpty = true := by rw [ByteArray.toList_eq, hr.eq]; rfl
    exact sharable_free h l rf g nm 0 false w he (fun w => shareAt_none h l rf g nm w (by omega))
  · have hz := hr.size
    have hp := List.length_pos_iff.2 hS
    have he : h.toList.isEmpty = false := by
      cases hh : h.toList.isEmpty
      · rfl
      · have := isEmpty_size hh; omega
    have := sharable_held h l rf g nm _ _ true w he (by simp; omega) (fun w => shareAt_any h l rf g nm S w hr hS hn)
    simpa using this

theorem row_without (h : ByteArray) (l rf : Int) (g : Bool) (nm : ByteArray) (S : List Sh) (w : World) (hr : IsRow h S) (hn : nm.size = 4) (hf : foundAt S nm.data.toList = true) :
    Calls Try.prog 35 #[.agg #[.string h, .int .u64 l, .int .u32 rf, .bool g], .string nm] w fun e w' => e = .returned (.agg #[.string (encB (rem S nm.data.toList)), .int .u64 l, .int .u32 0, .bool false]) ∧ Below w.heap.size w w' := by
  refine (withoutShare_row h l rf g nm S w hr hn hf).mono ?_
  rintro e w' ⟨h', hr', rfl, hb⟩
  obtain rfl := hr'.encB
  exact ⟨rfl, hb⟩

theorem row_with (h : ByteArray) (l rf : Int) (g : Bool) (nm : ByteArray) (t : Nat) (S : List Sh) (w : World) (hr : IsRow h S) (hn : nm.size = 4) (ht : t < 18446744073709551616) (hf : foundAt S nm.data.toList = false) (hsm : h.size + 12 ≤ 2097152) :
    Calls Try.prog 32 #[.agg #[.string h, .int .u64 l, .int .u32 rf, .bool g], .string nm, .int .u64 t] w fun e w' => e = .returned (.agg #[.string (encB (ins S nm.data.toList t)), .int .u64 t, .int .u32 0, .bool false]) ∧ Below w.heap.size w w' := by
  refine (withShare_row h l rf g nm t S w hr hn ht hf hsm).mono ?_
  rintro e w' ⟨h', hr', hs', rfl, hb⟩
  obtain rfl := hr'.encB
  exact ⟨rfl, hb⟩

/-- The token that the operation names is the share's own. -/
def own (S : List Sh) (nm : List UInt8) (t : Nat) : Bool := foundAt S nm && ((tokOr S nm : Int) == (t : Int))

theorem row_release (h : ByteArray) (l rf : Int) (g : Bool) (a : Nat) (nm kd : ByteArray) (an ac re sh : Bool) (t : Nat) (S : List Sh) (w : World) (hr : IsRow h S) (hn : nm.size = 4) (ho : OpAt w a nm kd an ac re sh t) (hk : (kd.toList == [114, 101, 108, 101, 97, 115, 101]) = true) :
    Calls Try.prog 36 #[.agg #[.string h, .int .u64 l, .int .u32 rf, .bool g], .pointer (some ⟨a, 0, none⟩)] w fun e w' =>
      (if ((!an || re) && own S nm.data.toList t) = true then StepRet e true (encB (rem S nm.data.toList)) l 0 false else StepRet e (!an || (!re && !own S nm.data.toList t)) h l rf g) ∧ Below w.heap.size w w' :=
  step_release h l rf g a nm kd an ac re sh t (tokOr S nm.data.toList) (foundAt S nm.data.toList) _ _ w ho rfl rfl hk _ _ _ _ (hide fun w => shareOf_row h l rf g nm S w hr hn)
    (hide fun hm w => row_without h l rf g nm S w hr hn (by simp at hm; exact hm.1))

/-- A share may be granted. -/
def grt (S : List Sh) (nm : List UInt8) (sh : Bool) (l : Int) (t : Nat) : Bool := sh && !foundAt S nm && decide (l < (t : Int))

theorem row_acquire (h : ByteArray) (l rf : Int) (g : Bool) (a : Nat) (nm kd : ByteArray) (an ac re sh : Bool) (t : Nat) (S : List Sh) (w : World) (hr : IsRow h S) (hn : nm.size = 4) (ht : t < 18446744073709551616) (hsm : h.size + 12 ≤ 2097152) (ho : OpAt w a nm kd an ac re sh t) (hk : (kd.toList == [114, 101, 108, 101, 97, 115, 101]) = false) :
    Calls Try.prog 36 #[.agg #[.string h, .int .u64 l, .int .u32 rf, .bool g], .pointer (some ⟨a, 0, none⟩)] w fun e w' =>
      (if ((!an || ac) && grt S nm.data.toList sh l t) = true then StepRet e true (encB (ins S nm.data.toList t)) t 0 false
       else StepRet e (!an || ((!ac && (!h.toList.isEmpty && !(h.toList == nm.toList) && !foundAt S nm.data.toList)) || (ac && (sh && foundAt S nm.data.toList && ((tokOr S nm.data.toList : Int) == (t : Int)))))) h l rf g) ∧ Below w.heap.size w w' :=
  step_acquire h l rf g a nm kd an ac re sh t (tokOr S nm.data.toList) (foundAt S nm.data.toList) _ (!foundAt S nm.data.toList) _ (grt S nm.data.toList sh l t) _ _ w ho rfl rfl rfl rfl rfl hk _ _ _ _ (hide fun w => shareOf_row h l rf g nm S w hr hn)
    (hide fun w => row_sharable h l rf g nm S w hr hn)
    (hide fun hm w => row_with h l rf g nm t S w hr hn ht (by unfold grt at hm; simp at hm; simpa using hm.1.2) hsm)

end Go.Proofs.Qxb6600199a
