/-
  The case table's callees: the bytes' bound (24), ZZStepShared (25) in the holder's two views.
-/
import Derived.Test.Qxb6600199aShQ
import Derived.Test.Qxb6600199aShY
namespace Go.Proofs.Qxb6600199a
open Go.RowKit

set_option maxHeartbeats 1000000 in
theorem bytes24_yes (h nm kd : ByteArray) (l rf t : Int) (g an ac re sh : Bool) (w : World) (hs : h.size + nm.size + kd.size ≤ 1048576) :
    Calls Try.prog 24 #[.string h, .int .u64 l, .int .u32 rf, .bool g, .string nm, .string kd, .bool an, .bool ac, .bool re, .bool sh, .int .u64 t] w fun e w' => e = .returned (.bool true) ∧ w' = w := by
  go_enter Try.func24, Try.ntmps24
  go_wp2
  go_ret
  exact ⟨rfl, rfl⟩
set_option maxHeartbeats 1000000 in
theorem bytes24_no (h nm kd : ByteArray) (l rf t : Int) (g an ac re sh : Bool) (w : World) (h1 : h.size ≤ 9223372036854775807) (h2 : nm.size ≤ 9223372036854775807) (h3 : kd.size ≤ 9223372036854775807) (hs : ¬ h.size + nm.size + kd.size ≤ 1048576) :
    Calls Try.prog 24 #[.string h, .int .u64 l, .int .u32 rf, .bool g, .string nm, .string kd, .bool an, .bool ac, .bool re, .bool sh, .int .u64 t] w fun e w' => e = .returned (.bool false) ∧ w' = w := by
  by_cases q1 : h.size ≤ 1048576
  · by_cases q2 : nm.size ≤ 1048576
    · by_cases q3 : h.size + nm.size ≤ 1048576
      · by_cases q4 : kd.size ≤ 1048576
        · go_enter Try.func24, Try.ntmps24
          go_wp2
          go_ret
          exact ⟨rfl, rfl⟩
        · go_enter Try.func24, Try.ntmps24
          go_wp2
          go_ret
          exact ⟨rfl, rfl⟩
      · go_enter Try.func24, Try.ntmps24
        go_wp2
        go_ret
        exact ⟨rfl, rfl⟩
    · go_enter Try.func24, Try.ntmps24
      go_wp2
      go_ret
      exact ⟨rfl, rfl⟩
  · go_enter Try.func24, Try.ntmps24
    go_wp2
    go_ret
    exact ⟨rfl, rfl⟩

/-- The holder, seen as a row (free or shared), or held exclusive (no share). -/
def View (h : ByteArray) (S : List Sh) : Prop := IsRow h S ∨ (h.size = 4 ∧ S = [])
/-- May the session be given a share? -/
def shb (h : ByteArray) (S : List Sh) (nm : List UInt8) : Bool := if h.size = 4 then false else !foundAt S nm
def grn (h : ByteArray) (S : List Sh) (nm : List UInt8) (sh : Bool) (l : Int) (t : Nat) : Bool := sh && shb h S nm && decide (l < (t : Int))

theorem IsRow.not4 {h : ByteArray} {S : List Sh} (r : IsRow h S) : h.size ≠ 4 := by
  have := r.size
  omega

theorem view_release (h : ByteArray) (l rf : Int) (g : Bool) (a : Nat) (nm kd : ByteArray) (an ac re sh : Bool) (t : Nat) (S : List Sh) (w : World) (hv : View h S) (hn : nm.size = 4) (ho : OpAt w a nm kd an ac re sh t) (hk : (kd.toList == [114, 101, 108, 101, 97, 115, 101]) = true) :
    Calls Try.prog 36 #[.agg #[.string h, .int .u64 l, .int .u32 rf, .bool g], .pointer (some ⟨a, 0, none⟩)] w fun e w' =>
      (if ((!an || re) && own S nm.data.toList t) = true then StepRet e true (encB (rem S nm.data.toList)) l 0 false else StepRet e (!an || (!re && !own S nm.data.toList t)) h l rf g) ∧ Below w.heap.size w w' := by
  rcases hv with hr | ⟨h4, rfl⟩
  · exact row_release h l rf g a nm kd an ac re sh t S w hr hn ho hk
  · exact step_release h l rf g a nm kd an ac re sh t 0 false _ _ w ho rfl rfl hk _ _ _ _ (hide fun w => shareOf_excl h l rf g nm w (by omega)) (hide fun hm w => by simp at hm)

theorem view_acquire (h : ByteArray) (l rf : Int) (g : Bool) (a : Nat) (nm kd : ByteArray) (an ac re sh : Bool) (t : Nat) (S : List Sh) (w : World) (hv : View h S) (hn : nm.size = 4) (ht : t < 18446744073709551616) (hsm : h.size + 12 ≤ 2097152) (ho : OpAt w a nm kd an ac re sh t) (hk : (kd.toList == [114, 101, 108, 101, 97, 115, 101]) = false) :
    Calls Try.prog 36 #[.agg #[.string h, .int .u64 l, .int .u32 rf, .bool g], .pointer (some ⟨a, 0, none⟩)] w fun e w' =>
      (if ((!an || ac) && grn h S nm.data.toList sh l t) = true then StepRet e true (encB (ins S nm.data.toList t)) t 0 false
       else StepRet e (!an || ((!ac && (!h.toList.isEmpty && !(h.toList == nm.toList) && !foundAt S nm.data.toList)) || (ac && (sh && foundAt S nm.data.toList && ((tokOr S nm.data.toList : Int) == (t : Int)))))) h l rf g) ∧ Below w.heap.size w w' := by
  rcases hv with hr | ⟨h4, rfl⟩
  · have e : grn h S nm.data.toList sh l t = grt S nm.data.toList sh l t := by unfold grn grt shb; rw [if_neg hr.not4]
    rw [e]
    exact row_acquire h l rf g a nm kd an ac re sh t S w hr hn ht hsm ho hk
  · have e : grn h [] nm.data.toList sh l t = false := by unfold grn shb; rw [if_pos h4]; simp
    rw [e]
    have he : h.toList.isEmpty = false := by
      cases hh : h.toList.isEmpty
      · rfl
      · have := isEmpty_size hh; omega
    have hs : Hid (∀ w, Calls Try.prog 43 #[.agg #[.string h, .int .u64 l, .int .u32 rf, .bool g], .string nm] w fun e w' => e = .returned (.bool false) ∧ Below w.heap.size w w') := hide fun w => by
      have := sharable_held h l rf g nm 0 false false w he (by simp; omega) (fun w => shareAt_none h l rf g nm w (by omega))
      simpa using this
    exact step_acquire h l rf g a nm kd an ac re sh t 0 false _ false _ false _ _ w ho rfl rfl (by simp) rfl rfl hk _ _ _ _ (hide fun w => shareOf_excl h l rf g nm w (by omega)) hs (hide fun hm w => by cases hm)

end Go.Proofs.Qxb6600199a
