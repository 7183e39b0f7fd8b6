/-
  withShare on a row; the doors ZZWithShare (18), ZZShareOf (21), ZZWithoutShare (22).
-/
import Derived.Test.Qxb6600199aShH
namespace Go.Proofs.Qxb6600199a
open Go.RowKit

theorem isRow_nil {h : ByteArray} (hh : h.size = 0) : IsRow h [] := by
  refine ⟨List.eq_nil_of_length_eq_zero (by rw [Array.length_toList]; exact hh), by simp [WF], by simp [Srt], by omega⟩

theorem withShare_row (h : ByteArray) (l rf : Int) (g : Bool) (nm : ByteArray) (t : Nat) (S : List Sh) (w : World) (hr : IsRow h S) (hn : nm.size = 4) (ht : t < 18446744073709551616) (hf : foundAt S nm.data.toList = false) (hsm : h.size + 12 ≤ 2097152) :
    Calls Try.prog 32 #[.agg #[.string h, .int .u64 l, .int .u32 rf, .bool g], .string nm, .int .u64 t] w fun e w' => ∃ h', IsRow h' (ins S nm.data.toList t) ∧ h'.size = h.size + 12 ∧
      e = .returned (.agg #[.string h', .int .u64 t, .int .u32 0, .bool false]) ∧ Below w.heap.size w w' := by
  have hn4 : nm.data.toList.length = 4 := by rw [Array.length_toList]; exact hn
  obtain ⟨g1, g2⟩ := ins_good hr.wf hr.srt hn4 hf t
  by_cases hS : S = []
  · subst hS
    have h0 : h.size = 0 := by rw [hr.size]; rfl
    refine (withShare_free h l rf g nm t 0 false w (by omega) hn ht (fun w => shareAt_none h l rf g nm w (by omega))).mono fun e w' ⟨he, hb⟩ => ⟨_, ⟨?_, g1, g2, ?_⟩, ?_, he, hb⟩
    · simp [ins, lo, hi, enc, encS]
    · show (nm.data.toList ++ be8 t).toArray.size ≤ _
      rw [List.size_toArray, List.length_append, be8_length, hn4]; omega
    · show (nm.data.toList ++ be8 t).toArray.size = _
      rw [List.size_toArray, List.length_append, be8_length, hn4]; omega
  · have hsz := hr.size
    have hpos : 0 < S.length := List.length_pos_iff.2 hS
    have hle := rk_le S nm.data.toList
    refine (withShare_shared h l rf g nm t (12 * rk S nm.data.toList) _ w (by omega) hr.small (by omega) hn ht (fun w => shareAt_any h l rf g nm S w hr hS hn)).mono fun e w' ⟨he, hb⟩ => ?_
    have e1 : h.data.toList.take (12 * rk S nm.data.toList) ++ nm.data.toList ++ be8 t ++ h.data.toList.drop (12 * rk S nm.data.toList) = enc (ins S nm.data.toList t) := by
      rw [hr.eq, (enc_split hr.wf _ hle).1, (enc_split hr.wf _ hle).2]
      unfold ins
      rw [(lo_take S nm.data.toList).1, (lo_take S nm.data.toList).2, enc_append, enc_cons]
      simp [encS]
    have e2 : (enc (ins S nm.data.toList t)).length = h.size + 12 := by rw [enc_length g1, ins_length, hsz]; omega
    rw [e1] at he
    refine ⟨_, ⟨by simp, g1, g2, ?_⟩, ?_, he, hb⟩
    · show (enc (ins S nm.data.toList t)).toArray.size ≤ _
      rw [List.size_toArray, e2]; exact hsm
    · show (enc (ins S nm.data.toList t)).toArray.size = _
      rw [List.size_toArray, e2]

set_option maxHeartbeats 1000000 in
theorem doorWith (h : ByteArray) (l rf : Int) (g : Bool) (nm : ByteArray) (t : Nat) (S : List Sh) (w : World) (hr : IsRow h S) (hn : nm.size = 4) (ht : t < 18446744073709551616) (hf : foundAt S nm.data.toList = false) (hsm : h.size + 12 ≤ 2097152) :
    Calls Try.prog 18 #[.string h, .int .u64 l, .int .u32 rf, .bool g, .string nm, .int .u64 t] w fun e w' => ∃ h', IsRow h' (ins S nm.data.toList t) ∧ h'.size = h.size + 12 ∧
      e = .returned (.tuple #[.string h', .int .u64 t, .int .u32 0, .bool false]) ∧ Below w.heap.size w w' := by
  have HC := hide (withShare_row h l rf g nm t S w hr hn ht hf hsm)
  clear hr hn hf hsm
  go_enter Try.func18, Try.ntmps18
  go_wp2_with fail
  refine (unhide HC).mono ?_
  rintro e w1 ⟨h', hr', hs', rfl, hb⟩
  have H1 := hide hr'
  have H2 := hide hs'
  clear hr' hs' HC
  go_wp2
  go_quiet (fail)
  go_wp2
  exact bodyPost_ret (v := .tuple #[.string h', .int .u64 t, .int .u32 0, .bool false]) (by simp [results, Try.results18, go_sem]) rfl ⟨h', H1.out, H2.out, rfl, below_drewN (hb.alloc hb.size _) _⟩

set_option maxHeartbeats 1000000 in
theorem doorOf (h : ByteArray) (l rf : Int) (g : Bool) (nm : ByteArray) (S : List Sh) (w : World) (hr : IsRow h S) (hn : nm.size = 4) :
    Calls Try.prog 21 #[.string h, .int .u64 l, .int .u32 rf, .bool g, .string nm] w fun e w' =>
      e = .returned (.tuple #[.int .u64 (tokOr S nm.data.toList : Int), .bool (foundAt S nm.data.toList)]) ∧ Below w.heap.size w w' := by
  have HC := hide (shareOf_row h l rf g nm S w hr hn)
  clear hr hn
  generalize (tokOr S nm.data.toList : Int) = z at HC ⊢
  generalize foundAt S nm.data.toList = fb at HC ⊢
  go_enter Try.func21, Try.ntmps21
  go_wp2_with fail
  refine (unhide HC).mono ?_
  rintro e w1 ⟨rfl, hb⟩
  go_wp2
  go_ret2
  exact ⟨rfl, hb⟩

set_option maxHeartbeats 1000000 in
theorem doorWithout (h : ByteArray) (l rf : Int) (g : Bool) (nm : ByteArray) (S : List Sh) (w : World) (hr : IsRow h S) (hn : nm.size = 4) (hf : foundAt S nm.data.toList = true) :
    Calls Try.prog 22 #[.string h, .int .u64 l, .int .u32 rf, .bool g, .string nm] w fun e w' => ∃ h', IsRow h' (rem S nm.data.toList) ∧
      e = .returned (.tuple #[.string h', .int .u64 l, .int .u32 0, .bool false]) ∧ Below w.heap.size w w' := by
  have HC := hide (withoutShare_row h l rf g nm S w hr hn hf)
  clear hr hn hf
  go_enter Try.func22, Try.ntmps22
  go_wp2_with fail
  refine (unhide HC).mono ?_
  rintro e w1 ⟨h', hr', rfl, hb⟩
  have H1 := hide hr'
  clear hr' HC
  go_wp2
  go_quiet (fail)
  go_wp2
  exact bodyPost_ret (v := .tuple #[.string h', .int .u64 l, .int .u32 0, .bool false]) (by simp [results, Try.results22, go_sem]) rfl ⟨h', H1.out, rfl, below_drewN (hb.alloc hb.size _) _⟩

end Go.Proofs.Qxb6600199a
