/-
  slices.Index, slices.Contains (functions 14, 13) at a slice of strings.
-/
import Derived.Test.Qxb6600155aTwB
namespace Go.Proofs.Qxb6600155a
open Go.RowKit

/-- What slices.Index answers, as far as slices.Contains looks: not negative just if the string is there. -/
def IdxEnd (e : Ending) (ss : List ByteArray) (v : ByteArray) : Prop := ∃ r : Int, e = .returned (.int .i64 r) ∧ (0 ≤ r ↔ v ∈ ss)

theorem mem_take_succ {ss : List ByteArray} {k : Nat} (h : k < ss.length) (v : ByteArray) : v ∈ ss.take (k + 1) ↔ v ∈ ss.take k ∨ v = ss.getD k ByteArray.empty := by
  rw [List.take_succ_eq_append_getElem h, List.mem_append]
  simp [List.getD, List.getElem?_eq_getElem h]

theorem str_eq {a b : ByteArray} (h : (a.toList == b.toList) = true) : a = b := by
  rw [ByteArray.toList_eq, ByteArray.toList_eq, beq_iff_eq] at h
  exact ByteArray.ext (Array.toList_inj.1 h)
theorem str_ne {a b : ByteArray} (h : (a.toList == b.toList) = false) : a ≠ b := by
  rintro rfl
  simp at h

theorem getD_mem {ss : List ByteArray} {k : Nat} (h : k < ss.length) : ss.getD k ByteArray.empty ∈ ss := by
  simp [List.getD, List.getElem?_eq_getElem h]

set_option maxHeartbeats 400000 in
theorem index_any (b off c : Nat) (ss : List ByteArray) (v : ByteArray) (w : World) (hc : Strs w b off ss) (hn : ss.length ≤ 65536) :
    Calls Try.prog 14 #[.slice (some ⟨b, off, none⟩) ss.length c, .string v] w fun e w' => IdxEnd e ss v ∧ w' = w := by
  obtain ⟨n, hnn⟩ : ∃ n, n = ss.length := ⟨_, rfl⟩
  rw [← hnn] at hn ⊢
  have HN : Hid (n = ss.length) := hnn
  clear hnn
  go_enter Try.func14, Try.ntmps14
  go_wp2
  go_loop [8] (fun i => ∃ k : Nat, k ≤ n ∧ i = .int .i64 k ∧ Hid (v ∉ ss.take k)) (fun i => n - (intOf i).toNat)
  case atStart => exact ⟨0, Nat.zero_le _, rfl, by simp [Hid]⟩
  case round =>
    obtain ⟨k, hk, rfl, hnot⟩ := hrel
    by_cases hlt : k < n
    · have hkl : k < ss.length := by rw [← HN.out]; exact hlt
      have hcx := hc.2 k hkl
      have HM : Hid (v ∈ ss.take (k + 1) ↔ v ∈ ss.take k ∨ v = ss.getD k ByteArray.empty) := mem_take_succ hkl v
      have HG : Hid (ss.getD k ByteArray.empty ∈ ss) := getD_mem hkl
      obtain ⟨s, hs'⟩ : ∃ s, s = ss.getD k ByteArray.empty := ⟨_, rfl⟩
      rw [← hs'] at hcx HM HG
      clear hs' hkl
      go_wp2
      · have he : (v.toList == s.toList) = true := by assumption
        go_ret
        refine ⟨⟨k, rfl, ⟨fun _ => ?_, fun _ => by omega⟩⟩, rfl⟩
        rw [str_eq he]; exact HG.out
      · have he : (v.toList == s.toList) = false := by assumption
        go_round
        case rel => exact ⟨k + 1, by omega, by go_num, fun hm => by
          rcases HM.out.1 hm with h | h
          · exact hnot.out h
          · exact str_ne he h⟩
        case measure => simp [intOf]; omega
    · have hkn : ss.take k = ss := List.take_of_length_le (by rw [← HN.out]; omega)
      have HK : Hid (v ∉ ss) := by have := hnot.out; rwa [hkn] at this
      clear hkn hnot
      go_wp2
      go_ret
      exact ⟨⟨-1, rfl, ⟨fun h => absurd h (by decide), fun h => absurd h HK.out⟩⟩, rfl⟩

set_option maxHeartbeats 400000 in
theorem contains_yes (b off c : Nat) (ss : List ByteArray) (v : ByteArray) (w : World) (hc : Strs w b off ss) (hn : ss.length ≤ 65536) (hv : Hid (v ∈ ss)) :
    Calls Try.prog 13 #[.slice (some ⟨b, off, none⟩) ss.length c, .string v] w fun e w' => e = .returned (.bool true) ∧ w' = w := by
  go_enter Try.func13, Try.ntmps13
  go_wp2_with fail
  refine (index_any b off c ss v _ hc hn).mono ?_
  rintro e w' ⟨⟨r, rfl, hr⟩, rfl⟩
  have hr0 : 0 ≤ r := hr.2 hv.out
  clear hr
  go_wp2
  go_ret
  exact ⟨by simp, rfl⟩

set_option maxHeartbeats 400000 in
theorem contains_no (b off c : Nat) (ss : List ByteArray) (v : ByteArray) (w : World) (hc : Strs w b off ss) (hn : ss.length ≤ 65536) (hv : Hid (v ∉ ss)) :
    Calls Try.prog 13 #[.slice (some ⟨b, off, none⟩) ss.length c, .string v] w fun e w' => e = .returned (.bool false) ∧ w' = w := by
  go_enter Try.func13, Try.ntmps13
  go_wp2_with fail
  refine (index_any b off c ss v _ hc hn).mono ?_
  rintro e w' ⟨⟨r, rfl, hr⟩, rfl⟩
  have hr0 : ¬ 0 ≤ r := fun h => hv.out (hr.1 h)
  clear hr
  go_wp2
  go_ret
  exact ⟨by simp [hr0], rfl⟩

end Go.Proofs.Qxb6600155a
