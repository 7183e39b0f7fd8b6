/-
  The walks of the bounds and of the copy: functions 11 (the bytes' bound), 7 (the list fits), 8 (the copy), 14 and 13 (slices.Index, slices.Contains).
-/
import Derived.Test.Qxb6600155aRows
import Derived.WalkKit
import Derived.WalkSpells
import Derived.WalkLawsBesides
namespace Go.Proofs.Qxb6600155a
open Go.RowKit

/-- What a walk is told of a slice of strings: its first n cells hold the strings of ss. -/
def Strs (w : World) (b off : Nat) (ss : List ByteArray) : Prop :=
  b < w.heap.size ∧ ∀ j, j < ss.length → w.cell? ⟨b, off + j, none⟩ = some (.string (ss.getD j ByteArray.empty))

/-- The call returned some bool. -/
def RetB (e : Ending) : Prop := ∃ r : Bool, e = .returned (.bool r)
theorem RetB.mk {e : Ending} (r : Bool) (h : e = .returned (.bool r)) : RetB e := ⟨r, h⟩

set_option maxHeartbeats 400000 in
theorem bytes_empty (a : Option Addr) (c : Nat) (i : Int) (w : World) :
    Calls Try.prog 11 #[.slice a 0 c, .int .i64 i] w fun e w' => RetB e ∧ w' = w := by
  go_enter Try.func11, Try.ntmps11
  go_wp2
  refine wp_loop_rounds 1 ?_
  rw [rounds_succ]
  go_wp2
  go_ret
  exact ⟨.mk _ rfl, rfl⟩

set_option maxHeartbeats 400000 in
theorem bytes_any (b off c : Nat) (i : Int) (ss : List ByteArray) (w : World) (hc : Strs w b off ss)
    (hn : ss.length ≤ 140737488351232) (hs : ∀ j, (ss.getD j ByteArray.empty).size ≤ 9223372036854775807) :
    Calls Try.prog 11 #[.slice (some ⟨b, off, none⟩) ss.length c, .int .i64 i] w fun e w' => RetB e ∧ w' = w := by
  obtain ⟨n, hnn⟩ : ∃ n, n = ss.length := ⟨_, rfl⟩
  rw [← hnn] at hn ⊢
  have HN : Hid (n = ss.length) := hnn
  have HS : Hid (∀ j, (ss.getD j ByteArray.empty).size ≤ 9223372036854775807) := hs
  clear hnn hs
  by_cases hb : n ≤ 1048576
  · go_enter Try.func11, Try.ntmps11
    go_wp2
    go_loop [5, 6] (fun t i => ∃ (k : Nat) (m : Nat), k ≤ n ∧ m ≤ 1048576 ∧ i = .int .i64 k ∧ t = .int .i64 m) (fun _ i => n - (intOf i).toNat)
    case atStart => exact ⟨0, n, Nat.zero_le _, hb, rfl, rfl⟩
    case round =>
      obtain ⟨k, m, hk, hm, rfl, rfl⟩ := hrel
      by_cases hlt : k < n
      · have hcx := hc.2 k (by rw [← HN.out]; exact hlt)
        have hsx := HS.out k
        obtain ⟨s, hs'⟩ : ∃ s, s = ss.getD k ByteArray.empty := ⟨_, rfl⟩
        rw [← hs'] at hcx hsx
        clear hs'
        by_cases h1 : s.size ≤ 1048576
        · by_cases h2 : m + s.size ≤ 1048576
          · go_wp2
            go_round
            case rel => exact ⟨k + 1, m + s.size, by omega, h2, by go_num, by go_num⟩
            case measure => simp [intOf]; omega
          · go_wp2
            go_ret
            exact ⟨.mk _ rfl, rfl⟩
        · go_wp2
          go_ret
          exact ⟨.mk _ rfl, rfl⟩
      · go_wp2
        go_ret
        exact ⟨.mk _ rfl, rfl⟩
  · go_enter Try.func11, Try.ntmps11
    go_wp2
    go_ret
    exact ⟨.mk _ rfl, rfl⟩

set_option maxHeartbeats 400000 in
theorem fits_any (b off c : Nat) (ss : List ByteArray) (w : World) (hc : Strs w b off ss)
    (hn : ss.length ≤ 65536) (hs : ∀ j, (ss.getD j ByteArray.empty).size ≤ 9223372036854775807) :
    Calls Try.prog 7 #[.slice (some ⟨b, off, none⟩) ss.length c] w fun e w' => RetB e ∧ w' = w := by
  obtain ⟨n, hnn⟩ : ∃ n, n = ss.length := ⟨_, rfl⟩
  rw [← hnn] at hn ⊢
  have HN : Hid (n = ss.length) := hnn
  have HS : Hid (∀ j, (ss.getD j ByteArray.empty).size ≤ 9223372036854775807) := hs
  clear hnn hs
  go_enter Try.func7, Try.ntmps7
  go_wp2
  go_loop [3, 4] (fun t i => ∃ (k : Nat) (m : Nat), k ≤ n ∧ m ≤ 1048576 ∧ i = .int .i64 k ∧ t = .int .i64 m) (fun _ i => n - (intOf i).toNat)
  case atStart => exact ⟨0, 16 * n, Nat.zero_le _, by omega, rfl, by go_num⟩
  case round =>
    obtain ⟨k, m, hk, hm, rfl, rfl⟩ := hrel
    by_cases hlt : k < n
    · have hcx := hc.2 k (by rw [← HN.out]; exact hlt)
      have hsx := HS.out k
      obtain ⟨s, hs'⟩ : ∃ s, s = ss.getD k ByteArray.empty := ⟨_, rfl⟩
      rw [← hs'] at hcx hsx
      clear hs'
      by_cases h1 : s.size ≤ 1048576
      · by_cases h2 : m + s.size ≤ 1048576
        · go_wp2
          go_round
          case rel => exact ⟨k + 1, m + s.size, by omega, h2, by go_num, by go_num⟩
          case measure => simp [intOf]; omega
        · go_wp2
          go_ret
          exact ⟨.mk _ rfl, rfl⟩
      · go_wp2
        go_ret
        exact ⟨.mk _ rfl, rfl⟩
    · go_wp2
      go_ret
      exact ⟨.mk _ rfl, rfl⟩

end Go.Proofs.Qxb6600155a
