/-
  wireB1ParseWrapped (function 11) at two and three digits.
-/
import Derived.Test.Qxb6600155aDoorVF
namespace Go.Proofs.Qxb6600155aDoor
open Go.RowKit

set_option maxHeartbeats 1000000 in
theorem parse_two (c0 c1 : UInt8) (h0 : 49 ≤ c0.toNat) (h1 : c0.toNat ≤ 57) (h2 : 48 ≤ c1.toNat) (h3 : c1.toNat ≤ 57) (w : World) :
    Calls Tryd.prog 11 #[.string ⟨#[86, 111, 116, 101, 40, c0, c1, 41]⟩, .string ⟨#[86, 111, 116, 101, 40]⟩] w fun e w' =>
      e = .returned (.tuple #[.int .i64 (((c0.toNat : Int) - 48) * 10 + ((c1.toNat : Int) - 48)), .bool true]) ∧ SameMem w' w := by
  have hex : (ByteArray.mk #[86, 111, 116, 101, 40, c0, c1, 41]).extract 5 7 = ⟨#[c0, c1]⟩ := rfl
  have hl : ∀ h, ((ByteArray.mk #[86, 111, 116, 101, 40, c0, c1, 41])[7]'h) = 41 := fun _ => rfl
  have hg0 : ∀ h, ((ByteArray.mk #[c0, c1])[0]'h) = c0 := fun _ => rfl
  have hg1 : ∀ h, ((ByteArray.mk #[c0, c1])[1]'h) = c1 := fun _ => rfl
  go_enter Tryd.func11, Tryd.ntmps11
  go_wp2
  go_loopw [6] (fun i wr => ∃ k : Nat, k ≤ 5 ∧ i = .int .i64 k ∧ SameMem wr w) (fun i _ => 5 - (intOf i).toNat)
  case atStart => exact ⟨0, Nat.zero_le _, rfl, .refl _⟩
  case round =>
    obtain ⟨k, hk, rfl, hm⟩ := hrel
    obtain rfl | rfl | rfl | rfl | rfl | rfl : k = 0 ∨ k = 1 ∨ k = 2 ∨ k = 3 ∨ k = 4 ∨ k = 5 := by omega
    · go_wp2
      go_quiet (fail)
      go_wp2
      go_roundw
      case rel => exact ⟨1, by omega, rfl, hm.trans ⟨rfl, rfl, rfl, rfl⟩⟩
      case measure => simp [intOf]
    · go_wp2
      go_quiet (fail)
      go_wp2
      go_roundw
      case rel => exact ⟨2, by omega, rfl, hm.trans ⟨rfl, rfl, rfl, rfl⟩⟩
      case measure => simp [intOf]
    · go_wp2
      go_quiet (fail)
      go_wp2
      go_roundw
      case rel => exact ⟨3, by omega, rfl, hm.trans ⟨rfl, rfl, rfl, rfl⟩⟩
      case measure => simp [intOf]
    · go_wp2
      go_quiet (fail)
      go_wp2
      go_roundw
      case rel => exact ⟨4, by omega, rfl, hm.trans ⟨rfl, rfl, rfl, rfl⟩⟩
      case measure => simp [intOf]
    · go_wp2
      go_quiet (fail)
      go_wp2
      go_roundw
      case rel => exact ⟨5, by omega, rfl, hm.trans ⟨rfl, rfl, rfl, rfl⟩⟩
      case measure => simp [intOf]
    · go_wp2
      refine wp_loop_rounds 3 ?_
      rw [rounds_succ]
      go_wp2
      rw [rounds_succ]
      go_wp2
      rw [rounds_succ]
      go_wp2
      go_ret2
      exact ⟨congrArg (fun z => Ending.returned (Value.tuple #[.int .i64 z, .bool true])) (by omega), hm⟩

set_option maxHeartbeats 1000000 in
theorem parse_three (c0 c1 c2 : UInt8) (h0 : 49 ≤ c0.toNat) (h1 : c0.toNat ≤ 57) (h2 : 48 ≤ c1.toNat) (h3 : c1.toNat ≤ 57) (h4 : 48 ≤ c2.toNat) (h5 : c2.toNat ≤ 57) (h6 : (((c0.toNat : Int) - 48) * 10 + ((c1.toNat : Int) - 48)) * 10 + ((c2.toNat : Int) - 48) ≤ 255) (w : World) :
    Calls Tryd.prog 11 #[.string ⟨#[86, 111, 116, 101, 40, c0, c1, c2, 41]⟩, .string ⟨#[86, 111, 116, 101, 40]⟩] w fun e w' =>
      e = .returned (.tuple #[.int .i64 ((((c0.toNat : Int) - 48) * 10 + ((c1.toNat : Int) - 48)) * 10 + ((c2.toNat : Int) - 48)), .bool true]) ∧ SameMem w' w := by
  have hex : (ByteArray.mk #[86, 111, 116, 101, 40, c0, c1, c2, 41]).extract 5 8 = ⟨#[c0, c1, c2]⟩ := rfl
  have hl : ∀ h, ((ByteArray.mk #[86, 111, 116, 101, 40, c0, c1, c2, 41])[8]'h) = 41 := fun _ => rfl
  have hg0 : ∀ h, ((ByteArray.mk #[c0, c1, c2])[0]'h) = c0 := fun _ => rfl
  have hg1 : ∀ h, ((ByteArray.mk #[c0, c1, c2])[1]'h) = c1 := fun _ => rfl
  have hg2 : ∀ h, ((ByteArray.mk #[c0, c1, c2])[2]'h) = c2 := fun _ => rfl
  go_enter Tryd.func11, Tryd.ntmps11
  go_wp2
  go_loopw [6] (fun i wr => ∃ k : Nat, k ≤ 5 ∧ i = .int .i64 k ∧ SameMem wr w) (fun i _ => 5 - (intOf i).toNat)
  case atStart => exact ⟨0, Nat.zero_le _, rfl, .refl _⟩
  case round =>
    obtain ⟨k, hk, rfl, hm⟩ := hrel
    obtain rfl | rfl | rfl | rfl | rfl | rfl : k = 0 ∨ k = 1 ∨ k = 2 ∨ k = 3 ∨ k = 4 ∨ k = 5 := by omega
    · go_wp2
      go_quiet (fail)
      go_wp2
      go_roundw
      case rel => exact ⟨1, by omega, rfl, hm.trans ⟨rfl, rfl, rfl, rfl⟩⟩
      case measure => simp [intOf]
    · go_wp2
      go_quiet (fail)
      go_wp2
      go_roundw
      case rel => exact ⟨2, by omega, rfl, hm.trans ⟨rfl, rfl, rfl, rfl⟩⟩
      case measure => simp [intOf]
    · go_wp2
      go_quiet (fail)
      go_wp2
      go_roundw
      case rel => exact ⟨3, by omega, rfl, hm.trans ⟨rfl, rfl, rfl, rfl⟩⟩
      case measure => simp [intOf]
    · go_wp2
      go_quiet (fail)
      go_wp2
      go_roundw
      case rel => exact ⟨4, by omega, rfl, hm.trans ⟨rfl, rfl, rfl, rfl⟩⟩
      case measure => simp [intOf]
    · go_wp2
      go_quiet (fail)
      go_wp2
      go_roundw
      case rel => exact ⟨5, by omega, rfl, hm.trans ⟨rfl, rfl, rfl, rfl⟩⟩
      case measure => simp [intOf]
    · go_wp2
      refine wp_loop_rounds 4 ?_
      rw [rounds_succ]
      go_wp2
      rw [rounds_succ]
      go_wp2
      rw [rounds_succ]
      go_wp2
      rw [rounds_succ]
      go_wp2
      go_ret2
      exact ⟨congrArg (fun z => Ending.returned (Value.tuple #[.int .i64 z, .bool true])) (by omega), hm⟩

end Go.Proofs.Qxb6600155aDoor
