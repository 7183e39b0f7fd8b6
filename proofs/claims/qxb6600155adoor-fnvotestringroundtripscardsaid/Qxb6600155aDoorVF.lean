/-
  wireB1ParseWrapped (function 11) at the texts that Vote.String makes.
-/
import Derived.Test.Qxb6600155aDoorVE
namespace Go.Proofs.Qxb6600155aDoor
open Go.RowKit

theorem SameMem.refl (w : World) : SameMem w w := ⟨rfl, rfl, rfl, rfl⟩
theorem SameMem.trans {a b c : World} (h : SameMem b a) (k : SameMem c b) : SameMem c a := ⟨k.1.trans h.1, k.2.1.trans h.2.1, k.2.2.1.trans h.2.2.1, k.2.2.2.trans h.2.2.2⟩

set_option maxHeartbeats 1000000 in
theorem parse_one (c0 : UInt8) (h0 : 48 ≤ c0.toNat) (h1 : c0.toNat ≤ 57) (w : World) :
    Calls Tryd.prog 11 #[.string ⟨#[86, 111, 116, 101, 40, c0, 41]⟩, .string ⟨#[86, 111, 116, 101, 40]⟩] w fun e w' =>
      e = .returned (.tuple #[.int .i64 ((c0.toNat : Int) - 48), .bool true]) ∧ SameMem w' w := by
  have hex : (ByteArray.mk #[86, 111, 116, 101, 40, c0, 41]).extract 5 6 = ⟨#[c0]⟩ := rfl
  have hl : ∀ h, ((ByteArray.mk #[86, 111, 116, 101, 40, c0, 41])[6]'h) = 41 := fun _ => rfl
  have hg0 : ∀ h, ((ByteArray.mk #[c0])[0]'h) = c0 := fun _ => rfl
  go_enter Tryd.func11, Tryd.ntmps11
  go_wp2
  go_loopw [6] (fun i wr => ∃ k : Nat, k ≤ 5 ∧ i = .int .i64 k ∧ SameMem wr w) (fun i _ => 5 - (intOf i).toNat)
  case atStart => exact ⟨0, Nat.zero_le _, rfl, .refl _⟩
  case round =>
    obtain ⟨k, hk, rfl, hm⟩ := hrel
    obtain rfl | rfl | rfl | rfl | rfl | rfl : k = 0 ∨ k = 1 ∨ k = 2 ∨ k = 3 ∨ k = 4 ∨ k = 5 := by omega
    · go_wp2
      go_quiet (fail)
      go_wp2
      go_roundw
      case rel => exact ⟨1, by omega, rfl, hm.trans ⟨rfl, rfl, rfl, rfl⟩⟩
      case measure => simp [intOf]
    · go_wp2
      go_quiet (fail)
      go_wp2
      go_roundw
      case rel => exact ⟨2, by omega, rfl, hm.trans ⟨rfl, rfl, rfl, rfl⟩⟩
      case measure => simp [intOf]
    · go_wp2
      go_quiet (fail)
      go_wp2
      go_roundw
      case rel => exact ⟨3, by omega, rfl, hm.trans ⟨rfl, rfl, rfl, rfl⟩⟩
      case measure => simp [intOf]
    · go_wp2
      go_quiet (fail)
      go_wp2
      go_roundw
      case rel => exact ⟨4, by omega, rfl, hm.trans ⟨rfl, rfl, rfl, rfl⟩⟩
      case measure => simp [intOf]
    · go_wp2
      go_quiet (fail)
      go_wp2
      go_roundw
      case rel => exact ⟨5, by omega, rfl, hm.trans ⟨rfl, rfl, rfl, rfl⟩⟩
      case measure => simp [intOf]
    · go_wp2
      refine wp_loop_rounds 2 ?_
      rw [rounds_succ]
      go_wp2
      rw [rounds_succ]
      go_wp2
      go_ret2
      exact ⟨rfl, hm⟩

end Go.Proofs.Qxb6600155aDoor
