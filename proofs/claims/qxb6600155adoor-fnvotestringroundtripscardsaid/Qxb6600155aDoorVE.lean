/-
  Vote.String and the parser.
-/
import Derived.Test.Qxb6600155aDoorVD
import Derived.Deep.QuietTactic
import Derived.BigQuiet
namespace Go.Proofs.Qxb6600155aDoor
open Go.RowKit

theorem digit_bd {n : Nat} (h : n < 10) : 48 ≤ (dg n).toNat ∧ (dg n).toNat ≤ 57 := by rw [dg_toNat h]; omega

set_option maxHeartbeats 400000 in
theorem string_one (i : Nat) (h0 : 3 ≤ i) (hi : i < 10) (w : World) :
    Calls Tryd.prog 8 #[.int .u8 i] w fun e w' => e = .returned (.string ⟨#[86, 111, 116, 101, 40, dg i, 41]⟩) ∧ w' = w := by
  go_enter Tryd.func8, Tryd.ntmps8
  go_wp2_with (go_at_call 12; refine (fmt_one i hi _).mono ?_; rintro e w' ⟨rfl, rfl⟩)
  go_ret
  exact ⟨rfl, rfl⟩

set_option maxHeartbeats 400000 in
theorem string_two (i : Nat) (h0 : 10 ≤ i) (hi : i < 100) (w : World) :
    Calls Tryd.prog 8 #[.int .u8 i] w fun e w' => e = .returned (.string ⟨#[86, 111, 116, 101, 40, dg (i / 10), dg (i % 10), 41]⟩) ∧ w' = w := by
  go_enter Tryd.func8, Tryd.ntmps8
  go_wp2_with (go_at_call 12; refine (fmt_two i h0 hi _).mono ?_; rintro e w' ⟨rfl, rfl⟩)
  go_ret
  exact ⟨rfl, rfl⟩

set_option maxHeartbeats 400000 in
theorem string_three (i : Nat) (h0 : 100 ≤ i) (hi : i < 256) (w : World) (hc : w.cell? ⟨0, 2, none⟩ = some (.int .u64 100)) (hsz : 0 < w.heap.size) :
    Calls Tryd.prog 8 #[.int .u8 i] w fun e w' => e = .returned (.string ⟨#[86, 111, 116, 101, 40, dg (i / 100), dg (i / 10 % 10), dg (i % 10), 41]⟩) ∧ Below w.heap.size w w' := by
  go_enter Tryd.func8, Tryd.ntmps8
  go_wp2_with (go_at_call 12; refine (itoa_three i h0 hi _ hc hsz).mono ?_; rintro e w' ⟨rfl, hb⟩)
  go_ret
  exact ⟨rfl, hb⟩

end Go.Proofs.Qxb6600155aDoor
