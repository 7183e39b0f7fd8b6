/-
  strconv.Itoa at 3 .. 255: the small numbers.
-/
import Derived.Test.Qxb6600155aDoorRows
import Derived.WalkKit
import Derived.WalkSpells
import Derived.WalkLawsBesides
namespace Go.Proofs.Qxb6600155aDoor
open Go.RowKit

theorem hide {p : Prop} (h : p) : Hid p := h
theorem unhide {p : Prop} (h : Hid p) : p := h

/-- A decimal digit's byte. -/
def dg (n : Nat) : UInt8 := UInt8.ofNat (48 + n)
theorem dg_toNat {n : Nat} (h : n < 10) : (dg n).toNat = 48 + n := by
  unfold dg
  simp only [UInt8.toNat_ofNat']
  omega

theorem one_piece : ∀ i, i < 10 → (ByteArray.extract ⟨#[48, 49, 50, 51, 52, 53, 54, 55, 56, 57, 97, 98, 99, 100, 101, 102, 103, 104, 105, 106, 107, 108, 109, 110, 111, 112, 113, 114, 115, 116, 117, 118, 119, 120, 121, 122]⟩ i (i + 1)) = ⟨#[dg i]⟩ := by decide +kernel

set_option maxRecDepth 100000 in
theorem two_piece : ∀ i, i < 100 → (ByteArray.extract ⟨#[48, 48, 48, 49, 48, 50, 48, 51, 48, 52, 48, 53, 48, 54, 48, 55, 48, 56, 48, 57, 49, 48, 49, 49, 49, 50, 49, 51, 49, 52, 49, 53, 49, 54, 49, 55, 49, 56, 49, 57, 50, 48, 50, 49, 50, 50, 50, 51, 50, 52, 50, 53, 50, 54, 50, 55, 50, 56, 50, 57, 51, 48, 51, 49, 51, 50, 51, 51, 51, 52, 51, 53, 51, 54, 51, 55, 51, 56, 51, 57, 52, 48, 52, 49, 52, 50, 52, 51, 52, 52, 52, 53, 52, 54, 52, 55, 52, 56, 52, 57, 53, 48, 53, 49, 53, 50, 53, 51, 53, 52, 53, 53, 53, 54, 53, 55, 53, 56, 53, 57, 54, 48, 54, 49, 54, 50, 54, 51, 54, 52, 54, 53, 54, 54, 54, 55, 54, 56, 54, 57, 55, 48, 55, 49, 55, 50, 55, 51, 55, 52, 55, 53, 55, 54, 55, 55, 55, 56, 55, 57, 56, 48, 56, 49, 56, 50, 56, 51, 56, 52, 56, 53, 56, 54, 56, 55, 56, 56, 56, 57, 57, 48, 57, 49, 57, 50, 57, 51, 57, 52, 57, 53, 57, 54, 57, 55, 57, 56, 57, 57]⟩ (i * 2) (i * 2 + 2)) = ⟨#[dg (i / 10), dg (i % 10)]⟩ := by decide +kernel

set_option maxHeartbeats 400000 in
theorem small_one (i : Nat) (hi : i < 10) (w : World) :
    Calls Tryd.prog 15 #[.int .i64 i] w fun e w' => e = .returned (.string ⟨#[dg i]⟩) ∧ w' = w := by
  go_enter Tryd.func15, Tryd.ntmps15
  go_wp2
  go_ret
  exact ⟨congrArg (fun s => Ending.returned (Value.string s)) (one_piece i hi), rfl⟩

set_option maxHeartbeats 400000 in
set_option maxRecDepth 100000 in
theorem small_two (i : Nat) (h0 : 10 ≤ i) (hi : i < 100) (w : World) :
    Calls Tryd.prog 15 #[.int .i64 i] w fun e w' => e = .returned (.string ⟨#[dg (i / 10), dg (i % 10)]⟩) ∧ w' = w := by
  go_enter Tryd.func15, Tryd.ntmps15
  go_wp2
  go_ret
  exact ⟨congrArg (fun s => Ending.returned (Value.string s)) (two_piece i hi), rfl⟩

set_option maxHeartbeats 400000 in
theorem fmt_one (i : Nat) (hi : i < 10) (w : World) :
    Calls Tryd.prog 12 #[.int .i64 i] w fun e w' => e = .returned (.string ⟨#[dg i]⟩) ∧ w' = w := by
  have hd1 : decide ((0 : Int) ≤ (i : Int)) = true := by simp
  have hd2 : decide ((i : Int) < 100) = true := by simp; omega
  go_enter Tryd.func12, Tryd.ntmps12
  go_wp2_with (first | (go_at_call 15; refine (small_one i hi _).mono ?_; rintro e w' ⟨rfl, rfl⟩) | go_in)
  go_ret
  exact ⟨rfl, rfl⟩

set_option maxHeartbeats 400000 in
theorem fmt_two (i : Nat) (h0 : 10 ≤ i) (hi : i < 100) (w : World) :
    Calls Tryd.prog 12 #[.int .i64 i] w fun e w' => e = .returned (.string ⟨#[dg (i / 10), dg (i % 10)]⟩) ∧ w' = w := by
  have hd1 : decide ((0 : Int) ≤ (i : Int)) = true := by simp
  have hd2 : decide ((i : Int) < 100) = true := by simp; omega
  go_enter Tryd.func12, Tryd.ntmps12
  go_wp2_with (first | (go_at_call 15; refine (small_two i h0 hi _).mono ?_; rintro e w' ⟨rfl, rfl⟩) | go_in)
  go_ret
  exact ⟨rfl, rfl⟩

end Go.Proofs.Qxb6600155aDoor
