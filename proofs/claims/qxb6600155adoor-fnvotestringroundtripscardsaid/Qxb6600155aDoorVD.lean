/-
  strconv.Itoa at 100 .. 255.
-/
import Derived.Test.Qxb6600155aDoorVC
namespace Go.Proofs.Qxb6600155aDoor
open Go.RowKit

set_option maxHeartbeats 400000 in
theorem fmt_three (i : Nat) (h0 : 100 ≤ i) (hi : i < 256) (w : World) (hc : w.cell? ⟨0, 2, none⟩ = some (.int .u64 100)) (hsz : 0 < w.heap.size) :
    Calls Tryd.prog 14 #[.int .i64 i, .int .i64 10] w fun e w' => e = .returned (.string ⟨#[dg (i / 100), dg (i / 10 % 10), dg (i % 10)]⟩) ∧ Below w.heap.size w w' := by
  have hd1 : decide ((0 : Int) ≤ (i : Int)) = true := by simp
  have hd2 : decide ((i : Int) < 100) = false := by simp; omega
  have hd3 : decide ((i : Int) < 0) = false := by simp
  have HA : Hid (∀ o : Obj, (w.alloc o).cell? ⟨0, 2, none⟩ = some (.int .u64 100)) := fun o => (((Below.refl w.heap.size w).alloc (Nat.le_refl _) o).cell (p := ⟨0, 2, none⟩) hsz).trans hc
  go_enter Tryd.func14, Tryd.ntmps14
  go_wp2_with fail
  refine (numDigits_3 i h0 hi _ (HA.out _)).mono ?_
  rintro e w' ⟨rfl, hw⟩
  obtain rfl := hw.symm
  clear hw
  go_wp2_with fail
  refine (base10_3 w.heap.size 23 i h0 hi _ (by simp) (by simp) (by simp) (by simp) (by simp) (by simp)).mono ?_
  rintro e w1 ⟨rfl, hm⟩
  have HB : Hid (Below w.heap.size w w1) := (((((Below.refl w.heap.size w).alloc (Nat.le_refl _) _).setCell (p := ⟨w.heap.size, 3, none⟩) (Nat.le_refl _) _).setCell (p := ⟨w.heap.size, 2, none⟩) (Nat.le_refl _) _).setCell (p := ⟨w.heap.size, 1, none⟩) (Nat.le_refl _) _).trans (hm.below _)
  have hc1 : w1.cell? ⟨w.heap.size, 1, none⟩ = some (.int .u8 (dg (i / 100)).toNat) := by rw [hm.cell]; go_simp
  have hc2 : w1.cell? ⟨w.heap.size, 2, none⟩ = some (.int .u8 (dg (i / 10 % 10)).toNat) := by rw [hm.cell]; go_simp
  have hc3 : w1.cell? ⟨w.heap.size, 3, none⟩ = some (.int .u8 (dg (i % 10)).toNat) := by rw [hm.cell]; go_simp
  have hcv := run_convert_bytes_back (P := Tryd.prog) w1 37 9 5 ⟨w.heap.size, 1, none⟩ 23 [dg (i / 100), dg (i / 10 % 10), dg (i % 10)] Tryd.underlying37 Tryd.underlying5 Tryd.underlying9 (by
    intro j hj
    match j, hj with
    | 0, _ => simpa [Addr.add] using hc1
    | 1, _ => simpa [Addr.add] using hc2
    | 2, _ => simpa [Addr.add] using hc3)
  have hcv' : (convert 37 9 (.slice (some ⟨w.heap.size, 1, none⟩) 3 23)).run Tryd.prog w1 = .ok (.string ⟨#[dg (i / 100), dg (i / 10 % 10), dg (i % 10)]⟩) w1 := hcv
  clear hm hc1 hc2 hc3 hcv
  go_wp2
  go_ret
  exact ⟨rfl, HB.out⟩

set_option maxHeartbeats 400000 in
theorem itoa_three (i : Nat) (h0 : 100 ≤ i) (hi : i < 256) (w : World) (hc : w.cell? ⟨0, 2, none⟩ = some (.int .u64 100)) (hsz : 0 < w.heap.size) :
    Calls Tryd.prog 12 #[.int .i64 i] w fun e w' => e = .returned (.string ⟨#[dg (i / 100), dg (i / 10 % 10), dg (i % 10)]⟩) ∧ Below w.heap.size w w' := by
  go_enter Tryd.func12, Tryd.ntmps12
  go_wp2_with (first | (go_at_call 14; refine (fmt_three i h0 hi w hc hsz).mono ?_; rintro e w' ⟨rfl, hb⟩) | go_in)
  go_ret
  exact ⟨rfl, hb⟩

end Go.Proofs.Qxb6600155aDoor
