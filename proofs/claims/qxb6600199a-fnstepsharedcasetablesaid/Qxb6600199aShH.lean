/-
  state.withShare (32) at a free name.
-/
import Derived.Test.Qxb6600199aShG
namespace Go.Proofs.Qxb6600199a
open Go.RowKit

set_option maxHeartbeats 2000000 in
theorem withShare_free (h : ByteArray) (l rf : Int) (g : Bool) (nm : ByteArray) (t : Nat) (A : Nat) (fb : Bool) (w : World) (hsm : h.size ≤ 4) (hn : Hid (nm.size = 4)) (ht : t < 18446744073709551616)
    (HC : Hid (∀ w, Calls Try.prog 30 #[.agg #[.string h, .int .u64 l, .int .u32 rf, .bool g], .string nm] w fun e w' => e = .returned (.tuple #[.int .i64 A, .bool fb]) ∧ Below w.heap.size w w')) :
    Calls Try.prog 32 #[.agg #[.string h, .int .u64 l, .int .u32 rf, .bool g], .string nm, .int .u64 t] w fun e w' =>
      e = .returned (.agg #[.string ⟨(nm.data.toList ++ be8 t).toArray⟩, .int .u64 t, .int .u32 0, .bool false]) ∧ Below w.heap.size w w' := by
  have hd : decide ((4 : Int) < (h.size : Int)) = false := by simp; omega
  go_enter Try.func32, Try.ntmps32
  go_wp2_with fail
  refine (unhide HC _).mono ?_
  rintro e w1 ⟨rfl, hb⟩
  have hB1 : Below w.heap.size w w1 := (((Below.refl _ _).alloc (Nat.le_refl _) _).alloc (by simp) _).trans (hb.mono (by simp; omega))
  have hz1 : w.heap.size + 1 < w1.heap.size := by have := hb.size; simp at this; omega
  have hz0 : w.heap.size < w1.heap.size := by omega
  have b1 : Bx w1 w.heap.size (.string h) (.int .u64 l) (.int .u32 rf) (.bool g) := Bx.keep (B := w.heap.size + 2) ⟨by simp, by simp, by simp, by simp⟩ (hb.mono (by simp)) (by omega)
  have r1 : Bx w1 (w.heap.size + 1) (.string ⟨#[]⟩) (.int .u64 0) (.int .u32 0) (.bool false) := Bx.keep (B := w.heap.size + 2) ⟨by simp, by simp, by simp, by simp⟩ (hb.mono (by simp)) (by omega)
  have f1 : Fr w1 (w.heap.size + 1) := Fr.keep (B := w.heap.size + 2) ⟨by simp, by simp, by simp, by simp⟩ (hb.mono (by simp)) (by omega)
  obtain ⟨c0, c1, c2, c3⟩ := b1
  clear hb
  go_wp2_with fail
  rw [show ((h.size : Int) + 12) = ((h.size + 12 : Nat) : Int) from by omega]
  refine (grow_any w1.heap.size w1.heap.size (h.size + 12) _ (Nat.le_refl _) (heap_alloc_new w1 _) (by simp) (by omega)).mono ?_
  rintro e w2 ⟨rfl, hu2, hb2⟩
  have e12 : Below w1.heap.size w1 w2 := ((Below.refl _ _).alloc (Nat.le_refl _) _).trans hb2
  have hz2 : w1.heap.size < w2.heap.size := by have := hb2.size; simp at this; omega
  have b2 : Bx w2 w.heap.size (.string h) (.int .u64 l) (.int .u32 rf) (.bool g) := Bx.keep ⟨c0, c1, c2, c3⟩ e12 hz0
  clear c0 c1 c2 c3 hb2
  obtain ⟨c0, c1, c2, c3⟩ := b2
  go_wp2_with fail
  refine (shared_any _ _ _ _ _).mono ?_
  rintro e w3 ⟨rfl, hb3⟩
  have hu3 := builder_keep hu2 hb3
  have e13 : Below w1.heap.size w1 w3 := e12.trans (hb3.mono (by omega))
  have hz3 : w1.heap.size < w3.heap.size := by have := hb3.size; omega
  have b3 : Bx w3 w.heap.size (.string h) (.int .u64 l) (.int .u32 rf) (.bool g) := Bx.keep ⟨c0, c1, c2, c3⟩ hb3 (by omega)
  clear c0 c1 c2 c3 hb3 hu2 e12 hz2
  obtain ⟨c0, c1, c2, c3⟩ := b3
  have hu4 := hu3
  go_wp2_with fail
  refine (writeString_any w1.heap.size w1.heap.size _ nm w3 (.inr hu3) (by rw [hn.out]; simp) (by omega)).mono ?_
  rintro e w5 ⟨rfl, hu5, hb5⟩
  rw [Lib.strCells_eq, List.nil_append] at hu5
  have e15 : Below w1.heap.size w1 w5 := e13.trans hb5
  have hz5 : w1.heap.size < w5.heap.size := by have := hb5.size; omega
  have b5 : Bx w5 w.heap.size (.string h) (.int .u64 l) (.int .u32 rf) (.bool g) := Bx.keep ⟨c0, c1, c2, c3⟩ hb5 hz0
  clear c0 c1 c2 c3 hb5 hu3 hu4 e13 hz3
  have hl5 : nm.data.toList.length ≤ 2097156 := by rw [Array.length_toList]; have := hn.out; show nm.size ≤ _; omega
  generalize hP2 : nm.data.toList = P2 at hu5 hl5
  have HP2 := hide hP2
  clear hP2
  go_wp2
  go_loopw [10] (fun s wr => ∃ k : Nat, k ≤ 8 ∧ s = .int .i64 (56 - 8 * (k : Int)) ∧ Lib.BuilderAt 71 5 w1.heap.size w1.heap.size (.pointer (some ⟨w1.heap.size, 0, none⟩)) (Lib.byteCells (P2 ++ (be8 t).take k)) wr ∧ Below w1.heap.size w5 wr) (fun s _ => (intOf s + 8).toNat)
  case atStart => exact ⟨0, by omega, rfl, by simpa using hu5, Below.refl _ _⟩
  case round =>
    obtain ⟨k, hk, rfl, hu, hnx⟩ := hrel
    have hsz : w1.heap.size ≤ wr.heap.size := by have := hnx.size; omega
    have hlen := bl_len P2 t k hl5
    obtain rfl | rfl | rfl | rfl | rfl | rfl | rfl | rfl | rfl : k = 0 ∨ k = 1 ∨ k = 2 ∨ k = 3 ∨ k = 4 ∨ k = 5 ∨ k = 6 ∨ k = 7 ∨ k = 8 := by omega
    · go_wp2_with fail
      refine (writeByte_any w1.heap.size w1.heap.size _ _ wr (.inr hu) (by omega) hsz).mono ?_
      rintro e w6 ⟨rfl, hu6, hb6⟩
      rw [← byte_step (P := P2) (t := t) (k := 0) (by omega) (by rw [be8_0 t]; omega)] at hu6
      go_wp2
      go_roundw
      case rel => exact ⟨1, by omega, by go_num, hu6, hnx.trans hb6⟩
      case measure => simp [intOf]
    · go_wp2_with fail
      refine (writeByte_any w1.heap.size w1.heap.size _ _ wr (.inr hu) (by omega) hsz).mono ?_
      rintro e w6 ⟨rfl, hu6, hb6⟩
      rw [← byte_step (P := P2) (t := t) (k := 1) (by omega) (by rw [be8_1 t]; omega)] at hu6
      go_wp2
      go_roundw
      case rel => exact ⟨2, by omega, by go_num, hu6, hnx.trans hb6⟩
      case measure => simp [intOf]
    · go_wp2_with fail
      refine (writeByte_any w1.heap.size w1.heap.size _ _ wr (.inr hu) (by omega) hsz).mono ?_
      rintro e w6 ⟨rfl, hu6, hb6⟩
      rw [← byte_step (P := P2) (t := t) (k := 2) (by omega) (by rw [be8_2 t]; omega)] at hu6
      go_wp2
      go_roundw
      case rel => exact ⟨3, by omega, by go_num, hu6, hnx.trans hb6⟩
      case measure => simp [intOf]
    · go_wp2_with fail
      refine (writeByte_any w1.heap.size w1.heap.size _ _ wr (.inr hu) (by omega) hsz).mono ?_
      rintro e w6 ⟨rfl, hu6, hb6⟩
      rw [← byte_step (P := P2) (t := t) (k := 3) (by omega) (by rw [be8_3 t]; omega)] at hu6
      go_wp2
      go_roundw
      case rel => exact ⟨4, by omega, by go_num, hu6, hnx.trans hb6⟩
      case measure => simp [intOf]
    · go_wp2_with fail
      refine (writeByte_any w1.heap.size w1.heap.size _ _ wr (.inr hu) (by omega) hsz).mono ?_
      rintro e w6 ⟨rfl, hu6, hb6⟩
      rw [← byte_step (P := P2) (t := t) (k := 4) (by omega) (by rw [be8_4 t]; omega)] at hu6
      go_wp2
      go_roundw
      case rel => exact ⟨5, by omega, by go_num, hu6, hnx.trans hb6⟩
      case measure => simp [intOf]
    · go_wp2_with fail
      refine (writeByte_any w1.heap.size w1.heap.size _ _ wr (.inr hu) (by omega) hsz).mono ?_
      rintro e w6 ⟨rfl, hu6, hb6⟩
      rw [← byte_step (P := P2) (t := t) (k := 5) (by omega) (by rw [be8_5 t]; omega)] at hu6
      go_wp2
      go_roundw
      case rel => exact ⟨6, by omega, by go_num, hu6, hnx.trans hb6⟩
      case measure => simp [intOf]
    · go_wp2_with fail
      refine (writeByte_any w1.heap.size w1.heap.size _ _ wr (.inr hu) (by omega) hsz).mono ?_
      rintro e w6 ⟨rfl, hu6, hb6⟩
      rw [← byte_step (P := P2) (t := t) (k := 6) (by omega) (by rw [be8_6 t]; omega)] at hu6
      go_wp2
      go_roundw
      case rel => exact ⟨7, by omega, by go_num, hu6, hnx.trans hb6⟩
      case measure => simp [intOf]
    · go_wp2_with fail
      refine (writeByte_any w1.heap.size w1.heap.size _ _ wr (.inr hu) (by omega) hsz).mono ?_
      rintro e w6 ⟨rfl, hu6, hb6⟩
      rw [← byte_step (P := P2) (t := t) (k := 7) (by omega) (by rw [be8_7 t]; omega)] at hu6
      go_wp2
      go_roundw
      case rel => exact ⟨8, by omega, by go_num, hu6, hnx.trans hb6⟩
      case measure => simp [intOf]
    · rw [List.take_of_length_le (by rw [be8_length]; omega)] at hu
      have hbr : Bx wr w.heap.size (.string h) (.int .u64 l) (.int .u32 rf) (.bool g) := b5.keep hnx hz0
      have e1r : Below w1.heap.size w1 wr := e15.trans hnx
      clear hnx b5 e15 hlen
      obtain ⟨c0, c1, c2, c3⟩ := hbr
      go_wp2_with fail
      refine (shared_any _ _ _ _ _).mono ?_
      rintro e w7 ⟨rfl, hb7⟩
      have hu7 := builder_keep hu hb7
      have e17 : Below w1.heap.size w1 w7 := e1r.trans (hb7.mono hsz)
      have hz7 : w1.heap.size ≤ w7.heap.size := e17.size
      have b7 : Bx w7 w.heap.size (.string h) (.int .u64 l) (.int .u32 rf) (.bool g) := Bx.keep ⟨c0, c1, c2, c3⟩ hb7 (by omega)
      clear c0 c1 c2 c3 hb7 hu e1r
      obtain ⟨c0, c1, c2, c3⟩ := b7
      go_wp2_with fail
      refine (builderString_any w1.heap.size w1.heap.size _ w7 (.inr hu7) (fun e => by have := congrArg List.length e; rw [List.length_append, be8_length] at this; simp at this)).mono ?_
      rintro e w9 ⟨rfl, hb9⟩
      have e19 : Below w1.heap.size w1 w9 := e17.trans hb9
      obtain ⟨q0, q1, q2, q3⟩ := r1.keep e19 hz1
      obtain ⟨g0, g1, g2, g3⟩ := f1.keep e19 hz1
      have hB9 : Below w.heap.size w w9 := hB1.trans (e19.mono (by omega))
      clear hb9 e17 hu7 e19 c0 c1 c2 c3
      have hR : (ByteArray.mk (P2 ++ be8 t).toArray) = ⟨(nm.data.toList ++ be8 t).toArray⟩ := by
        rw [← HP2.out]
      generalize (ByteArray.mk (P2 ++ be8 t).toArray) = R at hR ⊢
      have HR := hide hR
      clear hR
      go_wp2
      refine bodyPost_ret (v := .agg #[.string R, .int .u64 t, .int .u32 0, .bool false]) (by simp [results, Try.results32, go_sem, q0, q1, q2, q3]) rfl ⟨by rw [HR.out], ?_⟩
      exact (((hB9.setCell (Nat.le_succ _) _).setCell (Nat.le_succ _) _).setCell (Nat.le_succ _) _).setCell (Nat.le_succ _) _

end Go.Proofs.Qxb6600199a
