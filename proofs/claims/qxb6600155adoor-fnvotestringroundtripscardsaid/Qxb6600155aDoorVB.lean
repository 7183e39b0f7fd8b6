/-
  strconv.Itoa at 100 .. 255: the number of digits.
-/
import Derived.Test.Qxb6600155aDoorVA
namespace Go.Proofs.Qxb6600155aDoor
open Go.RowKit

/-- math/bits' table of lengths of a byte. -/
def lenTab : ByteArray := (ByteArray.mk (([0, 1, 2, 2, 3, 3, 3, 3, 4, 4, 4, 4, 4, 4, 4, 4, 5, 5, 5, 5, 5, 5, 5, 5, 5, 5, 5, 5, 5, 5, 5, 5, 6, 6, 6, 6, 6, 6, 6, 6, 6, 6, 6, 6, 6, 6, 6, 6, 6, 6, 6, 6, 6, 6, 6, 6, 6, 6, 6, 6, 6, 6, 6, 6].append [7, 7, 7, 7, 7, 7, 7, 7, 7, 7, 7, 7, 7, 7, 7, 7, 7, 7, 7, 7, 7, 7, 7, 7, 7, 7, 7, 7, 7, 7, 7, 7, 7, 7, 7, 7, 7, 7, 7, 7, 7, 7, 7, 7, 7, 7, 7, 7, 7, 7, 7, 7, 7, 7, 7, 7, 7, 7, 7, 7, 7, 7, 7, 7]).append ([8, 8, 8, 8, 8, 8, 8, 8, 8, 8, 8, 8, 8, 8, 8, 8, 8, 8, 8, 8, 8, 8, 8, 8, 8, 8, 8, 8, 8, 8, 8, 8, 8, 8, 8, 8, 8, 8, 8, 8, 8, 8, 8, 8, 8, 8, 8, 8, 8, 8, 8, 8, 8, 8, 8, 8, 8, 8, 8, 8, 8, 8, 8, 8].append [8, 8, 8, 8, 8, 8, 8, 8, 8, 8, 8, 8, 8, 8, 8, 8, 8, 8, 8, 8, 8, 8, 8, 8, 8, 8, 8, 8, 8, 8, 8, 8, 8, 8, 8, 8, 8, 8, 8, 8, 8, 8, 8, 8, 8, 8, 8, 8, 8, 8, 8, 8, 8, 8, 8, 8, 8, 8, 8, 8, 8, 8, 8, 8])).toArray)
theorem lenTab_size : lenTab.size = 256 := by decide +kernel
theorem lenTab_lo : ∀ i, i < 128 → 100 ≤ i → lenTab[i]? = some 7 := by decide +kernel
theorem lenTab_hi : ∀ i, i < 256 → 128 ≤ i → lenTab[i]? = some 8 := by decide +kernel
theorem index_at {t : ByteArray} {i : Nat} {c : UInt8} (h : t[i]? = some c) (w : World) : (Instr.index 9 (.string t) (.int .u8 (i : Int))).run Tryd.prog w = .ok (.int .u8 (c.toNat : Int)) w := by
  have hi : i < t.size := by
    by_cases hi : i < t.size
    · exact hi
    · rw [getElem?_neg t i hi] at h; cases h
  rw [run_index_string w 9 t .u8 i Tryd.underlying9, dif_pos ⟨by omega, by omega⟩]
  rw [getElem?_pos t i hi, Option.some.injEq] at h
  simp only [Int.toNat_natCast, h]

set_option maxHeartbeats 400000 in
set_option maxRecDepth 100000 in
theorem len64_lo (i : Nat) (h0 : 100 ≤ i) (hi : i < 128) (w : World) :
    Calls Tryd.prog 20 #[.int .u64 i] w fun e w' => e = .returned (.int .i64 7) ∧ w' = w := by
  have hix := index_at (lenTab_lo i hi h0)
  have hd1 : decide ((4294967296 : Int) ≤ (i : Int)) = false := by simp; omega
  have hd2 : decide ((65536 : Int) ≤ (i : Int)) = false := by simp; omega
  have hd3 : decide ((256 : Int) ≤ (i : Int)) = false := by simp; omega
  go_enter Tryd.func20, Tryd.ntmps20
  generalize hT : (ByteArray.mk (([0, 1, 2, 2, 3, 3, 3, 3, 4, 4, 4, 4, 4, 4, 4, 4, 5, 5, 5, 5, 5, 5, 5, 5, 5, 5, 5, 5, 5, 5, 5, 5, 6, 6, 6, 6, 6, 6, 6, 6, 6, 6, 6, 6, 6, 6, 6, 6, 6, 6, 6, 6, 6, 6, 6, 6, 6, 6, 6, 6, 6, 6, 6, 6].append [7, 7, 7, 7, 7, 7, 7, 7, 7, 7, 7, 7, 7, 7, 7, 7, 7, 7, 7, 7, 7, 7, 7, 7, 7, 7, 7, 7, 7, 7, 7, 7, 7, 7, 7, 7, 7, 7, 7, 7, 7, 7, 7, 7, 7, 7, 7, 7, 7, 7, 7, 7, 7, 7, 7, 7, 7, 7, 7, 7, 7, 7, 7, 7]).append ([8, 8, 8, 8, 8, 8, 8, 8, 8, 8, 8, 8, 8, 8, 8, 8, 8, 8, 8, 8, 8, 8, 8, 8, 8, 8, 8, 8, 8, 8, 8, 8, 8, 8, 8, 8, 8, 8, 8, 8, 8, 8, 8, 8, 8, 8, 8, 8, 8, 8, 8, 8, 8, 8, 8, 8, 8, 8, 8, 8, 8, 8, 8, 8].append [8, 8, 8, 8, 8, 8, 8, 8, 8, 8, 8, 8, 8, 8, 8, 8, 8, 8, 8, 8, 8, 8, 8, 8, 8, 8, 8, 8, 8, 8, 8, 8, 8, 8, 8, 8, 8, 8, 8, 8, 8, 8, 8, 8, 8, 8, 8, 8, 8, 8, 8, 8, 8, 8, 8, 8, 8, 8, 8, 8, 8, 8, 8, 8])).toArray) = T
  have eT : T = lenTab := hT.symm
  subst eT
  clear hT
  go_wp2
  go_ret
  exact ⟨rfl, rfl⟩

set_option maxHeartbeats 400000 in
set_option maxRecDepth 100000 in
theorem len64_hi (i : Nat) (h0 : 128 ≤ i) (hi : i < 256) (w : World) :
    Calls Tryd.prog 20 #[.int .u64 i] w fun e w' => e = .returned (.int .i64 8) ∧ w' = w := by
  have hix := index_at (lenTab_hi i hi h0)
  have hd1 : decide ((4294967296 : Int) ≤ (i : Int)) = false := by simp; omega
  have hd2 : decide ((65536 : Int) ≤ (i : Int)) = false := by simp; omega
  have hd3 : decide ((256 : Int) ≤ (i : Int)) = false := by simp; omega
  go_enter Tryd.func20, Tryd.ntmps20
  generalize hT : (ByteArray.mk (([0, 1, 2, 2, 3, 3, 3, 3, 4, 4, 4, 4, 4, 4, 4, 4, 5, 5, 5, 5, 5, 5, 5, 5, 5, 5, 5, 5, 5, 5, 5, 5, 6, 6, 6, 6, 6, 6, 6, 6, 6, 6, 6, 6, 6, 6, 6, 6, 6, 6, 6, 6, 6, 6, 6, 6, 6, 6, 6, 6, 6, 6, 6, 6].append [7, 7, 7, 7, 7, 7, 7, 7, 7, 7, 7, 7, 7, 7, 7, 7, 7, 7, 7, 7, 7, 7, 7, 7, 7, 7, 7, 7, 7, 7, 7, 7, 7, 7, 7, 7, 7, 7, 7, 7, 7, 7, 7, 7, 7, 7, 7, 7, 7, 7, 7, 7, 7, 7, 7, 7, 7, 7, 7, 7, 7, 7, 7, 7]).append ([8, 8, 8, 8, 8, 8, 8, 8, 8, 8, 8, 8, 8, 8, 8, 8, 8, 8, 8, 8, 8, 8, 8, 8, 8, 8, 8, 8, 8, 8, 8, 8, 8, 8, 8, 8, 8, 8, 8, 8, 8, 8, 8, 8, 8, 8, 8, 8, 8, 8, 8, 8, 8, 8, 8, 8, 8, 8, 8, 8, 8, 8, 8, 8].append [8, 8, 8, 8, 8, 8, 8, 8, 8, 8, 8, 8, 8, 8, 8, 8, 8, 8, 8, 8, 8, 8, 8, 8, 8, 8, 8, 8, 8, 8, 8, 8, 8, 8, 8, 8, 8, 8, 8, 8, 8, 8, 8, 8, 8, 8, 8, 8, 8, 8, 8, 8, 8, 8, 8, 8, 8, 8, 8, 8, 8, 8, 8, 8])).toArray) = T
  have eT : T = lenTab := hT.symm
  subst eT
  clear hT
  go_wp2
  go_ret
  exact ⟨rfl, rfl⟩

/-- numDigits at 100 .. 255: three. The table's third cell is asked for: variable 0 of the program. -/
theorem numDigits_3 (i : Nat) (h0 : 100 ≤ i) (hi : i < 256) (w : World) (hc : w.cell? ⟨0, 2, none⟩ = some (.int .u64 100)) :
    Calls Tryd.prog 16 #[.int .u64 i] w fun e w' => e = .returned (.int .i64 3) ∧ w' = w := by
  by_cases h : i < 128
  · go_enter Tryd.func16, Tryd.ntmps16
    go_wp2_with (first | (go_at_call 20; refine (len64_lo i h0 h _).mono ?_; rintro e w' ⟨rfl, rfl⟩) | go_in)
    go_ret
    exact ⟨rfl, rfl⟩
  · go_enter Tryd.func16, Tryd.ntmps16
    go_wp2_with (first | (go_at_call 20; refine (len64_hi i (by omega) hi _).mono ?_; rintro e w' ⟨rfl, rfl⟩) | go_in)
    go_ret
    exact ⟨rfl, rfl⟩

end Go.Proofs.Qxb6600155aDoor
