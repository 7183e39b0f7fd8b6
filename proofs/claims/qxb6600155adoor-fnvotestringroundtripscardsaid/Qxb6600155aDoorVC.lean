/-
  strconv.Itoa at 100 .. 255: formatBase10 at three cells.
-/
import Derived.Test.Qxb6600155aDoorVB
import Derived.RegionTactic
import Derived.ChangeAlike
import Derived.BigRegion
namespace Go.Proofs.Qxb6600155aDoor
open Go.RowKit

/-- The same memory; only draws apart. -/
def SameMem (w' w : World) : Prop := w'.heap = w.heap ∧ w'.os = w.os ∧ w'.tape = w.tape ∧ w'.output = w.output
theorem SameMem.cell {w' w : World} (h : SameMem w' w) (a : Addr) : w'.cell? a = w.cell? a := by simp [World.cell?, h.1]
theorem SameMem.below {w' w : World} (h : SameMem w' w) (B : Nat) : Below B w w' := ⟨h.2.1, h.2.2.1, h.2.2.2, by rw [h.1]; exact Nat.le_refl _, fun _ _ => by rw [h.1]⟩

/-- strconv's pairs of digits. -/
def smTab : ByteArray := (ByteArray.mk (([48, 48, 48, 49, 48, 50, 48, 51, 48, 52, 48, 53, 48, 54, 48, 55, 48, 56, 48, 57, 49, 48, 49, 49, 49, 50, 49, 51, 49, 52, 49, 53, 49, 54, 49, 55, 49, 56, 49, 57, 50, 48, 50, 49, 50, 50, 50, 51, 50, 52].append [50, 53, 50, 54, 50, 55, 50, 56, 50, 57, 51, 48, 51, 49, 51, 50, 51, 51, 51, 52, 51, 53, 51, 54, 51, 55, 51, 56, 51, 57, 52, 48, 52, 49, 52, 50, 52, 51, 52, 52, 52, 53, 52, 54, 52, 55, 52, 56, 52, 57]).append ([53, 48, 53, 49, 53, 50, 53, 51, 53, 52, 53, 53, 53, 54, 53, 55, 53, 56, 53, 57, 54, 48, 54, 49, 54, 50, 54, 51, 54, 52, 54, 53, 54, 54, 54, 55, 54, 56, 54, 57, 55, 48, 55, 49, 55, 50, 55, 51, 55, 52].append [55, 53, 55, 54, 55, 55, 55, 56, 55, 57, 56, 48, 56, 49, 56, 50, 56, 51, 56, 52, 56, 53, 56, 54, 56, 55, 56, 56, 56, 57, 57, 48, 57, 49, 57, 50, 57, 51, 57, 52, 57, 53, 57, 54, 57, 55, 57, 56, 57, 57])).toArray)
theorem smTab_size : smTab.size = 200 := by decide +kernel
theorem smTab_even : ∀ j, j < 100 → smTab[j * 2]? = some (dg (j / 10)) := by decide +kernel
theorem smTab_odd : ∀ j, j < 100 → smTab[j * 2 + 1]? = some (dg (j % 10)) := by decide +kernel
theorem index_at32 {t : ByteArray} {i : Nat} {c : UInt8} {z : Int} (h : t[i]? = some c) (hz : z = (i : Int)) (w : World) : (Instr.index 9 (.string t) (.int .u32 z)).run Tryd.prog w = .ok (.int .u8 (c.toNat : Int)) w := by
  subst hz
  have hi : i < t.size := by
    by_cases hi : i < t.size
    · exact hi
    · rw [getElem?_neg t i hi] at h; cases h
  rw [run_index_string w 9 t .u32 i Tryd.underlying9, dif_pos ⟨by omega, by omega⟩]
  rw [getElem?_pos t i hi, Option.some.injEq] at h
  simp only [Int.toNat_natCast, h]

set_option maxHeartbeats 400000 in
set_option maxRecDepth 100000 in
theorem base10_3 (g c : Nat) (i : Nat) (h0 : 100 ≤ i) (hi : i < 256) (w : World)
    (c0 : w.cell? ⟨g, 1, none⟩ = some (.int .u8 0)) (c1 : w.cell? ⟨g, 2, none⟩ = some (.int .u8 0)) (c2 : w.cell? ⟨g, 3, none⟩ = some (.int .u8 0))
    (f0 : w.frozen? ⟨g, 1, none⟩ = false) (f1 : w.frozen? ⟨g, 2, none⟩ = false) (f2 : w.frozen? ⟨g, 3, none⟩ = false) :
    Calls Tryd.prog 17 #[.slice (some ⟨g, 1, none⟩) 3 c, .int .u64 i] w fun e w' => e = .returned (.tuple #[]) ∧
      SameMem w' (((w.setCell ⟨g, 3, none⟩ (.int .u8 (dg (i % 10)).toNat)).setCell ⟨g, 2, none⟩ (.int .u8 (dg (i / 10 % 10)).toNat)).setCell ⟨g, 1, none⟩ (.int .u8 (dg (i / 100)).toNat)) := by
  have e1 : i % 100 / 10 = i / 10 % 10 := by omega
  have e2 : i % 100 % 10 = i % 10 := by omega
  have he := smTab_even (i % 100) (by omega)
  have ho := smTab_odd (i % 100) (by omega)
  rw [e1] at he
  rw [e2] at ho
  clear e1 e2
  have hix0 := index_at32 (z := (i : Int) % 100 * 2) he (by omega)
  have hix1 := index_at32 (z := (i : Int) % 100 * 2 + 1) ho (by omega)
  clear he ho
  go_enter Tryd.func17, Tryd.ntmps17
  generalize hT : (ByteArray.mk (([48, 48, 48, 49, 48, 50, 48, 51, 48, 52, 48, 53, 48, 54, 48, 55, 48, 56, 48, 57, 49, 48, 49, 49, 49, 50, 49, 51, 49, 52, 49, 53, 49, 54, 49, 55, 49, 56, 49, 57, 50, 48, 50, 49, 50, 50, 50, 51, 50, 52].append [50, 53, 50, 54, 50, 55, 50, 56, 50, 57, 51, 48, 51, 49, 51, 50, 51, 51, 51, 52, 51, 53, 51, 54, 51, 55, 51, 56, 51, 57, 52, 48, 52, 49, 52, 50, 52, 51, 52, 52, 52, 53, 52, 54, 52, 55, 52, 56, 52, 57]).append ([53, 48, 53, 49, 53, 50, 53, 51, 53, 52, 53, 53, 53, 54, 53, 55, 53, 56, 53, 57, 54, 48, 54, 49, 54, 50, 54, 51, 54, 52, 54, 53, 54, 54, 54, 55, 54, 56, 54, 57, 55, 48, 55, 49, 55, 50, 55, 51, 55, 52].append [55, 53, 55, 54, 55, 55, 55, 56, 55, 57, 56, 48, 56, 49, 56, 50, 56, 51, 56, 52, 56, 53, 56, 54, 56, 55, 56, 56, 56, 57, 57, 48, 57, 49, 57, 50, 57, 51, 57, 52, 57, 53, 57, 54, 57, 55, 57, 56, 57, 57])).toArray) = T
  have eT : T = smTab := hT.symm
  subst eT
  clear hT
  go_wp2
  refine wp_loop_rounds 1 ?_
  rw [rounds_succ]
  go_wp2
  go_region
  all_goals go_wp2
  go_end0
  refine ⟨rfl, ?_⟩
  have e3 : (((dg (i / 100)).toNat : Nat) : Int) = 48 + (i : Int) / 100 := by rw [dg_toNat (by omega)]; omega
  rw [e3]
  exact ⟨rfl, rfl, rfl, rfl⟩

end Go.Proofs.Qxb6600155aDoor
