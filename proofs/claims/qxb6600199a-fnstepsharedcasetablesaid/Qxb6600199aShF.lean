/-
  state.withoutShare (35).
-/
import Derived.Test.Qxb6600199aShE
namespace Go.Proofs.Qxb6600199a
open Go.RowKit

set_option maxHeartbeats 1000000 in
theorem withoutShare_no (h : ByteArray) (l rf : Int) (g : Bool) (nm : ByteArray) (A : Int) (w : World)
    (HC : Hid (∀ w, Calls Try.prog 30 #[.agg #[.string h, .int .u64 l, .int .u32 rf, .bool g], .string nm] w fun e w' => e = .returned (.tuple #[.int .i64 A, .bool false]) ∧ Below w.heap.size w w')) :
    Calls Try.prog 35 #[.agg #[.string h, .int .u64 l, .int .u32 rf, .bool g], .string nm] w fun e w' => e = .returned (.agg #[.string h, .int .u64 l, .int .u32 rf, .bool g]) ∧ Below w.heap.size w w' := by
  go_enter Try.func35, Try.ntmps35
  go_wp2_with fail
  refine (unhide HC _).mono ?_
  rintro e w1 ⟨rfl, hb⟩
  have hB1 : Below w.heap.size w w1 := (((Below.refl _ _).alloc (Nat.le_refl _) _).alloc (by simp) _).trans (hb.mono (by simp; omega))
  have hz1 : w.heap.size + 1 < w1.heap.size := by have := hb.size; simp at this; omega
  have c0 : w1.cell? ⟨w.heap.size, 0, none⟩ = some (.string h) := (hb.cell (p := ⟨w.heap.size, 0, none⟩) (by simp; omega)).trans (by simp)
  have c1 : w1.cell? ⟨w.heap.size, 1, none⟩ = some (.int .u64 l) := (hb.cell (p := ⟨w.heap.size, 1, none⟩) (by simp; omega)).trans (by simp)
  have c2 : w1.cell? ⟨w.heap.size, 2, none⟩ = some (.int .u32 rf) := (hb.cell (p := ⟨w.heap.size, 2, none⟩) (by simp; omega)).trans (by simp)
  have c3 : w1.cell? ⟨w.heap.size, 3, none⟩ = some (.bool g) := (hb.cell (p := ⟨w.heap.size, 3, none⟩) (by simp; omega)).trans (by simp)
  have d0 : w1.cell? ⟨w.heap.size + 1, 0, none⟩ = some (.string ⟨#[]⟩) := (hb.cell (p := ⟨w.heap.size + 1, 0, none⟩) (by simp)).trans (by simp)
  have d1 : w1.cell? ⟨w.heap.size + 1, 1, none⟩ = some (.int .u64 0) := (hb.cell (p := ⟨w.heap.size + 1, 1, none⟩) (by simp)).trans (by simp)
  have d2 : w1.cell? ⟨w.heap.size + 1, 2, none⟩ = some (.int .u32 0) := (hb.cell (p := ⟨w.heap.size + 1, 2, none⟩) (by simp)).trans (by simp)
  have d3 : w1.cell? ⟨w.heap.size + 1, 3, none⟩ = some (.bool false) := (hb.cell (p := ⟨w.heap.size + 1, 3, none⟩) (by simp)).trans (by simp)
  have f0 : w1.frozen? ⟨w.heap.size + 1, 0, none⟩ = false := (hb.frozen (p := ⟨w.heap.size + 1, 0, none⟩) (by simp)).trans (by simp)
  have f1 : w1.frozen? ⟨w.heap.size + 1, 1, none⟩ = false := (hb.frozen (p := ⟨w.heap.size + 1, 1, none⟩) (by simp)).trans (by simp)
  have f2 : w1.frozen? ⟨w.heap.size + 1, 2, none⟩ = false := (hb.frozen (p := ⟨w.heap.size + 1, 2, none⟩) (by simp)).trans (by simp)
  have f3 : w1.frozen? ⟨w.heap.size + 1, 3, none⟩ = false := (hb.frozen (p := ⟨w.heap.size + 1, 3, none⟩) (by simp)).trans (by simp)
  clear hb
  go_wp2
  refine bodyPost_ret (v := .agg #[.string h, .int .u64 l, .int .u32 rf, .bool g]) (by simp [results, Try.results35, go_sem, d0, d1, d2, d3]) rfl ⟨rfl, ?_⟩
  exact (((hB1.setCell (Nat.le_succ _) _).setCell (Nat.le_succ _) _).setCell (Nat.le_succ _) _).setCell (Nat.le_succ _) _

set_option maxHeartbeats 1000000 in
theorem withoutShare_yes (h : ByteArray) (l rf : Int) (g : Bool) (nm : ByteArray) (A : Nat) (w : World) (hA : A + 12 ≤ h.size) (hsm : h.size ≤ 2097152)
    (HC : Hid (∀ w, Calls Try.prog 30 #[.agg #[.string h, .int .u64 l, .int .u32 rf, .bool g], .string nm] w fun e w' => e = .returned (.tuple #[.int .i64 A, .bool true]) ∧ Below w.heap.size w w')) :
    Calls Try.prog 35 #[.agg #[.string h, .int .u64 l, .int .u32 rf, .bool g], .string nm] w fun e w' => e = .returned (.agg #[.string (h.extract 0 A ++ h.extract (A + 12) h.size), .int .u64 l, .int .u32 0, .bool false]) ∧ Below w.heap.size w w' := by
  go_enter Try.func35, Try.ntmps35
  go_wp2_with fail
  refine (unhide HC _).mono ?_
  rintro e w1 ⟨rfl, hb⟩
  have hB1 : Below w.heap.size w w1 := (((Below.refl _ _).alloc (Nat.le_refl _) _).alloc (by simp) _).trans (hb.mono (by simp; omega))
  have hz1 : w.heap.size + 1 < w1.heap.size := by have := hb.size; simp at this; omega
  have c0 : w1.cell? ⟨w.heap.size, 0, none⟩ = some (.string h) := (hb.cell (p := ⟨w.heap.size, 0, none⟩) (by simp; omega)).trans (by simp)
  have c1 : w1.cell? ⟨w.heap.size, 1, none⟩ = some (.int .u64 l) := (hb.cell (p := ⟨w.heap.size, 1, none⟩) (by simp; omega)).trans (by simp)
  have c2 : w1.cell? ⟨w.heap.size, 2, none⟩ = some (.int .u32 rf) := (hb.cell (p := ⟨w.heap.size, 2, none⟩) (by simp; omega)).trans (by simp)
  have c3 : w1.cell? ⟨w.heap.size, 3, none⟩ = some (.bool g) := (hb.cell (p := ⟨w.heap.size, 3, none⟩) (by simp; omega)).trans (by simp)
  have d0 : w1.cell? ⟨w.heap.size + 1, 0, none⟩ = some (.string ⟨#[]⟩) := (hb.cell (p := ⟨w.heap.size + 1, 0, none⟩) (by simp)).trans (by simp)
  have d1 : w1.cell? ⟨w.heap.size + 1, 1, none⟩ = some (.int .u64 0) := (hb.cell (p := ⟨w.heap.size + 1, 1, none⟩) (by simp)).trans (by simp)
  have d2 : w1.cell? ⟨w.heap.size + 1, 2, none⟩ = some (.int .u32 0) := (hb.cell (p := ⟨w.heap.size + 1, 2, none⟩) (by simp)).trans (by simp)
  have d3 : w1.cell? ⟨w.heap.size + 1, 3, none⟩ = some (.bool false) := (hb.cell (p := ⟨w.heap.size + 1, 3, none⟩) (by simp)).trans (by simp)
  have f0 : w1.frozen? ⟨w.heap.size + 1, 0, none⟩ = false := (hb.frozen (p := ⟨w.heap.size + 1, 0, none⟩) (by simp)).trans (by simp)
  have f1 : w1.frozen? ⟨w.heap.size + 1, 1, none⟩ = false := (hb.frozen (p := ⟨w.heap.size + 1, 1, none⟩) (by simp)).trans (by simp)
  have f2 : w1.frozen? ⟨w.heap.size + 1, 2, none⟩ = false := (hb.frozen (p := ⟨w.heap.size + 1, 2, none⟩) (by simp)).trans (by simp)
  have f3 : w1.frozen? ⟨w.heap.size + 1, 3, none⟩ = false := (hb.frozen (p := ⟨w.heap.size + 1, 3, none⟩) (by simp)).trans (by simp)
  have hA1 : (A : Int) ≤ (h.size : Int) := by omega
  have hA2 : (A : Int) + 12 ≤ (h.size : Int) := by omega
  clear hb
  go_wp2
  go_region
  go_wp2
  refine bodyPost_ret (v := .agg #[.string (h.extract 0 A ++ h.extract (A + 12) h.size), .int .u64 l, .int .u32 0, .bool false]) (by simp [results, Try.results35, go_sem, d0, d1, d2, d3]) rfl ⟨rfl, ?_⟩
  first
    | exact ((((hB1.setCell (Nat.le_succ _) _).setCell (Nat.le_succ _) _).setCell (Nat.le_succ _) _).setCell (Nat.le_succ _) _).drew
    | exact ((((hB1.drew.setCell (Nat.le_succ _) _).setCell (Nat.le_succ _) _).setCell (Nat.le_succ _) _).setCell (Nat.le_succ _) _)

/-- What the row becomes. -/
theorem IsRow.removed {h : ByteArray} {S : List Sh} (r : IsRow h S) {nm : List UInt8} (hf : foundAt S nm = true) : IsRow (h.extract 0 (12 * rk S nm) ++ h.extract (12 * rk S nm + 12) h.size) (rem S nm) := by
  obtain ⟨t1, _, _⟩ := tok_at r hf
  have hle := rk_le S nm
  have hlt : rk S nm + 1 ≤ S.length := by have := r.size; omega
  have e : (h.extract 0 (12 * rk S nm) ++ h.extract (12 * rk S nm + 12) h.size).data.toList = enc (rem S nm) := by
    rw [ByteArray.data_append, Array.toList_append, ext_toList, ext_toList, r.eq, List.drop_zero, Nat.sub_zero, (enc_split r.wf _ hle).1, show 12 * rk S nm + 12 = 12 * (rk S nm + 1) by omega, (enc_split r.wf _ hlt).2]
    have e2 : (enc (S.drop (rk S nm + 1))).take (h.size - 12 * (rk S nm + 1)) = enc (S.drop (rk S nm + 1)) :=
      List.take_of_length_le (by rw [enc_length (fun x hx => r.wf x (List.mem_of_mem_drop hx)), List.length_drop]; have := r.size; omega)
    rw [e2]
    unfold rem
    rw [(lo_take S nm).1, (lo_take S nm).2, List.tail_drop, enc_append]
  obtain ⟨g1, g2⟩ := rem_good r.wf r.srt nm
  refine ⟨e, g1, g2, ?_⟩
  have := r.small
  simp [ByteArray.size_append]
  omega
theorem isRow_ext {a b : ByteArray} {S : List Sh} (h : IsRow a S) (k : IsRow b S) : a = b := ByteArray.ext (Array.toList_inj.1 (h.eq.trans k.eq.symm))

/-- withoutShare on a row of shares. -/
theorem withoutShare_row (h : ByteArray) (l rf : Int) (g : Bool) (nm : ByteArray) (S : List Sh) (w : World) (hr : IsRow h S) (hn : nm.size = 4) (hf : foundAt S nm.data.toList = true) :
    Calls Try.prog 35 #[.agg #[.string h, .int .u64 l, .int .u32 rf, .bool g], .string nm] w fun e w' => ∃ h', IsRow h' (rem S nm.data.toList) ∧ e = .returned (.agg #[.string h', .int .u64 l, .int .u32 0, .bool false]) ∧ Below w.heap.size w w' := by
  have hS : S ≠ [] := by rintro rfl; cases hf
  have HC : Hid (∀ w, Calls Try.prog 30 #[.agg #[.string h, .int .u64 l, .int .u32 rf, .bool g], .string nm] w fun e w' =>
      e = .returned (.tuple #[.int .i64 ((12 * rk S nm.data.toList : Nat) : Int), .bool (foundAt S nm.data.toList)]) ∧ Below w.heap.size w w') := fun w => shareAt_any h l rf g nm S w hr hS hn
  rw [hf] at HC
  exact (withoutShare_yes h l rf g nm _ w (tok_at hr hf).1 hr.small HC).mono fun e w' ⟨he, hb⟩ => ⟨_, hr.removed hf, he, hb⟩

end Go.Proofs.Qxb6600199a
