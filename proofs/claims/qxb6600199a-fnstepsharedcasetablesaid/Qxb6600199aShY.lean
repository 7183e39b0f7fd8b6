/-
  zzInsert (19) at a free name, zzWell (11), the bytes' bound (24).
-/
import Derived.Test.Qxb6600199aShX
namespace Go.Proofs.Qxb6600199a
open Go.RowKit

theorem enc_ins_nil (nm : List UInt8) (t : Nat) : enc (ins [] nm t) = nm ++ be8 t := by simp [ins, lo, hi, enc, encS]

set_option maxHeartbeats 4000000 in
set_option maxRecDepth 20000 in
theorem insert_nil (h nm : ByteArray) (t : Nat) (w : World) (hh : h.size = 0) (hn : nm.size = 4) (ht : t < 18446744073709551616) :
    Calls Try.prog 19 #[.string h, .string nm, .int .u64 t] w fun e w' => e = .returned (.string (⟨(enc (ins [] nm.data.toList t)).toArray⟩)) ∧ Below w.heap.size w w' := by
  have hh4 : h.size ≤ 4 := by omega
  have hd : decide ((4 : Int) < (h.size : Int)) = false := by simp; omega
  have HNS := hide hn
  have hn4 : Hid (nm.data.toList.length = 4) := hide (by rw [Array.length_toList]; exact hn)
  obtain ⟨i0, hi, hz0, hz1, hz2⟩ := info_parts infoByte
  obtain ⟨x0, x1, x2, x3, x4, x5, x6, x7, hb8⟩ := b8_some t
  have HB8 := hide hb8
  have H33 := hide (fun w => tokenBytes_any t w ht)
  rw [hb8] at H33
  have HNW : Hid (∀ u ∈ Lib.byteCells (be8 t), u.oneCell' = true) := hide (fun u hu => by
    obtain ⟨b, _, rfl⟩ := List.mem_map.1 hu
    rfl)
  have hn44 : nm.size ≤ 4 := by omega
  clear hb8 hh hn
  go_enter Try.func19, Try.ntmps19
  go_wp2_with (at_make; refine wpList_make_own _ rfl _ _ 59 rfl w.heap.size 5 i0 (.int .u8 0) 1 Try.underlying59 hi hz0 hz1 .i64 .i64 _ (h.size + 12) rfl rfl (by omega) (by rw [hz2]; omega) (by unfold maxLen; omega) (Nat.le_refl _) ?_; intro w1 hown1 hgrow1)
  have hb1 : Below w.heap.size w w1 := (Below.refl _ _).grown hgrow1 (Nat.le_refl _) (fun k hk => by cases hk)
  have hlt1 := (hown1.lt _ rfl).2
  clear hgrow1
  refine (unhide H33 _).mono ?_
  rintro e w2 ⟨rfl, hb2⟩
  have hown2 := hown1.kept (grown_of_below hb2) (.inr (by simp [Value.ownBlock]))
  have hb12 := hb1.trans (hb2.mono hb1.size)
  clear hown1
  have hTA : TB (w2.alloc (.cells #[.int .u8 x0, .int .u8 x1, .int .u8 x2, .int .u8 x3, .int .u8 x4, .int .u8 x5, .int .u8 x6, .int .u8 x7] 60)) w2.heap.size t := by
    unfold TB
    rw [HB8.out]
    exact heap_alloc_new _ _
  have hownA := hown2.alloc (.cells #[.int .u8 x0, .int .u8 x1, .int .u8 x2, .int .u8 x3, .int .u8 x4, .int .u8 x5, .int .u8 x6, .int .u8 x7] 60)
  have hbA := hb12.alloc hb12.size (.cells #[.int .u8 x0, .int .u8 x1, .int .u8 x2, .int .u8 x3, .int .u8 x4, .int .u8 x5, .int .u8 x6, .int .u8 x7] 60)
  have hwA := hbA.size
  clear hown2 H33 HB8 hlt1 hb1 hb2
  go_upto_region 15 with (at_builtin; refine Lib.wpList_append_own_string _ rfl _ _ 59 9 rfl w.heap.size 5 i0 Try.underlying59 Try.underlying9 hi hz0 hz1 hz2 _ _ _ rfl hownA nm rfl (by unfold maxLen; omega) (by omega) (by omega) ?_; intro v3 w3 hown3 hgrow3 hiff3)
  have hb3 : Below w.heap.size w w3 := hbA.grown hgrow3 hbA.size (fun j hj => (hownA.lt j hj).1)
  have hT3 := hTA.grown hownA hgrow3
  have hw3 : w.heap.size ≤ w3.heap.size := hb3.size
  go_upto_region 16 with (at_builtin; refine wpList_append_own _ rfl _ _ 59 rfl w.heap.size 5 i0 (.int .u8 0) 1 1 Try.underlying59 hi hz0 hz1 hz2 rfl (by decide) _ _ _ rfl hown3 ⟨w2.heap.size, 0, none⟩ 8 8 (Lib.byteCells (be8 t)) rfl rfl hT3.cell HNW.out (by unfold maxLen; omega) (by omega) (by omega) ?_; intro v4 w4 hown4 hgrow4 hiff4)
  have hb4 : Below w.heap.size w w4 := hb3.grown hgrow4 hb3.size (fun j hj => (hown3.lt j hj).1)
  have e2 : enc (ins [] nm.data.toList t) = nm.data.toList ++ be8 t := enc_ins_nil _ _
  have hx4 : w4.ownsRow w.heap.size 5 1 v4 (0 + nm.size + 8) (Lib.byteCells (enc (ins [] nm.data.toList t))) := by
    rw [e2, Lib.byteCells_append]
    rw [Lib.strCells_eq, List.nil_append] at hown4
    exact hown4
  have hlen : 0 + nm.size + 8 = (enc (ins [] nm.data.toList t)).length := by
    rw [e2, List.length_append, be8_length, hn4.out, HNS.out]
  obtain ⟨g, cap, hv, hrun⟩ := own_str hx4 (fun he => by have := (hiff3.1 (hiff4.1 he).1).1; cases this) hlen
  rw [hv]
  clear hlen hx4 hown4 hown3 hiff3 hiff4 hv hownA hgrow3 hgrow4 hT3 e2
  generalize 0 + nm.size + 8 = N at hrun
  go_wp2
  go_ret
  exact ⟨rfl, hb4⟩

theorem insert_any (h nm : ByteArray) (S : List Sh) (t : Nat) (w : World) (hr : IsRow h S) (hn : nm.size = 4) (ht : t < 18446744073709551616) (hf : foundAt S nm.data.toList = false) :
    Calls Try.prog 19 #[.string h, .string nm, .int .u64 t] w fun e w' => e = .returned (.string (⟨(enc (ins S nm.data.toList t)).toArray⟩)) ∧ Below w.heap.size w w' := by
  by_cases hS : S = []
  · subst hS
    exact insert_nil h nm t w (by rw [hr.size]; rfl) hn ht
  · exact insert_row h nm S t w hr hS hn ht hf

/-- zzWell's answer. -/
def Well11 (e : Ending) (h : ByteArray) : Prop := ∃ b : Bool, e = .returned (.bool b) ∧ (b = true → h.size = 4 ∨ ∃ S, IsRow h S)

set_option maxHeartbeats 1000000 in
theorem well11 (h : ByteArray) (w : World) (hsm : h.size ≤ 2097152) :
    Calls Try.prog 11 #[.string h] w fun e w' => Well11 e h ∧ Dr w w' := by
  by_cases h0 : h.size = 0
  · have H0 := hide h0
    have d0 : ((h.size : Int) == 0) = true := by rw [h0]; rfl
    clear h0
    go_enter Try.func11, Try.ntmps11
    go_wp2
    go_ret
    exact ⟨⟨true, rfl, fun _ => .inr ⟨[], isRow_nil H0.out⟩⟩, Dr.refl _⟩
  · have d0 : ((h.size : Int) == 0) = false := beq_eq_false_iff_ne.2 (by omega)
    by_cases h4 : h.size = 4
    · have H4 := hide h4
      have d4 : ((h.size : Int) == 4) = true := by rw [h4]; rfl
      clear h4 h0
      go_enter Try.func11, Try.ntmps11
      go_wp2
      go_ret
      exact ⟨⟨true, rfl, fun _ => .inl H4.out⟩, Dr.refl _⟩
    · have d4 : ((h.size : Int) == 4) = false := beq_eq_false_iff_ne.2 (by omega)
      have HW := hide (fun w => well_any h w hsm)
      clear h4 h0
      go_enter Try.func11, Try.ntmps11
      go_wp2_with fail
      refine (unhide HW _).mono ?_
      rintro e w1 ⟨⟨b, rfl, hb⟩, hd⟩
      have HB := hide hb
      clear hb
      go_wp2
      go_ret
      exact ⟨⟨b, rfl, fun hb => by obtain ⟨S, hr, _⟩ := HB.out.1 hb; exact .inr ⟨S, hr⟩⟩, hd⟩

end Go.Proofs.Qxb6600199a
