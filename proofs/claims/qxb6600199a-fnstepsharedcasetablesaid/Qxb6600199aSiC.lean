/-
  FnStepSharedCaseTable (8): the row.
-/
import Derived.Test.Qxb6600199aSiB
import Derived.WalkKit
import Derived.ProofKit
import Derived.ShutString
namespace Go.Proofs.Qxb6600199a.fnStepSharedCaseTable
open Go.ChangeShapes Go.WideShapes Go.ChangeAt Go.RowKit
open Go.ChangeMaps (open_string shut_string)

theorem own : ownKnob Try.prog.godebug = none := by kernel_rfl

theorem trodAll_cons_mk {H : Type} {enc : TypeId × Value → H} {P : Program} {w : World} {base : Nat} {spare : Nat → Bool} {held : Bool} {t : TypeId} {ts : List TypeId} {v : Value} {vs : List Value} {d : DataW H} {ds : List (DataW H)} {p p' : List MemPlace}
    (h : DataW.Trod enc P w base spare held t v d p) (hs : DataW.TrodAll enc P w base spare held ts vs ds p') : DataW.TrodAll enc P w base spare held (t :: ts) (v :: vs) (d :: ds) (p ++ p') :=
  ⟨p, p', h, hs, rfl⟩
theorem trodAll_mk0 {H : Type} {enc : TypeId × Value → H} {P : Program} {w : World} {base : Nat} {spare : Nat → Bool} {held : Bool} : DataW.TrodAll enc P w base spare held [] [] [] [] := rfl

theorem u64_nat {a : Int} (h : (Lit.int .u64 a).wf = true) : ∃ t : Nat, t < 18446744073709551616 ∧ a = (t : Int) := by
  have h1 : IntKind.u64.min ≤ a ∧ a ≤ IntKind.u64.max := by simpa [Lit.wf] using h
  have e1 : IntKind.u64.min = 0 := by decide
  have e2 : IntKind.u64.max = 18446744073709551615 := by decide
  exact ⟨a.toNat, by omega, by omega⟩

set_option maxHeartbeats 2000000 in
set_option maxRecDepth 20000 in
theorem not4 (h nm kd : ByteArray) (l rf t : Int) (g an ac re sh : Bool) (w : World) (hs : h.size + nm.size + kd.size ≤ 1048576) (hn : nm.size ≠ 4) :
    Calls Try.prog 8 #[.string h, .int .u64 l, .int .u32 rf, .bool g, .string nm, .string kd, .bool an, .bool ac, .bool re, .bool sh, .int .u64 t] w fun e w' => e = .returned (.bool true) ∧ Below w.heap.size w w' := by
  have hn4 : (((nm.size : Int)) != 4) = true := by simp; omega
  have hd1 : decide ((1048576 : Int) < (h.size : Int) + (nm.size : Int) + (kd.size : Int)) = false := by simp; omega
  clear hn
  go_enter Try.func8, Try.ntmps8
  go_wp2_with fail
  refine (bytes24_yes h nm kd l rf t g an ac re sh w hs).mono ?_
  rintro e w' ⟨rfl, hw⟩
  obtain rfl := hw.symm
  clear hw
  go_wp2
  go_ret
  exact ⟨rfl, (Dr.refl w).below _⟩

set_option maxHeartbeats 2000000 in
set_option maxRecDepth 20000 in
theorem tooBig (h nm kd : ByteArray) (l rf t : Int) (g an ac re sh : Bool) (w : World) (w0 : h.size ≤ maxLen) (w4 : nm.size ≤ maxLen) (w5 : kd.size ≤ maxLen) (hs : ¬ h.size + nm.size + kd.size ≤ 1048576) :
    Calls Try.prog 8 #[.string h, .int .u64 l, .int .u32 rf, .bool g, .string nm, .string kd, .bool an, .bool ac, .bool re, .bool sh, .int .u64 t] w fun e w' => e = .returned (.bool true) ∧ Below w.heap.size w w' := by
  have HC := hide (bytes24_no h nm kd l rf t g an ac re sh w w0 w4 w5 hs)
  clear hs
  go_enter Try.func8, Try.ntmps8
  go_wp2_with fail
  refine (unhide HC).mono ?_
  rintro e w' ⟨rfl, hw⟩
  obtain rfl := hw.symm
  clear hw
  go_wp2
  go_ret
  exact ⟨rfl, (Dr.refl w).below _⟩

theorem walk (a0 : ByteArray) (a1 : Int) (a2 : Int) (a3 : Bool) (a4 : ByteArray) (a5 : ByteArray) (a6 : Bool) (a7 : Bool) (a8 : Bool) (a9 : Bool) (a10 : Int) (w0 : a0.size ≤ maxLen) (w4 : a4.size ≤ maxLen) (w5 : a5.size ≤ maxLen) (w10 : (Lit.int .u64 a10).wf = true) (w : World) :
    Calls Try.prog 8 #[.string a0, .int .u64 a1, .int .u32 a2, .bool a3, .string a4, .string a5, .bool a6, .bool a7, .bool a8, .bool a9, .int .u64 a10] w fun e w' => e = .returned (.bool true) ∧ Below w.heap.size w w' := by
  by_cases hs : a0.size + a4.size + a5.size ≤ 1048576
  · by_cases hn : a4.size = 4
    · obtain ⟨t, ht, rfl⟩ := u64_nat w10
      exact walk8 a0 a4 a5 a1 a2 t a3 a6 a7 a8 a9 w ht hs hn
    · exact not4 a0 a4 a5 a1 a2 a10 a3 a6 a7 a8 a9 w hs hn
  · exact tooBig a0 a4 a5 a1 a2 a10 a3 a6 a7 a8 a9 w w0 w4 w5 hs

/-! ### THE ROW's STEP: WRITTEN OUT: LEAVE IT -/
set_option maxRecDepth 100000 in
theorem lifted (os : Os) (started : os.Started) (H : Type) (enc : TypeId × Value → H) :
    ReturnsInHanded {} Try.checked os 8 .any (Rows.fnStepSharedCaseTableSpec.pre6 enc Try.prog Try.f8 Rows.fnStepSharedCaseTableRow.domain false) (Rows.fnStepSharedCaseTableSpec.post enc Try.prog Try.f8 false true false false) := by
  refine returnsInHanded_of_change (C := Try.checked) own started (by kernel_rfl) Try.func8
    (ChangeSpec.witness6 (enc := enc) (C := Try.checked) false ⟨#[], #[.string ByteArray.empty, .int .u64 0, .int .u32 0, .bool false, .string ByteArray.empty, .string ByteArray.empty, .bool false, .bool false, .bool false, .bool false, .int .u64 0], []⟩ 8 (by kernel_rfl) (by kernel_rfl) (by kernel_rfl) (by kernel_rfl)) ?_
  intro W base args ds gs before hval0 hW hcnd _
  have hval : ∀ (j : Nat) t v, Try.f8.params[j]? = some t → args[j]? = some v → Value.okWide Try.prog W .any base t v := hval0
  have hW' := hW
  obtain ⟨p, q, hA0, hV, rfl, hfz, hnd⟩ := hW
  have hA : DataW.TrodAll enc Try.prog W 0 (fun _ => true) true Try.f8.params.toList args.toList ds p := hA0
  rw [Try.params8] at hA hval
  obtain ⟨v0, vs0, d0, ds0, p0, q0, hargs, rfl, rfl, h0, r0⟩ := trodAll_cons hA
  obtain ⟨v1, vs1, d1, ds1, p1, q1, rfl, rfl, rfl, h1, r1⟩ := trodAll_cons r0
  obtain ⟨v2, vs2, d2, ds2, p2, q2, rfl, rfl, rfl, h2, r2⟩ := trodAll_cons r1
  obtain ⟨v3, vs3, d3, ds3, p3, q3, rfl, rfl, rfl, h3, r3⟩ := trodAll_cons r2
  obtain ⟨v4, vs4, d4, ds4, p4, q4, rfl, rfl, rfl, h4, r4⟩ := trodAll_cons r3
  obtain ⟨v5, vs5, d5, ds5, p5, q5, rfl, rfl, rfl, h5, r5⟩ := trodAll_cons r4
  obtain ⟨v6, vs6, d6, ds6, p6, q6, rfl, rfl, rfl, h6, r6⟩ := trodAll_cons r5
  obtain ⟨v7, vs7, d7, ds7, p7, q7, rfl, rfl, rfl, h7, r7⟩ := trodAll_cons r6
  obtain ⟨v8, vs8, d8, ds8, p8, q8, rfl, rfl, rfl, h8, r8⟩ := trodAll_cons r7
  obtain ⟨v9, vs9, d9, ds9, p9, q9, rfl, rfl, rfl, h9, r9⟩ := trodAll_cons r8
  obtain ⟨v10, vs10, d10, ds10, p10, q10, rfl, rfl, rfl, h10, r10⟩ := trodAll_cons r9
  obtain ⟨rfl, rfl, rfl⟩ := trodAll_nil r10
  obtain rfl : args = #[v0, v1, v2, v3, v4, v5, v6, v7, v8, v9, v10] := by cases args; simp_all
  obtain ⟨rfl, rfl⟩ := trodVars_none hV
  obtain ⟨a0, rfl, rfl, rfl, w0⟩ := open_string Try.underlying9 (hval 0 9 v0 rfl rfl) h0
  obtain ⟨a1, rfl, rfl, rfl, w1⟩ := open_int Try.underlying22 (hval 1 22 v1 rfl rfl) h1
  obtain ⟨a2, rfl, rfl, rfl, w2⟩ := open_int Try.underlying23 (hval 2 23 v2 rfl rfl) h2
  obtain ⟨a3, rfl, rfl, rfl⟩ := open_bool Try.underlying4 (hval 3 4 v3 rfl rfl) h3
  obtain ⟨a4, rfl, rfl, rfl, w4⟩ := open_string Try.underlying9 (hval 4 9 v4 rfl rfl) h4
  obtain ⟨a5, rfl, rfl, rfl, w5⟩ := open_string Try.underlying9 (hval 5 9 v5 rfl rfl) h5
  obtain ⟨a6, rfl, rfl, rfl⟩ := open_bool Try.underlying4 (hval 6 4 v6 rfl rfl) h6
  obtain ⟨a7, rfl, rfl, rfl⟩ := open_bool Try.underlying4 (hval 7 4 v7 rfl rfl) h7
  obtain ⟨a8, rfl, rfl, rfl⟩ := open_bool Try.underlying4 (hval 8 4 v8 rfl rfl) h8
  obtain ⟨a9, rfl, rfl, rfl⟩ := open_bool Try.underlying4 (hval 9 4 v9 rfl rfl) h9
  obtain ⟨a10, rfl, rfl, rfl, w10⟩ := open_int Try.underlying22 (hval 10 22 v10 rfl rfl) h10
  clear hA0 hval0
  simp only [List.append_nil] at hW'
  refine (walk a0 a1 a2 a3 a4 a5 a6 a7 a8 a9 a10 w0 w4 w5 w10 W).mono fun e W' ⟨he, bel⟩ => ?_
  subst he
  exact ⟨_, rfl, _, _, _, [], _, [], hW', trodAll_mk1 (shut_bool Try.underlying4 _), trodAll_cons_mk (shut_string Try.underlying9 w0) (trodAll_cons_mk (shut_int Try.underlying22 w1) (trodAll_cons_mk (shut_int Try.underlying23 w2) (trodAll_cons_mk (shut_bool Try.underlying4 _) (trodAll_cons_mk (shut_string Try.underlying9 w4) (trodAll_cons_mk (shut_string Try.underlying9 w5) (trodAll_cons_mk (shut_bool Try.underlying4 _) (trodAll_cons_mk (shut_bool Try.underlying4 _) (trodAll_cons_mk (shut_bool Try.underlying4 _) (trodAll_cons_mk (shut_bool Try.underlying4 _) (trodAll_cons_mk (shut_int Try.underlying22 w10) trodAll_mk0)))))))))), rfl, bel.frame _, fun h => by cases h⟩

theorem over : Rows.fnStepSharedCaseTableRow.holds Try.pinned (OpenSpec.ofChange Rows.fnStepSharedCaseTableSpec) :=
  OpenClaim.holds_of_wide 8 Try.f8 rfl rfl rfl rfl rfl rfl rfl ⟨rfl, rfl, rfl, rfl, rfl⟩ rfl rfl rfl rfl rfl (by kernel_rfl) Try.func8 (by kernel_rfl)
    (of_decide_eq_true (by kernel_rfl)) (by unfold Func.isWrapper; first | (rw [if_pos (by decide +kernel)]; kernel_rfl) | (rw [if_neg (by decide +kernel)]; exact ⟨rfl, rfl⟩))
    (fun os started H enc _ => lifted os started H enc)

end Go.Proofs.Qxb6600199a.fnStepSharedCaseTable

namespace Go.Proofs.Qxb6600199a
theorem fnStepSharedCaseTable_proved : Rows.FnStepSharedCaseTableSaid :=
  fnStepSharedCaseTable.over
end Go.Proofs.Qxb6600199a
