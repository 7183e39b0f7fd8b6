/-
  FnWithShareUndoneByWithoutShare: the row.
-/
import Derived.Test.Qxb6600199aShL
import Derived.WalkKit
import Derived.ProofKit
import Derived.ShutString
namespace Go.Proofs.Qxb6600199a.fnWithShareUndoneByWithoutShare
open Go.ChangeShapes Go.WideShapes Go.ChangeAt Go.RowKit
open Go.ChangeMaps (open_string shut_string)

theorem own : ownKnob Try.prog.godebug = none := by kernel_rfl

theorem trodAll_cons_mk {H : Type} {enc : TypeId × Value → H} {P : Program} {w : World} {base : Nat} {spare : Nat → Bool} {held : Bool} {t : TypeId} {ts : List TypeId} {v : Value} {vs : List Value} {d : DataW H} {ds : List (DataW H)} {p p' : List MemPlace}
    (h : DataW.Trod enc P w base spare held t v d p) (hs : DataW.TrodAll enc P w base spare held ts vs ds p') : DataW.TrodAll enc P w base spare held (t :: ts) (v :: vs) (d :: ds) (p ++ p') :=
  ⟨p, p', h, hs, rfl⟩
theorem trodAll_mk0 {H : Type} {enc : TypeId × Value → H} {P : Program} {w : World} {base : Nat} {spare : Nat → Bool} {held : Bool} : DataW.TrodAll enc P w base spare held [] [] [] [] := rfl

theorem u64_nat {a : Int} (h : (Lit.int .u64 a).wf = true) : ∃ t : Nat, t < 18446744073709551616 ∧ a = (t : Int) := by
  have h1 : IntKind.u64.min ≤ a ∧ a ≤ IntKind.u64.max := by simpa [Lit.wf] using h
  have e1 : IntKind.u64.min = 0 := by decide
  have e2 : IntKind.u64.max = 18446744073709551615 := by decide
  exact ⟨a.toNat, by omega, by omega⟩

set_option maxHeartbeats 400000 in
theorem not4 (h nm : ByteArray) (l rf t : Int) (g : Bool) (w : World) (hs : h.size + nm.size ≤ 1048576) (hn : nm.size ≠ 4) :
    Calls Try.prog 6 #[.string h, .int .u64 l, .int .u32 rf, .bool g, .string nm, .int .u64 t] w fun e w' => e = .returned (.bool true) ∧ Below w.heap.size w w' := by
  have hn4 : (((nm.size : Int)) != 4) = true := by simp; omega
  have hd1 : decide ((1048576 : Int) < (h.size : Int) + (nm.size : Int)) = false := by simp; omega
  clear hn
  go_enter Try.func6, Try.ntmps6
  go_wp2_with fail
  refine (bytes20_yes h nm l rf t g w hs).mono ?_
  rintro e w' ⟨rfl, hw⟩
  obtain rfl := hw.symm
  clear hw
  go_wp2
  go_ret
  exact ⟨rfl, (Dr.refl w).below _⟩

set_option maxHeartbeats 400000 in
theorem tooBig (h nm : ByteArray) (l rf t : Int) (g : Bool) (w : World) (w0 : h.size ≤ maxLen) (w4 : nm.size ≤ maxLen) (hs : ¬ h.size + nm.size ≤ 1048576) :
    Calls Try.prog 6 #[.string h, .int .u64 l, .int .u32 rf, .bool g, .string nm, .int .u64 t] w fun e w' => e = .returned (.bool true) ∧ Below w.heap.size w w' := by
  have HC := hide (bytes20_no h nm l rf t g w w0 w4 hs)
  clear hs
  go_enter Try.func6, Try.ntmps6
  go_wp2_with fail
  refine (unhide HC).mono ?_
  rintro e w' ⟨rfl, hw⟩
  obtain rfl := hw.symm
  clear hw
  go_wp2
  go_ret
  exact ⟨rfl, (Dr.refl w).below _⟩

theorem walk (a0 : ByteArray) (a1 : Int) (a2 : Int) (a3 : Bool) (a4 : ByteArray) (a5 : Int) (w0 : a0.size ≤ maxLen) (w4 : a4.size ≤ maxLen) (w5 : (Lit.int .u64 a5).wf = true) (w : World) :
    Calls Try.prog 6 #[.string a0, .int .u64 a1, .int .u32 a2, .bool a3, .string a4, .int .u64 a5] w fun e w' => e = .returned (.bool true) ∧ Below w.heap.size w w' := by
  by_cases hs : a0.size + a4.size ≤ 1048576
  · by_cases hn : a4.size = 4
    · obtain ⟨t, ht, rfl⟩ := u64_nat w5
      exact undone_tail a0 a4 a1 a2 t a3 w ht hs hn
    · exact not4 a0 a4 a1 a2 a5 a3 w hs hn
  · exact tooBig a0 a4 a1 a2 a5 a3 w w0 w4 hs

/-! ### THE ROW's STEP: WRITTEN OUT: LEAVE IT -/
set_option maxRecDepth 100000 in
theorem lifted (os : Os) (started : os.Started) (H : Type) (enc : TypeId × Value → H) :
    ReturnsInHanded {} Try.checked os 6 .any (Rows.fnWithShareUndoneByWithoutShareSpec.pre6 enc Try.prog Try.f6 Rows.fnWithShareUndoneByWithoutShareRow.domain false) (Rows.fnWithShareUndoneByWithoutShareSpec.post enc Try.prog Try.f6 false true false false) := by
  refine returnsInHanded_of_change (C := Try.checked) own started (by kernel_rfl) Try.func6
    (ChangeSpec.witness6 (enc := enc) (C := Try.checked) false ⟨#[], #[.string ByteArray.empty, .int .u64 0, .int .u32 0, .bool false, .string ByteArray.empty, .int .u64 0], []⟩ 8 (by kernel_rfl) (by kernel_rfl) (by kernel_rfl) (by kernel_rfl)) ?_
  intro W base args ds gs before hval0 hW hcnd _
  have hval : ∀ (j : Nat) t v, Try.f6.params[j]? = some t → args[j]? = some v → Value.okWide Try.prog W .any base t v := hval0
  have hW' := hW
  obtain ⟨p, q, hA0, hV, rfl, hfz, hnd⟩ := hW
  have hA : DataW.TrodAll enc Try.prog W 0 (fun _ => true) true Try.f6.params.toList args.toList ds p := hA0
  rw [Try.params6] at hA hval
  obtain ⟨v0, vs0, d0, ds0, p0, q0, hargs, rfl, rfl, h0, r0⟩ := trodAll_cons hA
  obtain ⟨v1, vs1, d1, ds1, p1, q1, rfl, rfl, rfl, h1, r1⟩ := trodAll_cons r0
  obtain ⟨v2, vs2, d2, ds2, p2, q2, rfl, rfl, rfl, h2, r2⟩ := trodAll_cons r1
  obtain ⟨v3, vs3, d3, ds3, p3, q3, rfl, rfl, rfl, h3, r3⟩ := trodAll_cons r2
  obtain ⟨v4, vs4, d4, ds4, p4, q4, rfl, rfl, rfl, h4, r4⟩ := trodAll_cons r3
  obtain ⟨v5, vs5, d5, ds5, p5, q5, rfl, rfl, rfl, h5, r5⟩ := trodAll_cons r4
  obtain ⟨rfl, rfl, rfl⟩ := trodAll_nil r5
  obtain rfl : args = #[v0, v1, v2, v3, v4, v5] := by cases args; simp_all
  obtain ⟨rfl, rfl⟩ := trodVars_none hV
  obtain ⟨a0, rfl, rfl, rfl, w0⟩ := open_string Try.underlying9 (hval 0 9 v0 rfl rfl) h0
  obtain ⟨a1, rfl, rfl, rfl, w1⟩ := open_int Try.underlying22 (hval 1 22 v1 rfl rfl) h1
  obtain ⟨a2, rfl, rfl, rfl, w2⟩ := open_int Try.underlying23 (hval 2 23 v2 rfl rfl) h2
  obtain ⟨a3, rfl, rfl, rfl⟩ := open_bool Try.underlying4 (hval 3 4 v3 rfl rfl) h3
  obtain ⟨a4, rfl, rfl, rfl, w4⟩ := open_string Try.underlying9 (hval 4 9 v4 rfl rfl) h4
  obtain ⟨a5, rfl, rfl, rfl, w5⟩ := open_int Try.underlying22 (hval 5 22 v5 rfl rfl) h5
  clear hA0 hval0
  simp only [List.append_nil] at hW'
  refine (walk a0 a1 a2 a3 a4 a5 w0 w4 w5 W).mono fun e W' ⟨he, bel⟩ => ?_
  subst he
  exact ⟨_, rfl, _, _, _, [], _, [], hW', trodAll_mk1 (shut_bool Try.underlying4 _), trodAll_cons_mk (shut_string Try.underlying9 w0) (trodAll_cons_mk (shut_int Try.underlying22 w1) (trodAll_cons_mk (shut_int Try.underlying23 w2) (trodAll_cons_mk (shut_bool Try.underlying4 _) (trodAll_cons_mk (shut_string Try.underlying9 w4) (trodAll_cons_mk (shut_int Try.underlying22 w5) trodAll_mk0))))), rfl, bel.frame _, fun h => by cases h⟩

theorem over : Rows.fnWithShareUndoneByWithoutShareRow.holds Try.pinned (OpenSpec.ofChange Rows.fnWithShareUndoneByWithoutShareSpec) :=
  OpenClaim.holds_of_wide 6 Try.f6 rfl rfl rfl rfl rfl rfl rfl ⟨rfl, rfl, rfl, rfl, rfl⟩ rfl rfl rfl rfl rfl (by kernel_rfl) Try.func6 (by kernel_rfl)
    (of_decide_eq_true (by kernel_rfl)) (by unfold Func.isWrapper; first | (rw [if_pos (by decide +kernel)]; kernel_rfl) | (rw [if_neg (by decide +kernel)]; exact ⟨rfl, rfl⟩))
    (fun os started H enc _ => lifted os started H enc)

end Go.Proofs.Qxb6600199a.fnWithShareUndoneByWithoutShare

namespace Go.Proofs.Qxb6600199a
theorem fnWithShareUndoneByWithoutShare_proved : Rows.FnWithShareUndoneByWithoutShareSaid :=
  fnWithShareUndoneByWithoutShare.over
end Go.Proofs.Qxb6600199a
