/-
  FnAppIDsAddHoldsDistinctFirstLines: the row.
-/
import Derived.Test.Qxb6600213aApE
import Derived.Test.Qxb6600213aApG
namespace Go.Proofs.Qxb6600213a.holds4
open Go.ChangeShapes Go.WideShapes Go.ChangeAt Go.RowKit

theorem cons_mk {H : Type} {enc : TypeId × Value → H} {P : Program} {w : World} {base : Nat} {spare : Nat → Bool} {held : Bool} {t : TypeId} {ts : List TypeId} {v : Value} {vs : List Value} {d : DataW H} {ds : List (DataW H)} {p p' : List MemPlace}
    (h : DataW.Trod enc P w base spare held t v d p) (hs : DataW.TrodAll enc P w base spare held ts vs ds p') : DataW.TrodAll enc P w base spare held (t :: ts) (v :: vs) (d :: ds) (p ++ p') :=
  ⟨p, p', h, hs, rfl⟩
theorem nil_mk {H : Type} {enc : TypeId × Value → H} {P : Program} {w : World} {base : Nat} {spare : Nat → Bool} {held : Bool} : DataW.TrodAll enc P w base spare held [] [] [] [] := rfl

set_option maxRecDepth 100000 in
theorem lifted (os : Os) (started : os.Started) (H : Type) (enc : TypeId × Value → H) :
    ReturnsInHanded {} Try.checked os 4 .any (Rows.fnAppIDsAddHoldsDistinctFirstLinesSpec.pre6 enc Try.prog Try.f4 Rows.fnAppIDsAddHoldsDistinctFirstLinesRow.domain false) (Rows.fnAppIDsAddHoldsDistinctFirstLinesSpec.post enc Try.prog Try.f4 false true false false) := by
  refine returnsInHanded_of_change_sized (C := Try.checked) Try.own started (by kernel_rfl) Try.func4
    (ChangeSpec.witness6 (enc := enc) (C := Try.checked) false ⟨#[], #[.slice none 0 0, .slice none 0 0, .slice none 0 0], []⟩ 8 (by kernel_rfl) (by kernel_rfl) (by kernel_rfl) (by kernel_rfl)) ?_
  intro W base args ds gs before hval0 hW _ hsz0 _
  have hsz : (DataW.weightsEach Try.prog (Try.f4.params.toList ++ Rows.fnAppIDsAddHoldsDistinctFirstLinesSpec.plain.varTypes Try.prog) (ds ++ gs)).all (· ≤ reachBytes) = true := hsz0
  clear hsz0
  have hval : ∀ (j : Nat) t v, Try.f4.params[j]? = some t → args[j]? = some v → Value.okWide Try.prog W .any base t v := hval0
  have hW' := hW
  obtain ⟨p, q, hA0, hV, rfl, hfz, hnd⟩ := hW
  have hA : DataW.TrodAll enc Try.prog W 0 (fun _ => true) true Try.f4.params.toList args.toList ds p := hA0
  rw [Try.params4] at hA hval hsz
  obtain ⟨v0, vs0, d0, ds0, p0, q0, hargs, rfl, rfl, h0, r0⟩ := trodAll_cons hA
  obtain ⟨v1, vs1, d1, ds1, p1, q1, rfl, rfl, rfl, h1, r1⟩ := trodAll_cons r0
  obtain ⟨v2, vs2, d2, ds2, p2, q2, rfl, rfl, rfl, h2, r2⟩ := trodAll_cons r1
  obtain ⟨rfl, rfl, rfl⟩ := trodAll_nil r2
  obtain rfl : args = #[v0, v1, v2] := by cases args; simp_all
  obtain ⟨rfl, rfl⟩ := trodVars_none hV
  obtain ⟨a0, len, cap, rfl⟩ := okWide_slice Try.underlying22 (hval 0 22 v0 rfl rfl)
  obtain ⟨a1, len1, cap1, rfl⟩ := okWide_slice Try.underlying23 (hval 1 23 v1 rfl rfl)
  obtain ⟨a2, len2, cap2, rfl⟩ := okWide_slice Try.underlying22 (hval 2 22 v2 rfl rfl)
  have lt0 : ∀ x ∈ p0, x.block < W.heap.size := by obtain ⟨m, hm⟩ := h0; exact DataW.trod_lt m _ _ _ hm
  have lt1 : ∀ x ∈ p1, x.block < W.heap.size := by obtain ⟨m, hm⟩ := h1; exact DataW.trod_lt m _ _ _ hm
  have lt2 : ∀ x ∈ p2, x.block < W.heap.size := by obtain ⟨m, hm⟩ := h2; exact DataW.trod_lt m _ _ _ hm
  clear hA0 hval0
  obtain ⟨ss, hss, hS, hs1, hz0⟩ := view_strs h0 lt0
  obtain ⟨is, his, hI, hi1, hz1⟩ := view_ints h1 lt1
  obtain ⟨us, hus, hU, hu1, hz2⟩ := view_strs h2 lt2
  have r0 : len * 16 ≤ 140737488351232 := by
    rcases hz0 with rfl | ⟨es, rs, rfl, he⟩
    · omega
    · have := sized_slice hsz (j := 0) (t := 22) (e := 9) rfl rfl Try.underlying22
      rw [Try.bytes9] at this
      simp only [reachBytes] at this
      omega
  have r1 : len1 * 8 ≤ 140737488351232 := by
    rcases hz1 with rfl | ⟨es, rs, rfl, he⟩
    · omega
    · have := sized_slice hsz (j := 1) (t := 23) (e := 3) rfl rfl Try.underlying23
      rw [Try.bytes3] at this
      simp only [reachBytes] at this
      omega
  have r2 : len2 * 16 ≤ 140737488351232 := by
    rcases hz2 with rfl | ⟨es, rs, rfl, he⟩
    · omega
    · have := sized_slice hsz (j := 2) (t := 22) (e := 9) rfl rfl Try.underlying22
      rw [Try.bytes9] at this
      simp only [reachBytes] at this
      omega
  subst hss his hus
  refine (walk4 a0 a1 a2 cap cap1 cap2 ss us is W hS hI hU (by omega) (by omega) (by omega) hs1 hi1 hu1).mono ?_
  intro e W' ⟨he, bel⟩
  subst he
  exact ⟨_, rfl, _, _, _, [], _, [], hW', trodAll_mk1 (shut_bool Try.underlying4 _), cons_mk (Below.trod Try.laidOut (by kernel_rfl) (of_decide_eq_true (by kernel_rfl)) h0 bel lt0) (cons_mk (Below.trod Try.laidOut (by kernel_rfl) (of_decide_eq_true (by kernel_rfl)) h1 bel lt1) (cons_mk (Below.trod Try.laidOut (by kernel_rfl) (of_decide_eq_true (by kernel_rfl)) h2 bel lt2) nil_mk)), rfl, bel.frame _, fun h => by cases h⟩

end Go.Proofs.Qxb6600213a.holds4

namespace Go.Proofs.Qxb6600213a
theorem fnAppIDsAddHoldsDistinctFirstLines_proved : Rows.FnAppIDsAddHoldsDistinctFirstLinesSaid :=
  OpenClaim.holds_of_wide 4 Try.f4 rfl rfl rfl rfl rfl rfl rfl ⟨rfl, rfl, rfl, rfl, rfl⟩ rfl rfl rfl rfl rfl (by kernel_rfl) Try.func4 (by kernel_rfl)
    (of_decide_eq_true (by kernel_rfl)) (by unfold Func.isWrapper; first | (rw [if_pos (by decide +kernel)]; kernel_rfl) | (rw [if_neg (by decide +kernel)]; exact ⟨rfl, rfl⟩))
    (fun os started H enc _ => holds4.lifted os started H enc)
end Go.Proofs.Qxb6600213a
