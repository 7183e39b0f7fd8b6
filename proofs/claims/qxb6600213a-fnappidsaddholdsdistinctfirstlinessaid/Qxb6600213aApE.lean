/-
  FnAppIDsAddAnswersFirstLine: the row.
-/
import Derived.Test.Qxb6600213aApD
import Derived.ProofKit
import Derived.SizedLaws
import Derived.SliceStrings
namespace Go.Proofs.Qxb6600213a
open Go.ChangeShapes Go.WideShapes Go.ChangeAt Go.RowKit

theorem Try.own : ownKnob Try.prog.godebug = none := by kernel_rfl
theorem Try.laidOut : laidOutB Try.prog = true := by kernel_rfl
theorem Try.cells9 : Try.prog.cellsOf 9 = 1 := by kernel_rfl
theorem Try.cells3 : Try.prog.cellsOf 3 = 1 := by kernel_rfl
theorem Try.bytes9 : Try.prog.bytesOf 9 = 16 := by kernel_rfl
theorem Try.bytes3 : Try.prog.bytesOf 3 = 8 := by kernel_rfl

theorem size_getD {ss : List ByteArray} (h : ∀ s ∈ ss, s.size ≤ maxLen) (j : Nat) : (ss.getD j ByteArray.empty).size ≤ maxLen := by
  by_cases hj : j < ss.length
  · exact h _ (by simp [List.getD, List.getElem?_eq_getElem hj])
  · rw [List.getD, List.getElem?_eq_none (by omega)]
    exact Nat.zero_le _
theorem wf_getD {is : List Int} (h : ∀ s ∈ is, (Lit.int .i64 s).wf = true) (j : Nat) : (Lit.int .i64 (is.getD j 0)).wf = true := by
  by_cases hj : j < is.length
  · exact h _ (by simp [List.getD, List.getElem?_eq_getElem hj])
  · rw [List.getD, List.getElem?_eq_none (by omega)]
    decide

/-- A slice of strings that came in. -/
theorem view_strs {H : Type} {enc : TypeId × Value → H} {W : World} {a0 : Option Addr} {len cap : Nat} {d : DataW H} {p : List MemPlace} (k : DataW.Trod enc Try.prog W 0 (fun _ => true) true 22 (.slice a0 len cap) d p) (lt : ∀ x ∈ p, x.block < W.heap.size) :
    ∃ ss : List ByteArray, ss.length = len ∧ Strs W a0 ss ∧ (∀ j, (ss.getD j ByteArray.empty).size ≤ maxLen) ∧ (len = 0 ∨ ∃ es rs, d = .slice es rs ∧ es.length = len) := by
  obtain ⟨fuel, hf⟩ := k
  rcases open_strings Try.underlying22 Try.underlying9 Try.cells9 hf with ⟨hcs, hx⟩ | ⟨a, len', cap', ss, hcs, _, hl, hm, hz, hx, hcell, hws⟩
  · simp [Value.cells] at hcs
    obtain ⟨rfl, rfl, rfl⟩ := hcs
    exact ⟨[], rfl, fun h => absurd rfl h, fun j => Nat.zero_le _, .inl rfl⟩
  · simp [Value.cells] at hcs
    obtain ⟨rfl, rfl, rfl⟩ := hcs
    simp only [Prod.mk.injEq] at hx
    obtain ⟨rfl, rfl⟩ := hx
    simp only [if_true] at hz
    have hlen : (ss.take len).length = len := by simp; omega
    refine ⟨ss.take len, hlen, fun hne => ?_, size_getD (fun s hs => hws s (List.mem_of_mem_take hs)), .inr ⟨_, _, rfl, by simp [strs]; omega⟩⟩
    have hpos : 0 < len := by rw [← hlen]; exact List.length_pos_iff.2 hne
    obtain ⟨b, off, spot⟩ := a
    have hspot : spot = none := by simpa [Addr.add] using World.cell?_spot (hcell 0 (by omega))
    subst hspot
    refine ⟨b, off, rfl, lt (.cell b off) (MemPlace.mem_row.2 ⟨0, by omega, by simp⟩), fun j hj => ?_⟩
    rw [hlen] at hj
    have := hcell j (by omega)
    rw [add_plain] at this
    rw [this]
    simp [List.getD, hj]

/-- A slice of ints that came in. -/
theorem view_ints {H : Type} {enc : TypeId × Value → H} {W : World} {a0 : Option Addr} {len cap : Nat} {d : DataW H} {p : List MemPlace} (k : DataW.Trod enc Try.prog W 0 (fun _ => true) true 23 (.slice a0 len cap) d p) (lt : ∀ x ∈ p, x.block < W.heap.size) :
    ∃ is : List Int, is.length = len ∧ Ints W a0 is ∧ (∀ j, (Lit.int .i64 (is.getD j 0)).wf = true) ∧ (len = 0 ∨ ∃ es rs, d = .slice es rs ∧ es.length = len) := by
  obtain ⟨fuel, hf⟩ := k
  rcases open_ints Try.underlying23 Try.underlying3 Try.cells3 hf with ⟨hcs, hx⟩ | ⟨a, len', cap', ss, hcs, _, hl, hm, hz, hx, hcell, hws⟩
  · simp [Value.cells] at hcs
    obtain ⟨rfl, rfl, rfl⟩ := hcs
    exact ⟨[], rfl, fun h => absurd rfl h, wf_getD (fun s h => by cases h), .inl rfl⟩
  · simp [Value.cells] at hcs
    obtain ⟨rfl, rfl, rfl⟩ := hcs
    simp only [Prod.mk.injEq] at hx
    obtain ⟨rfl, rfl⟩ := hx
    simp only [if_true] at hz
    have hlen : (ss.take len).length = len := by simp; omega
    refine ⟨ss.take len, hlen, fun hne => ?_, wf_getD (fun s hs => hws s (List.mem_of_mem_take hs)), .inr ⟨_, _, rfl, by simp [lits]; omega⟩⟩
    have hpos : 0 < len := by rw [← hlen]; exact List.length_pos_iff.2 hne
    obtain ⟨b, off, spot⟩ := a
    have hspot : spot = none := by simpa [Addr.add] using World.cell?_spot (hcell 0 (by omega))
    subst hspot
    refine ⟨b, off, rfl, lt (.cell b off) (MemPlace.mem_row.2 ⟨0, by omega, by simp⟩), fun j hj => ?_⟩
    rw [hlen] at hj
    have := hcell j (by omega)
    rw [add_plain] at this
    rw [this]
    simp [List.getD, hj]

end Go.Proofs.Qxb6600213a

namespace Go.Proofs.Qxb6600213a.answers
open Go.ChangeShapes Go.WideShapes Go.ChangeAt Go.RowKit

set_option maxRecDepth 100000 in
theorem lifted (os : Os) (started : os.Started) (H : Type) (enc : TypeId × Value → H) :
    ReturnsInHanded {} Try.checked os 3 .any (Rows.fnAppIDsAddAnswersFirstLineSpec.pre6 enc Try.prog Try.f3 Rows.fnAppIDsAddAnswersFirstLineRow.domain false) (Rows.fnAppIDsAddAnswersFirstLineSpec.post enc Try.prog Try.f3 false true false false) := by
  refine returnsInHanded_of_change_sized (C := Try.checked) Try.own started (by kernel_rfl) Try.func3
    (ChangeSpec.witness6 (enc := enc) (C := Try.checked) false ⟨#[], #[.slice none 0 0, .slice none 0 0], []⟩ 8 (by kernel_rfl) (by kernel_rfl) (by kernel_rfl) (by kernel_rfl)) ?_
  intro W base args ds gs before hval0 hW _ hsz0 _
  have hsz : (DataW.weightsEach Try.prog (Try.f3.params.toList ++ Rows.fnAppIDsAddAnswersFirstLineSpec.plain.varTypes Try.prog) (ds ++ gs)).all (· ≤ reachBytes) = true := hsz0
  clear hsz0
  have hval : ∀ (j : Nat) t v, Try.f3.params[j]? = some t → args[j]? = some v → Value.okWide Try.prog W .any base t v := hval0
  have hW' := hW
  obtain ⟨p, q, hA0, hV, rfl, hfz, hnd⟩ := hW
  have hA : DataW.TrodAll enc Try.prog W 0 (fun _ => true) true Try.f3.params.toList args.toList ds p := hA0
  rw [Try.params3] at hA hval hsz
  obtain ⟨v0, v1, d0, d1, p0, p1, rfl, rfl, rfl, h0, h1⟩ := trodAll_two hA
  obtain ⟨rfl, rfl⟩ := trodVars_none hV
  obtain ⟨a0, len, cap, rfl⟩ := okWide_slice Try.underlying22 (hval 0 22 v0 rfl rfl)
  obtain ⟨a1, len1, cap1, rfl⟩ := okWide_slice Try.underlying23 (hval 1 23 v1 rfl rfl)
  have lt0 : ∀ x ∈ p0, x.block < W.heap.size := by obtain ⟨m, hm⟩ := h0; exact DataW.trod_lt m _ _ _ hm
  have lt1 : ∀ x ∈ p1, x.block < W.heap.size := by obtain ⟨m, hm⟩ := h1; exact DataW.trod_lt m _ _ _ hm
  clear hA0 hval0
  obtain ⟨ss, hss, hS, hs1, hz0⟩ := view_strs h0 lt0
  obtain ⟨is, his, hI, hi1, hz1⟩ := view_ints h1 lt1
  have r0 : len * 16 ≤ 140737488351232 := by
    rcases hz0 with rfl | ⟨es, rs, rfl, he⟩
    · omega
    · have := sized_slice hsz (j := 0) (t := 22) (e := 9) rfl rfl Try.underlying22
      rw [Try.bytes9] at this
      simp only [reachBytes] at this
      omega
  have r1 : len1 * 8 ≤ 140737488351232 := by
    rcases hz1 with rfl | ⟨es, rs, rfl, he⟩
    · omega
    · have := sized_slice hsz (j := 1) (t := 23) (e := 3) rfl rfl Try.underlying23
      rw [Try.bytes3] at this
      simp only [reachBytes] at this
      omega
  subst hss his
  refine (walk3 a0 a1 cap cap1 ss is W hS hI (by omega) (by omega) hs1 hi1).mono ?_
  intro e W' ⟨he, bel⟩
  subst he
  exact ⟨_, rfl, _, _, _, [], _, [], hW', trodAll_mk1 (shut_bool Try.underlying4 _), trodAll_mk2 (Below.trod Try.laidOut (by kernel_rfl) (of_decide_eq_true (by kernel_rfl)) h0 bel lt0) (Below.trod Try.laidOut (by kernel_rfl) (of_decide_eq_true (by kernel_rfl)) h1 bel lt1), rfl, bel.frame _, fun h => by cases h⟩

end Go.Proofs.Qxb6600213a.answers

namespace Go.Proofs.Qxb6600213a
theorem fnAppIDsAddAnswersFirstLine_proved : Rows.FnAppIDsAddAnswersFirstLineSaid :=
  OpenClaim.holds_of_wide 3 Try.f3 rfl rfl rfl rfl rfl rfl rfl ⟨rfl, rfl, rfl, rfl, rfl⟩ rfl rfl rfl rfl rfl (by kernel_rfl) Try.func3 (by kernel_rfl)
    (of_decide_eq_true (by kernel_rfl)) (by unfold Func.isWrapper; first | (rw [if_pos (by decide +kernel)]; kernel_rfl) | (rw [if_neg (by decide +kernel)]; exact ⟨rfl, rfl⟩))
    (fun os started H enc _ => answers.lifted os started H enc)
end Go.Proofs.Qxb6600213a
