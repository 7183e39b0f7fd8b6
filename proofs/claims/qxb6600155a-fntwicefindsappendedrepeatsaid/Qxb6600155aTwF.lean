/-
  FnTwiceFindsAppendedRepeat: the row.
-/
import Derived.Test.Qxb6600155aTwE
import Derived.ProofKit
import Derived.SizedLaws
import Derived.SliceStrings
namespace Go.Proofs.Qxb6600155a
open Go.ChangeShapes Go.WideShapes Go.ChangeAt Go.RowKit
open Go.ChangeMaps (open_string shut_string)

theorem Try.own : ownKnob Try.prog.godebug = none := by kernel_rfl
theorem Try.laidOut : laidOutB Try.prog = true := by kernel_rfl
theorem Try.cells9 : Try.prog.cellsOf 9 = 1 := by kernel_rfl
theorem Try.bytes9 : Try.prog.bytesOf 9 = 16 := by kernel_rfl

theorem size_getD {ss : List ByteArray} (h : ∀ s ∈ ss, s.size ≤ maxLen) (j : Nat) : (ss.getD j ByteArray.empty).size ≤ maxLen := by
  by_cases hj : j < ss.length
  · exact h _ (getD_mem hj)
  · rw [List.getD, List.getElem?_eq_none (by omega)]
    exact Nat.zero_le _

set_option maxRecDepth 100000 in
theorem fnTwice_lifted (os : Os) (started : os.Started) (H : Type) (enc : TypeId × Value → H) :
    ReturnsInHanded {} Try.checked os 5 .any (Rows.fnTwiceFindsAppendedRepeatSpec.pre6 enc Try.prog Try.f5 Rows.fnTwiceFindsAppendedRepeatRow.domain false) (Rows.fnTwiceFindsAppendedRepeatSpec.post enc Try.prog Try.f5 false true false false) := by
  refine returnsInHanded_of_change_sized (C := Try.checked) Try.own started (by kernel_rfl) Try.func5
    (ChangeSpec.witness6 (enc := enc) (C := Try.checked) false ⟨#[], #[.slice none 0 0, .int .i64 0], []⟩ 8 (by kernel_rfl) (by kernel_rfl) (by kernel_rfl) (by kernel_rfl)) ?_
  intro W base args ds gs before hval0 hW _ hsz0 _
  have hsz : (DataW.weightsEach Try.prog (Try.f5.params.toList ++ Rows.fnTwiceFindsAppendedRepeatSpec.plain.varTypes Try.prog) (ds ++ gs)).all (· ≤ reachBytes) = true := hsz0
  clear hsz0
  have hval : ∀ (j : Nat) t v, Try.f5.params[j]? = some t → args[j]? = some v → Value.okWide Try.prog W .any base t v := hval0
  have hW' := hW
  obtain ⟨p, q, hA0, hV, rfl, hfz, hnd⟩ := hW
  have hA : DataW.TrodAll enc Try.prog W 0 (fun _ => true) true Try.f5.params.toList args.toList ds p := hA0
  rw [Try.params5] at hA hval hsz
  obtain ⟨v0, v1, d0, d1, p0, p1, rfl, rfl, rfl, h0, h1⟩ := trodAll_two hA
  obtain ⟨rfl, rfl⟩ := trodVars_none hV
  obtain ⟨a0, len, cap, rfl⟩ := okWide_slice Try.underlying22 (hval 0 22 v0 rfl rfl)
  have k0 := h0
  have lt0 : ∀ x ∈ p0, x.block < W.heap.size := by obtain ⟨m, hm⟩ := k0; exact DataW.trod_lt m _ _ _ hm
  obtain ⟨i, rfl, rfl, rfl, wi⟩ := open_int Try.underlying3 (hval 1 3 v1 rfl rfl) h1
  clear hA0 hval0
  have fin : ∀ (e : Ending) (W' : World), (e = .returned (.bool true) ∧ Below W.heap.size W W') → ∃ v, e = .returned v ∧ Rows.fnTwiceFindsAppendedRepeatSpec.post enc Try.checked.prog Try.f5 false true false false W #[.slice a0 len cap, .int .i64 i] v W' := by
    intro e W' ⟨he, bel⟩
    subst he
    exact ⟨_, rfl, _, _, _, [], _, [], hW', trodAll_mk1 (shut_bool Try.underlying4 _), trodAll_mk2 (Below.trod Try.laidOut (by kernel_rfl) (of_decide_eq_true (by kernel_rfl)) k0 bel lt0) (shut_int Try.underlying3 wi), rfl, bel.frame _, fun h => by cases h⟩
  obtain ⟨fuel, hf⟩ := h0
  rcases open_strings Try.underlying22 Try.underlying9 Try.cells9 hf with ⟨hcs, hx⟩ | ⟨a, len', cap', ss, hcs, _, hl, hm, hz, hx, hcell, hws⟩
  · simp [Value.cells] at hcs
    obtain ⟨rfl, rfl, rfl⟩ := hcs
    exact (law_empty none 0 i W).mono fin
  · simp [Value.cells] at hcs
    obtain ⟨rfl, rfl, rfl⟩ := hcs
    simp only [Prod.mk.injEq] at hx
    obtain ⟨rfl, rfl⟩ := hx
    simp only [if_true] at hz
    have hreach : len * 16 ≤ 140737488351232 := by
      have := sized_slice hsz (j := 0) (t := 22) (e := 9) rfl rfl Try.underlying22
      rw [Try.bytes9] at this
      simp only [strs, List.length_map, List.length_take, List.length_drop, reachBytes] at this
      omega
    by_cases hl0 : len = 0
    · subst hl0
      exact (law_empty (some a) cap i W).mono fin
    · obtain ⟨b, off, spot⟩ := a
      have hspot : spot = none := by simpa [Addr.add] using World.cell?_spot (hcell 0 (by omega))
      subst hspot
      have hbW : b < W.heap.size := lt0 (.cell b off) (MemPlace.mem_row.2 ⟨0, by omega, by simp⟩)
      have hlen : (ss.take len).length = len := by simp; omega
      have hS : Strs W b off (ss.take len) := by
        refine ⟨hbW, fun j hj => ?_⟩
        rw [hlen] at hj
        have := hcell j (by omega)
        rw [add_plain] at this
        rw [this]
        simp [List.getD, hj]
      have L := law_any b off cap (ss.take len) i W hS (by omega) (size_getD (fun s hs => hws s (List.mem_of_mem_take hs)))
      rw [hlen] at L
      exact L.mono fin

theorem fnTwiceFindsAppendedRepeat_proved : Rows.FnTwiceFindsAppendedRepeatSaid :=
  OpenClaim.holds_of_wide 5 Try.f5 rfl rfl rfl rfl rfl rfl rfl ⟨rfl, rfl, rfl, rfl, rfl⟩ rfl rfl rfl rfl rfl (by kernel_rfl) Try.func5 (by kernel_rfl)
    (of_decide_eq_true (by kernel_rfl)) (by unfold Func.isWrapper; first | (rw [if_pos (by decide +kernel)]; kernel_rfl) | (rw [if_neg (by decide +kernel)]; exact ⟨rfl, rfl⟩))
    (fun os started H enc _ => fnTwice_lifted os started H enc)

end Go.Proofs.Qxb6600155a
