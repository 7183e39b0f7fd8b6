/-
  FnWithoutIsExactRemoval: the row.
-/
import Derived.Test.Qxb6600196aWoF
namespace Go.Proofs.Qxb6600196a
open Go.ChangeShapes Go.WideShapes Go.ChangeAt Go.RowKit

theorem Try.own : ownKnob Try.prog.godebug = none := by kernel_rfl
theorem Try.laidOut : laidOutB Try.prog = true := by kernel_rfl
theorem Try.cells24 : Try.prog.cellsOf 24 = 3 := by kernel_rfl
theorem Try.bytes24 : Try.prog.bytesOf 24 = 24 := by kernel_rfl

theorem okWide_arr {P : Program} {w : World} {r : Reach} {base : Nat} {t e : TypeId} {n : Nat} {v : Value} (ht : P.underlying t = some (.array n e)) (h : Value.okWide P w r base t v) : ∃ cs, v = .agg cs ∧ cs.size = P.cellsOf t := by
  unfold Value.okWide at h
  rw [ht] at h
  obtain ⟨cs, h1, h2, _⟩ := h
  exact ⟨cs, h1, h2⟩

theorem three {α : Type} {l : List α} (h : l.length = 3) : ∃ a b c, l = [a, b, c] := by
  match l, h with
  | [a, b, c], _ => exact ⟨a, b, c, rfl⟩

/-- A reader's three cells, read as data: three numbers. -/
theorem read3 {H : Type} {enc : TypeId × Value → H} {w : World} {base : Nat} {sp : Nat → Bool} {held : Bool} {fuel : Nat} {cs : List Value} {x : DataW H × List MemPlace} (hl : cs.length = 3)
    (h : DataW.trod enc Try.prog w base sp held fuel 24 cs = some x) : ∃ r : R3, cs = cellsOf3 r := by
  obtain ⟨c0, c1, c2, rfl⟩ := three hl
  obtain ⟨y0, y1, y2, n, _, h0, h1, h2⟩ := trod_array3 Try.underlying24 Try.cells23 h
  obtain ⟨a, e0, _, _⟩ := DataW.trod_int Try.underlying23 h0
  obtain ⟨b, e1, _, _⟩ := DataW.trod_int Try.underlying23 h1
  obtain ⟨c, e2, _, _⟩ := DataW.trod_int Try.underlying23 h2
  simp only [List.cons.injEq, and_true] at e0 e1 e2
  subst e0 e1 e2
  exact ⟨(a, b, c), rfl⟩

/-- A slice of readers that came in, as a list. -/
theorem list3 {w : World} {a : Addr} {len : Nat} (hx : ∀ i, i < len → ∃ r : R3, ∀ t, t < 3 → w.cell? ((a.add (i * 3)).add t) = (cellsOf3 r)[t]?) :
    ∃ l : List R3, l.length = len ∧ ∀ i, i < len → ∀ t, t < 3 → w.cell? ((a.add (i * 3)).add t) = (cellsOf3 (l.getD i (0, 0, 0)))[t]? := by
  have hx' : ∀ i, ∃ r : R3, i < len → ∀ t, t < 3 → w.cell? ((a.add (i * 3)).add t) = (cellsOf3 r)[t]? := fun i => by
    by_cases hi : i < len
    · obtain ⟨r, hr⟩ := hx i hi
      exact ⟨r, fun _ => hr⟩
    · exact ⟨(0, 0, 0), fun h => absurd h hi⟩
  obtain ⟨f, hf⟩ := Classical.axiomOfChoice hx'
  refine ⟨(List.range len).map f, by simp, fun i hi t ht => ?_⟩
  rw [hf i hi t ht]
  simp [List.getD, hi]

set_option maxRecDepth 100000 in
theorem without_lifted (os : Os) (started : os.Started) (H : Type) (enc : TypeId × Value → H) :
    ReturnsInHanded {} Try.checked os 3 .any (Rows.fnWithoutIsExactRemovalSpec.pre6 enc Try.prog Try.f3 Rows.fnWithoutIsExactRemovalRow.domain false) (Rows.fnWithoutIsExactRemovalSpec.post enc Try.prog Try.f3 false true false false) := by
  refine returnsInHanded_of_change_sized (C := Try.checked) Try.own started (by kernel_rfl) Try.func3
    (ChangeSpec.witness6 (enc := enc) (C := Try.checked) false ⟨#[], #[.slice none 0 0, .agg #[.int .u64 0, .int .u64 0, .int .u64 0]], []⟩ 8 (by kernel_rfl) (by kernel_rfl) (by kernel_rfl) (by kernel_rfl)) ?_
  intro W base args ds gs before hval0 hW _ hsz0 _
  have hsz : (DataW.weightsEach Try.prog (Try.f3.params.toList ++ Rows.fnWithoutIsExactRemovalSpec.plain.varTypes Try.prog) (ds ++ gs)).all (· ≤ reachBytes) = true := hsz0
  clear hsz0
  have hval : ∀ (j : Nat) t v, Try.f3.params[j]? = some t → args[j]? = some v → Value.okWide Try.prog W .any base t v := hval0
  have hW' := hW
  obtain ⟨p, q, hA0, hV, rfl, hfz, hnd⟩ := hW
  have hA : DataW.TrodAll enc Try.prog W 0 (fun _ => true) true Try.f3.params.toList args.toList ds p := hA0
  rw [Try.params3] at hA hval hsz
  obtain ⟨v0, v1, d0, d1, p0, p1, rfl, rfl, rfl, h0, h1⟩ := trodAll_two hA
  obtain ⟨rfl, rfl⟩ := trodVars_none hV
  obtain ⟨a0, len, cap, rfl⟩ := okWide_slice Try.underlying22 (hval 0 22 v0 rfl rfl)
  obtain ⟨cs, rfl, hcs3⟩ := okWide_arr Try.underlying24 (hval 1 24 v1 rfl rfl)
  have k0 := h0
  have k1 := h1
  have lt0 : ∀ x ∈ p0, x.block < W.heap.size := by obtain ⟨m, hm⟩ := k0; exact DataW.trod_lt m _ _ _ hm
  have lt1 : ∀ x ∈ p1, x.block < W.heap.size := by obtain ⟨m, hm⟩ := k1; exact DataW.trod_lt m _ _ _ hm
  clear hA0 hval0
  have fin : ∀ (e : Ending) (W' : World), (e = .returned (.bool true) ∧ Below W.heap.size W W') → ∃ v, e = .returned v ∧ Rows.fnWithoutIsExactRemovalSpec.post enc Try.checked.prog Try.f3 false true false false W #[.slice a0 len cap, .agg cs] v W' := by
    intro e W' ⟨he, bel⟩
    subst he
    exact ⟨_, rfl, _, _, _, [], _, [], hW', trodAll_mk1 (shut_bool Try.underlying4 _), trodAll_mk2 (Below.trod Try.laidOut (by kernel_rfl) (of_decide_eq_true (by kernel_rfl)) k0 bel lt0) (Below.trod Try.laidOut (by kernel_rfl) (of_decide_eq_true (by kernel_rfl)) k1 bel lt1), rfl, bel.frame _, fun h => by cases h⟩
  obtain ⟨x, y, z, rfl⟩ : ∃ x y z : Int, cs = #[.int .u64 x, .int .u64 y, .int .u64 z] := by
    obtain ⟨m, hm⟩ := h1
    obtain ⟨⟨x, y, z⟩, hr⟩ := read3 (cs := cs.toList) (by rw [Array.length_toList, hcs3, Try.cells24]) (by simpa [Value.cells] using hm)
    exact ⟨x, y, z, by rw [← Array.toArray_toList (xs := cs), hr]; rfl⟩
  obtain ⟨fuel, hf⟩ := h0
  rcases Deep.open_slice Try.underlying22 hf with ⟨hcs, hx⟩ | ⟨a, len', cap', m, n, D, Pl, hcs, _, hl, hm, hmm, hx, hel⟩
  · simp [Value.cells] at hcs
    obtain ⟨rfl, rfl, rfl⟩ := hcs
    exact (law_nil x y z W).mono fin
  · simp [Value.cells] at hcs
    obtain ⟨rfl, rfl, rfl⟩ := hcs
    simp only [Prod.mk.injEq] at hx
    obtain ⟨rfl, hp0⟩ := hx
    have hreach : len * 24 ≤ 140737488351232 := by
      have := sized_slice hsz (j := 0) (t := 22) (e := 24) rfl rfl Try.underlying22
      rw [Try.bytes24] at this
      simp only [List.length_map, List.length_range, reachBytes] at this
      omega
    by_cases hl0 : len = 0
    · subst hl0
      exact (law_none a cap x y z W).mono fin
    · have hlm : len ≤ m := by rw [hmm]; simp; exact hl
      obtain ⟨l, hll, hcell⟩ := list3 (w := W) (a := a) (len := len) (fun i hi => by
        obtain ⟨cs', h1, h2⟩ := hel i (by omega)
        rw [Try.cells24] at h1
        obtain ⟨_, hlen, hc⟩ := World.cells?_some h1
        obtain ⟨r, rfl⟩ := read3 hlen h2
        exact ⟨r, hc⟩)
      obtain ⟨b, off, spot⟩ := a
      have hspot : spot = none := by simpa [Addr.add] using World.cell?_spot (hcell 0 (by omega) 0 (by omega))
      subst hspot
      have hbW : b < W.heap.size := lt0 (.cell b off) (by rw [hp0]; exact List.mem_append_left _ (MemPlace.mem_row.2 ⟨0, by rw [Try.cells24]; omega, by simp⟩))
      have hR : Rows3 W b off l := by
        refine ⟨hbW, fun j hj => ⟨?_, ?_, ?_⟩⟩
        · have h := hcell j (by omega) 0 (by omega)
          rw [add_plain, add_plain] at h
          simpa [cellsOf3] using h
        · have h := hcell j (by omega) 1 (by omega)
          rw [add_plain, add_plain] at h
          simpa [cellsOf3] using h
        · have h := hcell j (by omega) 2 (by omega)
          rw [add_plain, add_plain] at h
          simpa [cellsOf3] using h
      have L := law_any b off cap l x y z W hR (by omega) (by omega)
      rw [hll] at L
      exact L.mono fin

theorem fnWithoutIsExactRemoval_proved : Rows.FnWithoutIsExactRemovalSaid :=
  OpenClaim.holds_of_wide 3 Try.f3 rfl rfl rfl rfl rfl rfl rfl ⟨rfl, rfl, rfl, rfl, rfl⟩ rfl rfl rfl rfl rfl (by kernel_rfl) Try.func3 (by kernel_rfl)
    (of_decide_eq_true (by kernel_rfl)) (by unfold Func.isWrapper; first | (rw [if_pos (by decide +kernel)]; kernel_rfl) | (rw [if_neg (by decide +kernel)]; exact ⟨rfl, rfl⟩))
    (fun os started H enc _ => without_lifted os started H enc)

end Go.Proofs.Qxb6600196a
