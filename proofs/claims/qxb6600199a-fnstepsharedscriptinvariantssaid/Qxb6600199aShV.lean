/-
  FnStepSharedScriptInvariants: the row.
-/
import Derived.Test.Qxb6600199aShU
import Derived.ProofKit
import Derived.SizedLaws
import Derived.SliceStrings
import Derived.Deep.Slices
namespace Go.Proofs.Qxb6600199a.script
open Go.ChangeShapes Go.WideShapes Go.ChangeAt Go.RowKit

theorem own : ownKnob Try.prog.godebug = none := by kernel_rfl
theorem laidOut : laidOutB Try.prog = true := by kernel_rfl
theorem cells51 : Try.prog.cellsOf 51 = 7 := by kernel_rfl
theorem cells5 : Try.prog.cellsOf 5 = 1 := by kernel_rfl
theorem cells4 : Try.prog.cellsOf 4 = 1 := by kernel_rfl
theorem cells22 : Try.prog.cellsOf 22 = 1 := by kernel_rfl
theorem bytes51 : Try.prog.bytesOf 51 = 16 := by kernel_rfl

theorem u64_nat {a : Int} (h : (Lit.int .u64 a).wf = true) : ∃ t : Nat, t < 18446744073709551616 ∧ a = (t : Int) := by
  have h1 : IntKind.u64.min ≤ a ∧ a ≤ IntKind.u64.max := by simpa [Lit.wf] using h
  have e1 : IntKind.u64.min = 0 := by decide
  have e2 : IntKind.u64.max = 18446744073709551615 := by decide
  exact ⟨a.toNat, by omega, by omega⟩
theorem u8_nat {a : Int} (h : (Lit.int .u8 a).wf = true) : ∃ t : Nat, t < 256 ∧ a = (t : Int) := by
  have h1 : IntKind.u8.min ≤ a ∧ a ≤ IntKind.u8.max := by simpa [Lit.wf] using h
  have e1 : IntKind.u8.min = 0 := by decide
  have e2 : IntKind.u8.max = 255 := by decide
  exact ⟨a.toNat, by omega, by omega⟩

theorem seven {α : Type} {l : List α} (h : l.length = 7) : ∃ a b c d e f g, l = [a, b, c, d, e, f, g] := by
  match l, h with
  | [a, b, c, d, e, f, g], _ => exact ⟨a, b, c, d, e, f, g, rfl⟩

def WF7 (s : St) : Prop := ∃ (n f : Nat) (p an ac re sh : Bool), n < 256 ∧ f < 18446744073709551616 ∧ s = ((n : Int), p, an, ac, re, sh, (f : Int))

/-- A step's seven cells, read as data. -/
theorem read7 {H : Type} {enc : TypeId × Value → H} {w : World} {base : Nat} {sp : Nat → Bool} {held : Bool} {fuel : Nat} {cs : List Value} {x : DataW H × List MemPlace} (hl : cs.length = 7)
    (h : DataW.trod enc Try.prog w base sp held fuel 51 cs = some x) : ∃ s : St, WF7 s ∧ cs = cells7 s := by
  obtain ⟨c0, c1, c2, c3, c4, c5, c6, rfl⟩ := seven hl
  obtain ⟨xs, n, _, _, _, hxl, hf⟩ := DataW.trod_struct Try.underlying51 h
  obtain ⟨x0, x1, x2, x3, x4, x5, x6, rfl⟩ := seven (l := xs) hxl
  have g0 : DataW.trod enc Try.prog w base sp held n 5 [c0] = some x0 := by
    have t : DataW.trod enc Try.prog w base sp held n 5 (([c0, c1, c2, c3, c4, c5, c6].drop 0).take (Try.prog.cellsOf 5)) = some x0 := hf 0 _ rfl
    rw [cells5] at t
    exact t
  have g1 : DataW.trod enc Try.prog w base sp held n 4 [c1] = some x1 := by
    have t : DataW.trod enc Try.prog w base sp held n 4 (([c0, c1, c2, c3, c4, c5, c6].drop 1).take (Try.prog.cellsOf 4)) = some x1 := hf 1 _ rfl
    rw [cells4] at t
    exact t
  have g2 : DataW.trod enc Try.prog w base sp held n 4 [c2] = some x2 := by
    have t : DataW.trod enc Try.prog w base sp held n 4 (([c0, c1, c2, c3, c4, c5, c6].drop 2).take (Try.prog.cellsOf 4)) = some x2 := hf 2 _ rfl
    rw [cells4] at t
    exact t
  have g3 : DataW.trod enc Try.prog w base sp held n 4 [c3] = some x3 := by
    have t : DataW.trod enc Try.prog w base sp held n 4 (([c0, c1, c2, c3, c4, c5, c6].drop 3).take (Try.prog.cellsOf 4)) = some x3 := hf 3 _ rfl
    rw [cells4] at t
    exact t
  have g4 : DataW.trod enc Try.prog w base sp held n 4 [c4] = some x4 := by
    have t : DataW.trod enc Try.prog w base sp held n 4 (([c0, c1, c2, c3, c4, c5, c6].drop 4).take (Try.prog.cellsOf 4)) = some x4 := hf 4 _ rfl
    rw [cells4] at t
    exact t
  have g5 : DataW.trod enc Try.prog w base sp held n 4 [c5] = some x5 := by
    have t : DataW.trod enc Try.prog w base sp held n 4 (([c0, c1, c2, c3, c4, c5, c6].drop 5).take (Try.prog.cellsOf 4)) = some x5 := hf 5 _ rfl
    rw [cells4] at t
    exact t
  have g6 : DataW.trod enc Try.prog w base sp held n 22 [c6] = some x6 := by
    have t : DataW.trod enc Try.prog w base sp held n 22 (([c0, c1, c2, c3, c4, c5, c6].drop 6).take (Try.prog.cellsOf 22)) = some x6 := hf 6 _ rfl
    rw [cells22] at t
    exact t
  obtain ⟨a, e0, _, wa⟩ := DataW.trod_int Try.underlying5 g0
  obtain ⟨b, e1, _⟩ := DataW.trod_bool Try.underlying4 g1
  obtain ⟨c, e2, _⟩ := DataW.trod_bool Try.underlying4 g2
  obtain ⟨d, e3, _⟩ := DataW.trod_bool Try.underlying4 g3
  obtain ⟨e, e4, _⟩ := DataW.trod_bool Try.underlying4 g4
  obtain ⟨f, e5, _⟩ := DataW.trod_bool Try.underlying4 g5
  obtain ⟨g, e6, _, wg⟩ := DataW.trod_int Try.underlying22 g6
  simp at e0 e1 e2 e3 e4 e5 e6
  subst e0 e1 e2 e3 e4 e5 e6
  obtain ⟨an, ha, rfl⟩ := u8_nat wa
  obtain ⟨gn, hg, rfl⟩ := u64_nat wg
  exact ⟨_, ⟨an, gn, b, c, d, e, f, ha, hg, rfl⟩, rfl⟩

/-- A slice of steps that came in, as a list. -/
theorem list7 {w : World} {a : Addr} {len : Nat} (hx : ∀ i, i < len → ∃ s : St, WF7 s ∧ ∀ t, t < 7 → w.cell? ((a.add (i * 7)).add t) = (cells7 s)[t]?) :
    ∃ l : List St, l.length = len ∧ ∀ i, i < len → WF7 (l.getD i z7) ∧ ∀ t, t < 7 → w.cell? ((a.add (i * 7)).add t) = (cells7 (l.getD i z7))[t]? := by
  have hx' : ∀ i, ∃ s : St, i < len → WF7 s ∧ ∀ t, t < 7 → w.cell? ((a.add (i * 7)).add t) = (cells7 s)[t]? := fun i => by
    by_cases hi : i < len
    · obtain ⟨r, hr⟩ := hx i hi
      exact ⟨r, fun _ => hr⟩
    · exact ⟨z7, fun h => absurd h hi⟩
  obtain ⟨f, hf⟩ := Classical.axiomOfChoice hx'
  refine ⟨(List.range len).map f, by simp, fun i hi => ?_⟩
  have e : ((List.range len).map f).getD i z7 = f i := by simp [List.getD, hi]
  rw [e]
  exact hf i hi

set_option maxRecDepth 100000 in
theorem lifted (os : Os) (started : os.Started) (H : Type) (enc : TypeId × Value → H) :
    ReturnsInHanded {} Try.checked os 9 .any (Rows.fnStepSharedScriptInvariantsSpec.pre6 enc Try.prog Try.f9 Rows.fnStepSharedScriptInvariantsRow.domain false) (Rows.fnStepSharedScriptInvariantsSpec.post enc Try.prog Try.f9 false true false false) := by
  refine returnsInHanded_of_change_sized (C := Try.checked) own started (by kernel_rfl) Try.func9
    (ChangeSpec.witness6 (enc := enc) (C := Try.checked) false ⟨#[], #[.int .u64 0, .slice none 0 0], []⟩ 8 (by kernel_rfl) (by kernel_rfl) (by kernel_rfl) (by kernel_rfl)) ?_
  intro W base args ds gs before hval0 hW _ hsz0 _
  have hsz : (DataW.weightsEach Try.prog (Try.f9.params.toList ++ Rows.fnStepSharedScriptInvariantsSpec.plain.varTypes Try.prog) (ds ++ gs)).all (· ≤ reachBytes) = true := hsz0
  clear hsz0
  have hval : ∀ (j : Nat) t v, Try.f9.params[j]? = some t → args[j]? = some v → Value.okWide Try.prog W .any base t v := hval0
  have hW' := hW
  obtain ⟨p, q, hA0, hV, rfl, hfz, hnd⟩ := hW
  have hA : DataW.TrodAll enc Try.prog W 0 (fun _ => true) true Try.f9.params.toList args.toList ds p := hA0
  rw [Try.params9] at hA hval hsz
  obtain ⟨v0, v1, d0, d1, p0, p1, rfl, rfl, rfl, h0, h1⟩ := trodAll_two hA
  obtain ⟨rfl, rfl⟩ := trodVars_none hV
  obtain ⟨i, rfl, rfl, rfl, wi⟩ := open_int Try.underlying22 (hval 0 22 v0 rfl rfl) h0
  obtain ⟨a0, len, cap, rfl⟩ := okWide_slice Try.underlying48 (hval 1 48 v1 rfl rfl)
  have k1 := h1
  have lt1 : ∀ x ∈ p1, x.block < W.heap.size := by obtain ⟨m, hm⟩ := k1; exact DataW.trod_lt m _ _ _ hm
  clear hA0 hval0
  have fin : ∀ (e : Ending) (W' : World), (e = .returned (.bool true) ∧ Below W.heap.size W W') → ∃ v, e = .returned v ∧ Rows.fnStepSharedScriptInvariantsSpec.post enc Try.checked.prog Try.f9 false true false false W #[.int .u64 i, .slice a0 len cap] v W' := by
    intro e W' ⟨he, bel⟩
    subst he
    exact ⟨_, rfl, _, _, _, [], _, [], hW', trodAll_mk1 (shut_bool Try.underlying4 _), trodAll_mk2 (shut_int Try.underlying22 wi) (Below.trod laidOut (by kernel_rfl) (of_decide_eq_true (by kernel_rfl)) k1 bel lt1), rfl, bel.frame _, fun h => by cases h⟩
  obtain ⟨last, hlast, rfl⟩ := u64_nat wi
  obtain ⟨fuel, hf⟩ := h1
  rcases Deep.open_slice Try.underlying48 hf with ⟨hcs, hx⟩ | ⟨a, len', cap', m, n, D, Pl, hcs, _, hl, hm, hmm, hx, hel⟩
  · simp [Value.cells] at hcs
    obtain ⟨rfl, rfl, rfl⟩ := hcs
    exact (walk9_nil last W).mono fin
  · simp [Value.cells] at hcs
    obtain ⟨rfl, rfl, rfl⟩ := hcs
    simp only [Prod.mk.injEq] at hx
    obtain ⟨rfl, hp0⟩ := hx
    have hreach : len * 16 ≤ 140737488351232 := by
      have := sized_slice hsz (j := 1) (t := 48) (e := 51) rfl rfl Try.underlying48
      rw [bytes51] at this
      simp only [List.length_map, List.length_range, reachBytes] at this
      omega
    by_cases hv : len ≤ 1048576
    · by_cases hlg : len ≤ 32768
      · by_cases hl0 : len = 0
        · subst hl0
          exact (walk9_none a cap last W).mono fin
        · have hlm : len ≤ m := by rw [hmm]; simp; exact hl
          obtain ⟨l, hll, hcell⟩ := list7 (w := W) (a := a) (len := len) (fun i hi => by
            obtain ⟨cs', h1, h2⟩ := hel i (by omega)
            rw [cells51] at h1
            obtain ⟨_, hlen, hc⟩ := World.cells?_some h1
            obtain ⟨r, hr, rfl⟩ := read7 hlen h2
            exact ⟨r, hr, hc⟩)
          obtain ⟨b, off, spot⟩ := a
          have hspot : spot = none := by simpa [Addr.add, cells7] using World.cell?_spot ((hcell 0 (by omega)).2 0 (by omega))
          subst hspot
          have hbW : b < W.heap.size := lt1 (.cell b off) (by rw [hp0]; exact List.mem_append_left _ (MemPlace.mem_row.2 ⟨0, by rw [cells51]; omega, by simp⟩))
          have hR : Rows7 W b off l := by
            refine ⟨hbW, fun j hj t ht => ?_⟩
            have h := (hcell j (by omega)).2 t ht
            rw [add_plain, add_plain] at h
            exact h
          have L := walk9 b off cap l last W hR (by omega) hlast (by omega) (hide (fun j hj => (hcell j (by omega)).1)) (hide step25)
          rw [hll] at L
          exact L.mono fin
      · exact (walk9_long (some a) len cap last W hv hlg).mono fin
    · exact (walk9_vast (some a) len cap last W (by omega) hv).mono fin

end Go.Proofs.Qxb6600199a.script

namespace Go.Proofs.Qxb6600199a
theorem fnStepSharedScriptInvariants_proved : Rows.FnStepSharedScriptInvariantsSaid :=
  OpenClaim.holds_of_wide 9 Try.f9 rfl rfl rfl rfl rfl rfl rfl ⟨rfl, rfl, rfl, rfl, rfl⟩ rfl rfl rfl rfl rfl (by kernel_rfl) Try.func9 (by kernel_rfl)
    (of_decide_eq_true (by kernel_rfl)) (by unfold Func.isWrapper; first | (rw [if_pos (by decide +kernel)]; kernel_rfl) | (rw [if_neg (by decide +kernel)]; exact ⟨rfl, rfl⟩))
    (fun os started H enc _ => script.lifted os started H enc)
end Go.Proofs.Qxb6600199a
