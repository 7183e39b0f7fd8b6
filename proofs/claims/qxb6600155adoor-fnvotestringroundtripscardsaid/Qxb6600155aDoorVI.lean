/-
  FnVoteStringRoundTrips: the row, its listed tables opened; and the tied card.
-/
import Derived.Test.Qxb6600155aDoorVH
import Derived.Test.Qxb6600155aDoorTie
import Derived.Test.Qxb6600155aDoorCards
import Derived.ProofKit
import Derived.LaidByTextLater
import Derived.ChangeArms
import Derived.FnData
import Derived.Stop.Joined
import Derived.SevenTiedAt
namespace Go.Proofs.Qxb6600155aDoor
open Go.ChangeShapes Go.WideShapes Go.ChangeAt Go.RowKit

theorem own : ownKnob Tryd.prog.godebug = none := by kernel_rfl
theorem laidOut : laidOutB Tryd.prog = true := by kernel_rfl
theorem gPow : Tryd.prog.globalNamed (Rows.fnVoteStringRoundTripsRow.named.headD "") = some 0 := by kernel_rfl
theorem tPow : (Tryd.prog.globals[0]?).map (·.type) = some 42 := by kernel_rfl
theorem cells34 : Tryd.prog.cellsOf 34 = 1 := by kernel_rfl

/-- An array of one-cell elements, its i-th cell. -/
theorem array_at {H : Type} {enc : TypeId × Value → H} {P : Program} {w : World} {base : Nat} {sp : Nat → Bool} {held : Bool} {fuel n : Nat} {t e : TypeId} {cs : List Value} {ds : List (DataW H)} {p : List MemPlace}
    (ht : P.underlying t = some (.array n e)) (hc : P.cellsOf e = 1) (h : DataW.trod enc P w base sp held fuel t cs = some (.agg ds, p)) (i : Nat) (hi : i < n) :
    ∃ m y, DataW.trod enc P w base sp held m e ((cs.drop i).take 1) = some y ∧ ds[i]? = some y.1 := by
  cases fuel with
  | zero => simp [DataW.trod] at h
  | succ m =>
    unfold DataW.trod at h
    rw [ht] at h
    by_cases hl : cs.length = P.cellsOf t
    · simp only [hl, if_true, Option.map_eq_some_iff, Prod.mk.injEq, DataW.agg.injEq] at h
      obtain ⟨xs, hp, hd, _⟩ := h
      have hg := mapM_some_get hp i i (by simp [hi])
      have hlx := mapM_some_length hp
      rw [hc, Nat.mul_one] at hg
      have hix : i < xs.length := by rw [hlx]; simpa using hi
      rw [List.getElem?_eq_getElem hix] at hg
      exact ⟨m, _, hg, by rw [← hd]; simp [List.getElem?_eq_getElem hix]⟩
    · simp only [hl, if_false] at h
      cases h

/-- What the listed tables give the walks: the third cell of the powers of ten. -/
theorem of_laid {W : World} (h : laidMetH Tryd.prog Rows.fnVoteStringRoundTripsRow.laid W) : W.cell? ⟨0, 2, none⟩ = some (.int .u64 100) := by
  rw [MakeChecks.laidMetH_plain _ _ _ (by kernel_rfl)] at h
  obtain ⟨ps, ⟨g0, t0, cs0, f0, p0, q0, hg0, ht0, hv0, hd0, ⟨g1, t1, cs1, f1, p1, q1, hg1, ht1, hv1, hd1, ⟨g2, t2, cs2, f2, p2, q2, hg2, ht2, hv2, hd2, _, _⟩, _⟩, _⟩, _, _⟩ := h
  obtain rfl := Option.some.inj (gPow.symm.trans hg2)
  obtain rfl := Option.some.inj (tPow.symm.trans ht2)
  obtain ⟨m, y, hy, hd⟩ := array_at Tryd.underlying42 cells34 hd2 2 (by decide)
  have e2 : y.1 = .lit (.int .u64 100) := by
    have : some y.1 = some (.lit (.int .u64 100)) := hd.symm
    exact Option.some.inj this
  obtain ⟨k, e1, e3, _⟩ := DataW.trod_int Tryd.underlying34 hy
  have hk : k = 100 := by
    rw [e3] at e2
    simpa using e2
  subst hk
  have hcell := World.var?_cell hg2 hv2 2
  rw [hcell]
  obtain ⟨l⟩ := cs2
  match l, e1 with
  | a :: b :: c :: r, e1 =>
    simp at e1
    subst e1
    rfl
  | [a, b], e1 => simp at e1
  | [a], e1 => simp at e1
  | [], e1 => simp at e1

end Go.Proofs.Qxb6600155aDoor
