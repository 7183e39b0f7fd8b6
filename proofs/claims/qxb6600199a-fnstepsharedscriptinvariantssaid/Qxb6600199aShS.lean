/-
  The script's steps, seven cells each.
-/
import Derived.Test.Qxb6600199aShP
namespace Go.Proofs.Qxb6600199a
open Go.RowKit

theorem Try.info51 : (Try.prog.info? 51).map (fun i => (i.zero, i.size, i.bytes)) = some (some (.agg #[.int .u8 0, .bool false, .bool false, .bool false, .bool false, .bool false, .int .u64 0]), 7, 16) := by kernel_rfl

/-- A step: session, release, answered, acquired, released, shared, fence. -/
abbrev St := Int × Bool × Bool × Bool × Bool × Bool × Int
def z7 : St := (0, false, false, false, false, false, 0)
def cells7 (s : St) : List Value := [.int .u8 s.1, .bool s.2.1, .bool s.2.2.1, .bool s.2.2.2.1, .bool s.2.2.2.2.1, .bool s.2.2.2.2.2.1, .int .u64 s.2.2.2.2.2.2]
theorem cells7_length (s : St) : (cells7 s).length = 7 := rfl
def flat7 (l : List St) : List Value := l.flatMap cells7
theorem flat7_append (a b : List St) : flat7 (a ++ b) = flat7 a ++ flat7 b := by simp [flat7]
theorem flat7_length (l : List St) : (flat7 l).length = l.length * 7 := by
  induction l with
  | nil => rfl
  | cons a r ih => simp only [flat7, List.flatMap_cons, List.length_append, List.length_cons, cells7_length] at ih ⊢; rw [ih]; omega
theorem flat7_at (l : List St) (j t : Nat) (hj : j < l.length) (ht : t < 7) : (flat7 l)[j * 7 + t]? = (cells7 (l.getD j z7))[t]? := by
  have e : flat7 l = flat7 (l.take j) ++ (cells7 (l.getD j z7) ++ flat7 (l.drop (j + 1))) := by
    have : l = l.take j ++ (l.getD j z7 :: l.drop (j + 1)) := by
      rw [List.getD, List.getElem?_eq_getElem hj]
      simp
    conv => lhs; rw [this]
    rw [flat7_append]
    simp [flat7]
  have hl : (flat7 (l.take j)).length = j * 7 := by rw [flat7_length]; simp; omega
  rw [e, List.getElem?_append_right (by omega), hl, show j * 7 + t - j * 7 = t by omega, List.getElem?_append_left (by rw [cells7_length]; exact ht)]

theorem made7 (n : Nat) : (madeCells #[.int .u8 0, .bool false, .bool false, .bool false, .bool false, .bool false, .int .u64 0] (n * 7)).toList = flat7 (List.replicate n z7) := by
  apply List.ext_getElem?
  intro j
  by_cases hj : j < n * 7
  · have hq : j = (j / 7) * 7 + j % 7 := by omega
    have hlt : j / 7 < n := by omega
    have ht : j % 7 < 7 := by omega
    have e : (flat7 (List.replicate n z7))[j]? = (cells7 z7)[j % 7]? := by
      conv => lhs; rw [hq]
      rw [flat7_at _ _ _ (by simpa using hlt) ht]
      simp [List.getD, hlt]
    rw [e]
    simp [madeCells, hj]
    generalize j % 7 = t at ht
    obtain rfl | rfl | rfl | rfl | rfl | rfl | rfl : t = 0 ∨ t = 1 ∨ t = 2 ∨ t = 3 ∨ t = 4 ∨ t = 5 ∨ t = 6 := by omega
    all_goals rfl
  · have e : (flat7 (List.replicate n z7))[j]? = none := List.getElem?_eq_none (by rw [flat7_length]; simp; omega)
    rw [e]
    simp [madeCells, hj]

/-- Behind k rounds of the copy. -/
def half7 (l : List St) (n k : Nat) : List Value := flat7 (l.take k ++ List.replicate (n - k) z7)
theorem half7_zero (l : List St) (n : Nat) : half7 l n 0 = flat7 (List.replicate n z7) := by simp [half7]
theorem half7_full (l : List St) : half7 l l.length l.length = flat7 l := by simp [half7]
theorem set_off {α : Type} (A B : List α) (t : Nat) (x : α) : (A ++ B).set (A.length + t) x = A ++ B.set t x := by
  rw [List.set_append_right _ _ (by omega), Nat.add_sub_cancel_left]
theorem take_succ7 {l : List St} {k : Nat} (hk : k < l.length) : l.take (k + 1) = l.take k ++ [l.getD k z7] := by
  rw [List.take_succ_eq_append_getElem hk]
  simp [List.getD, List.getElem?_eq_getElem hk]
theorem half7_at {l : List St} {n k : Nat} (h : k < n) (hn : n ≤ l.length) (t : Nat) (ht : t < 7) : (half7 l n k)[k * 7 + t]? = (cells7 z7)[t]? := by
  unfold half7
  rw [flat7_at _ k t (by simp; omega) ht]
  congr 2
  rw [List.getD, List.getElem?_append_right (by simp; omega), List.length_take, Nat.min_eq_left (by omega), Nat.sub_self, List.getElem?_replicate]
  split <;> rfl
theorem half7_step {l : List St} {n k : Nat} (h : k < n) (hn : n ≤ l.length) (a : Int) (b c d e f : Bool) (g : Int) (hg : l.getD k z7 = (a, b, c, d, e, f, g)) :
    (((((((half7 l n k).set (k * 7) (.int .u8 a)).set (k * 7 + 1) (.bool b)).set (k * 7 + 2) (.bool c)).set (k * 7 + 3) (.bool d)).set (k * 7 + 4) (.bool e)).set (k * 7 + 5) (.bool f)).set (k * 7 + 6) (.int .u64 g) = half7 l n (k + 1) := by
  unfold half7
  obtain ⟨m, hm⟩ : ∃ m, n - k = m + 1 := ⟨n - k - 1, by omega⟩
  have hm' : n - (k + 1) = m := by omega
  have hl : (flat7 (l.take k)).length = k * 7 := by rw [flat7_length]; simp; omega
  rw [hm, hm', take_succ7 (by omega), hg, List.replicate_succ, flat7_append, flat7_append, flat7_append, List.append_assoc]
  rw [show flat7 (z7 :: List.replicate m z7) = cells7 z7 ++ flat7 (List.replicate m z7) from by simp [flat7]]
  generalize flat7 (List.replicate m z7) = R
  generalize flat7 (l.take k) = A at hl
  rw [← hl]
  have e0 := set_off A (cells7 z7 ++ R) 0 (.int .u8 a)
  rw [Nat.add_zero] at e0
  rw [e0, set_off, set_off, set_off, set_off, set_off, set_off]
  rfl

/-- What a walk is told of the steps: their cells, seven a step. -/
def Rows7 (w : World) (b off : Nat) (l : List St) : Prop :=
  b < w.heap.size ∧ ∀ j, j < l.length → ∀ t, t < 7 → w.cell? ⟨b, off + j * 7 + t, none⟩ = (cells7 (l.getD j z7))[t]?
theorem Rows7.below {w w' : World} {b off B : Nat} {l : List St} (h : Rows7 w b off l) (hb : Below B w w') (hB : b < B) : Rows7 w' b off l :=
  ⟨Nat.lt_of_lt_of_le h.1 hb.size, fun j hj t ht => (hb.cell (p := ⟨b, off + j * 7 + t, none⟩) hB).trans (h.2 j hj t ht)⟩
theorem Rows7.seven {w : World} {b off : Nat} {l : List St} (h : Rows7 w b off l) {j : Nat} (hj : j < l.length) {a : Int} {p c d e f : Bool} {g : Int} (hg : l.getD j z7 = (a, p, c, d, e, f, g)) :
    w.cell? ⟨b, off + j * 7, none⟩ = some (.int .u8 a) ∧ w.cell? ⟨b, off + j * 7 + 1, none⟩ = some (.bool p) ∧ w.cell? ⟨b, off + j * 7 + 2, none⟩ = some (.bool c) ∧ w.cell? ⟨b, off + j * 7 + 3, none⟩ = some (.bool d) ∧
    w.cell? ⟨b, off + j * 7 + 4, none⟩ = some (.bool e) ∧ w.cell? ⟨b, off + j * 7 + 5, none⟩ = some (.bool f) ∧ w.cell? ⟨b, off + j * 7 + 6, none⟩ = some (.int .u64 g) := by
  have := h.2 j hj
  rw [hg] at this
  exact ⟨this 0 (by omega), this 1 (by omega), this 2 (by omega), this 3 (by omega), this 4 (by omega), this 5 (by omega), this 6 (by omega)⟩
theorem rows7_of_owns {w : World} {base e g n cap : Nat} {l : List St} (h : w.ownsRow base e 7 (.slice (some ⟨g, 0, none⟩) n cap) n (flat7 l)) (hn : n = l.length) : Rows7 w g 0 l := by
  subst hn
  refine ⟨(h.lt g rfl).2, fun j hj t ht => ?_⟩
  rw [Nat.zero_add, h.cellAt (j * 7 + t) (by omega)]
  exact flat7_at l j t hj ht

end Go.Proofs.Qxb6600199a
