/-
  without (function 12).
-/
import Derived.Test.Qxb6600196aRows
import Derived.WalkKit
import Derived.WalkSpells
import Derived.WalkLawsBesides
import Derived.Deep.QuietTactic
import Derived.BigQuiet
namespace Go.Proofs.Qxb6600196a
open Go.RowKit

theorem hide {p : Prop} (h : p) : Hid p := h
theorem unhide {p : Prop} (h : Hid p) : p := h

theorem Try.info33 : (Try.prog.info? 33).map (fun i => (i.zero, i.size, i.bytes)) = some (some (.agg #[.int .u64 0, .int .u64 0, .int .u64 0]), 3, 24) := by kernel_rfl
theorem Try.info24 : (Try.prog.info? 24).map (fun i => (i.zero, i.size, i.bytes)) = some (some (.agg #[.int .u64 0, .int .u64 0, .int .u64 0]), 3, 24) := by kernel_rfl

/-- A reader: three numbers. -/
abbrev R3 := Int × Int × Int
def cellsOf3 (r : R3) : List Value := [.int .u64 r.1, .int .u64 r.2.1, .int .u64 r.2.2]
def flat (l : List R3) : List Value := l.flatMap cellsOf3
theorem flat_append (a b : List R3) : flat (a ++ b) = flat a ++ flat b := by simp [flat]
theorem flat_length (l : List R3) : (flat l).length = l.length * 3 := by
  induction l with
  | nil => rfl
  | cons a r ih => simp only [flat, List.flatMap_cons, List.length_append, List.length_cons] at ih ⊢; rw [ih]; simp [cellsOf3]; omega
theorem flat_at (l : List R3) (j : Nat) (hj : j < l.length) : (flat l)[j * 3]? = some (.int .u64 (l.getD j (0, 0, 0)).1) ∧ (flat l)[j * 3 + 1]? = some (.int .u64 (l.getD j (0, 0, 0)).2.1) ∧ (flat l)[j * 3 + 2]? = some (.int .u64 (l.getD j (0, 0, 0)).2.2) := by
  have e : flat l = flat (l.take j) ++ (cellsOf3 (l.getD j (0, 0, 0)) ++ flat (l.drop (j + 1))) := by
    have : l = l.take j ++ (l.getD j (0, 0, 0) :: l.drop (j + 1)) := by
      rw [List.getD, List.getElem?_eq_getElem hj]
      simp
    conv => lhs; rw [this]
    rw [flat_append]
    simp [flat]
  have hl : (flat (l.take j)).length = j * 3 := by rw [flat_length]; simp; omega
  rw [e]
  refine ⟨?_, ?_, ?_⟩
  · rw [List.getElem?_append_right (by omega), hl]; simp [cellsOf3]
  · rw [List.getElem?_append_right (by omega), hl, show j * 3 + 1 - j * 3 = 1 by omega]; simp [cellsOf3]
  · rw [List.getElem?_append_right (by omega), hl, show j * 3 + 2 - j * 3 = 2 by omega]; simp [cellsOf3]

/-- What a walk is told of a slice of readers: its cells, three a reader. -/
def Rows3 (w : World) (b off : Nat) (l : List R3) : Prop :=
  b < w.heap.size ∧ ∀ j, j < l.length → w.cell? ⟨b, off + j * 3, none⟩ = some (.int .u64 (l.getD j (0, 0, 0)).1) ∧ w.cell? ⟨b, off + j * 3 + 1, none⟩ = some (.int .u64 (l.getD j (0, 0, 0)).2.1) ∧ w.cell? ⟨b, off + j * 3 + 2, none⟩ = some (.int .u64 (l.getD j (0, 0, 0)).2.2)

theorem Rows3.below {w w' : World} {b off B : Nat} {l : List R3} (h : Rows3 w b off l) (hb : Below B w w') (hB : b < B) : Rows3 w' b off l :=
  ⟨Nat.lt_of_lt_of_le h.1 hb.size, fun j hj => ⟨(hb.cell (p := ⟨b, off + j * 3, none⟩) hB).trans (h.2 j hj).1, (hb.cell (p := ⟨b, off + j * 3 + 1, none⟩) hB).trans (h.2 j hj).2.1, (hb.cell (p := ⟨b, off + j * 3 + 2, none⟩) hB).trans (h.2 j hj).2.2⟩⟩

theorem rows_of_owns {w : World} {base e g n cap : Nat} {l : List R3} (h : w.ownsRow base e 3 (.slice (some ⟨g, 0, none⟩) n cap) n (flat l)) (hn : n = l.length) : Rows3 w g 0 l := by
  subst hn
  refine ⟨(h.lt g rfl).2, fun j hj => ?_⟩
  obtain ⟨h0, h1, h2⟩ := flat_at l j hj
  rw [Nat.zero_add, h.cellAt (j * 3) (by omega), h.cellAt (j * 3 + 1) (by omega), h.cellAt (j * 3 + 2) (by omega)]
  exact ⟨h0, h1, h2⟩

/-- Those that are kept. -/
def keep (l : List R3) (rd : R3) : List R3 := l.filter (fun r => decide (r ≠ rd))
theorem keep_le (l : List R3) (rd : R3) : (keep l rd).length ≤ l.length := List.length_filter_le _ _
theorem keep_drop {l : List R3} {rd : R3} {k : Nat} (hk : k < l.length) (h : l.getD k (0, 0, 0) = rd) : keep (l.take (k + 1)) rd = keep (l.take k) rd := by
  unfold keep
  rw [List.take_succ_eq_append_getElem hk, List.filter_append]
  have : l[k] = rd := by rw [← h]; simp [List.getD, List.getElem?_eq_getElem hk]
  simp [this]
theorem keep_add {l : List R3} {rd : R3} {k : Nat} (hk : k < l.length) (h : l.getD k (0, 0, 0) ≠ rd) : keep (l.take (k + 1)) rd = keep (l.take k) rd ++ [l.getD k (0, 0, 0)] := by
  unfold keep
  have e : l[k] = l.getD k (0, 0, 0) := by simp [List.getD, List.getElem?_eq_getElem hk]
  rw [List.take_succ_eq_append_getElem hk, List.filter_append, e]
  congr 1
  rw [List.filter_cons, if_pos (by simpa using h)]
  rfl

/-- The call handed back a slice that owns these readers. -/
def WEnd (e : Ending) (w' : World) (base ty : Nat) (l : List R3) : Prop := ∃ v, e = .returned v ∧ w'.ownsRow base ty 3 v l.length (flat l)
theorem new3 (w : World) (p q r : Int) (o : Obj) (t : TypeId) : ∀ j u, (cellsOf3 (p, q, r))[j]? = some u → ((w.alloc o).alloc (.cells #[.int .u64 p, .int .u64 q, .int .u64 r] t)).cell? (Addr.add ⟨w.heap.size + 1, 0, none⟩ j) = some u := by
  intro j u hj
  match j, hj with
  | 0, hj => simp [cellsOf3] at hj; subst hj; simp [Addr.add]
  | 1, hj => simp [cellsOf3] at hj; subst hj; simp [Addr.add]
  | 2, hj => simp [cellsOf3] at hj; subst hj; simp [Addr.add]
  | j + 3, hj => simp [cellsOf3] at hj
theorem own_step {w : World} {base ty : Nat} {v : Value} {K K' : List R3} {r : R3} (e : K' = K ++ [r]) (h : w.ownsRow base ty 3 v (K.length + 1) (flat K ++ cellsOf3 r)) : w.ownsRow base ty 3 v K'.length (flat K') := by
  subst e
  rw [flat_append, List.length_append]
  have : flat [r] = cellsOf3 r := by simp [flat]
  rw [this]
  exact h
theorem one3 (r : R3) : ∀ u ∈ cellsOf3 r, u.oneCell' = true := by
  intro u hu
  simp [cellsOf3] at hu
  rcases hu with rfl | rfl | rfl <;> rfl

set_option maxHeartbeats 400000 in
theorem without_empty (a : Option Addr) (c : Nat) (x y z : Int) (w : World) :
    Calls Try.prog 12 #[.slice a 0 c, .agg #[.int .u64 x, .int .u64 y, .int .u64 z]] w fun e w' => e = .returned (.slice none 0 0) ∧ Below w.heap.size w w' := by
  go_enter Try.func12, Try.ntmps12
  go_wp2
  refine wp_loop_rounds 1 ?_
  rw [rounds_succ]
  go_wp2
  go_ret
  exact ⟨rfl, (Below.refl _ _).alloc (Nat.le_refl _) _⟩

set_option maxHeartbeats 1000000 in
theorem without_any (b off c : Nat) (l : List R3) (x y z : Int) (w : World) (hr : Rows3 w b off l) (hn : l.length ≤ 43690) :
    Calls Try.prog 12 #[.slice (some ⟨b, off, none⟩) l.length c, .agg #[.int .u64 x, .int .u64 y, .int .u64 z]] w fun e w' =>
      WEnd e w' (w.heap.size + 1) 33 (keep l (x, y, z)) ∧ Below w.heap.size w w' := by
  obtain ⟨n, hnn⟩ : ∃ n, n = l.length := ⟨_, rfl⟩
  rw [← hnn] at hn ⊢
  have HN : Hid (n = l.length) := hnn
  clear hnn
  obtain ⟨i0, hi, hz0, hz1, hz2⟩ := info_parts Try.info33
  go_enter Try.func12, Try.ntmps12
  go_wp2
  go_loopw [5, 10] (fun v i wr => ∃ k : Nat, k ≤ n ∧ i = .int .i64 k ∧ wr.ownsRow (w.heap.size + 1) 33 3 v (keep (l.take k) (x, y, z)).length (flat (keep (l.take k) (x, y, z))) ∧
      Below (w.heap.size + 1) (w.alloc (.cells #[.int .u64 x, .int .u64 y, .int .u64 z] 33)) wr) (fun _ i _ => n - (intOf i).toNat)
  case atStart => exact ⟨0, Nat.zero_le _, rfl, World.ownsRow_nil _ _ _ _, Below.refl _ _⟩
  case round =>
    obtain ⟨k, hk, rfl, hown, hnx⟩ := hrel
    have hnsz := hnx.size
    rw [show (w.alloc (.cells #[.int .u64 x, .int .u64 y, .int .u64 z] 33)).heap.size = w.heap.size + 1 by simp] at hnsz
    have hs : w.heap.size < wr.heap.size := by omega
    by_cases hlt : k < n
    · have hkl : k < l.length := by rw [← HN.out]; exact hlt
      have hA : Below w.heap.size w wr := ((Below.refl _ _).alloc (Nat.le_refl _) _).trans (hnx.mono (by omega))
      obtain ⟨d0, d1, d2⟩ := (hr.below hA hr.1).2 k hkl
      have c0 : wr.cell? ⟨w.heap.size, 0, none⟩ = some (.int .u64 x) := (hnx.cell (p := ⟨w.heap.size, 0, none⟩) (Nat.lt_succ_self _)).trans (by simp)
      have c1 : wr.cell? ⟨w.heap.size, 1, none⟩ = some (.int .u64 y) := (hnx.cell (p := ⟨w.heap.size, 1, none⟩) (Nat.lt_succ_self _)).trans (by simp)
      have c2 : wr.cell? ⟨w.heap.size, 2, none⟩ = some (.int .u64 z) := (hnx.cell (p := ⟨w.heap.size, 2, none⟩) (Nat.lt_succ_self _)).trans (by simp)
      have hkle : (keep (l.take k) (x, y, z)).length ≤ 43690 := Nat.le_trans (keep_le _ _) (by simp; omega)
      have KD : Hid (l.getD k (0, 0, 0) = (x, y, z) → keep (l.take (k + 1)) (x, y, z) = keep (l.take k) (x, y, z)) := keep_drop hkl
      have KA : Hid (l.getD k (0, 0, 0) ≠ (x, y, z) → keep (l.take (k + 1)) (x, y, z) = keep (l.take k) (x, y, z) ++ [l.getD k (0, 0, 0)]) := keep_add hkl
      generalize l.getD k (0, 0, 0) = rk at d0 d1 d2 KD KA
      obtain ⟨p, q, r⟩ := rk
      by_cases hall : p = x ∧ q = y ∧ r = z
      · obtain ⟨rfl, rfl, rfl⟩ := hall
        go_wp2
        go_roundw
        case rel => exact ⟨k + 1, by omega, by go_num, (KD.out rfl).symm ▸ hown.alloc _, hnx.alloc hnsz _⟩
        case measure => simp [intOf]; omega
      · have KA' : Hid (keep (l.take (k + 1)) (x, y, z) = keep (l.take k) (x, y, z) ++ [(p, q, r)]) := KA.out (fun e => hall (by simpa using e))
        clear KD KA
        have hparts : ¬ p = x ∨ (p = x ∧ ¬ q = y) ∨ (p = x ∧ q = y ∧ ¬ r = z) := by
          by_cases h1 : p = x
          · by_cases h2 : q = y
            · exact .inr (.inr ⟨h1, h2, fun h3 => hall ⟨h1, h2, h3⟩⟩)
            · exact .inr (.inl ⟨h1, h2⟩)
          · exact .inl h1
        clear hall
        rcases hparts with h1 | ⟨rfl, h2⟩ | ⟨rfl, rfl, h3⟩
        all_goals
          go_wp2_with (at_builtin; refine wpList_append_own _ rfl _ _ 31 rfl (w.heap.size + 1) 33 i0 (.agg #[.int .u64 0, .int .u64 0, .int .u64 0]) 3 24 Try.underlying31 hi hz0 hz1 hz2 rfl (by decide) _ _ _ rfl ((hown.alloc _).alloc _) ⟨wr.heap.size + 1, 0, none⟩ 1 1 (cellsOf3 (p, q, r)) rfl rfl (new3 wr p q r _ 33) (one3 (p, q, r)) (by unfold maxLen; omega) (by omega) (by simp; omega) ?_; intro v' w1 hown1 hgrow1 _)
          go_roundw
          case rel => exact ⟨k + 1, by omega, by go_num, own_step KA'.out hown1, ((hnx.alloc hnsz _).alloc (by simp; omega) _).grown hgrow1 (by simp; omega) (fun j hj => (hown.lt j hj).1)⟩
          case measure => simp [intOf]; omega
    · have hkn : l.take k = l := List.take_of_length_le (by rw [← HN.out]; omega)
      rw [hkn] at hown
      clear hkn
      go_wp2
      go_ret
      exact ⟨⟨_, rfl, hown⟩, ((Below.refl _ _).alloc (Nat.le_refl _) _).trans (hnx.mono (by omega))⟩

end Go.Proofs.Qxb6600196a
