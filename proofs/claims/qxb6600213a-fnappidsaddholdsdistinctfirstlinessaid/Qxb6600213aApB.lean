/-
  The copies (functions 7, 8), strings.Clone (15, 16), add (14, 10).
-/
import Derived.Test.Qxb6600213aApA
import Derived.Maps.OwnSet
import Derived.Laws.CopyOwn
namespace Go.Proofs.Qxb6600213a
open Go.RowKit Go.Maps Go.WideMaps

theorem Try.info9 : (Try.prog.info? 9).map (fun i => (i.zero, i.size, i.bytes)) = some (some (.string ByteArray.empty), 1, 16) := by kernel_rfl
theorem Try.info3 : (Try.prog.info? 3).map (fun i => (i.zero, i.size, i.bytes)) = some (some (.int .i64 0), 1, 8) := by kernel_rfl

/-- Behind k rounds of a copy. -/
def half (vs : List Value) (z : Value) (n k : Nat) : List Value := vs.take k ++ List.replicate (n - k) z
theorem half_zero (vs : List Value) (z : Value) (n : Nat) : half vs z n 0 = List.replicate n z := by simp [half]
theorem half_step (vs : List Value) (z u : Value) (n k : Nat) (h : k < n) (hn : n ≤ vs.length) (hu : vs[k]? = some u) : (half vs z n k).set k u = half vs z n (k + 1) := by
  unfold half
  have hl : (vs.take k).length = k := by simp; omega
  obtain ⟨m, hm⟩ : ∃ m, n - k = m + 1 := ⟨n - k - 1, by omega⟩
  have hm' : n - (k + 1) = m := by omega
  have hk : k < vs.length := by omega
  have e : vs[k] = u := by rw [List.getElem?_eq_getElem hk] at hu; exact Option.some.inj hu
  rw [hm, hm', List.replicate_succ, List.set_append_right _ _ (by omega), hl, Nat.sub_self, List.set_cons_zero, List.take_succ_eq_append_getElem hk, e, List.append_assoc]
  rfl
theorem half_at (vs : List Value) (z : Value) (n k : Nat) (h : k < n) (hn : n ≤ vs.length) : (half vs z n k)[k]? = some z := by
  unfold half
  have hl : (vs.take k).length = k := by simp; omega
  rw [List.getElem?_append_right (by omega), hl, Nat.sub_self, List.getElem?_replicate, if_pos (by omega)]
theorem half_full (vs : List Value) (z : Value) : half vs z vs.length vs.length = vs := by simp [half]

theorem q22 (w : World) (a : Option Addr) (n c n' c' : Nat) : (binOp .eql 22 (.slice a n c) (.slice none n' c')).run Try.prog w = .ok (.bool a.isNone) w := Lib.run_eql_slice_nil w _ _ a n c n' c' Try.underlying22
theorem q23 (w : World) (a : Option Addr) (n c n' c' : Nat) : (binOp .eql 23 (.slice a n c) (.slice none n' c')).run Try.prog w = .ok (.bool a.isNone) w := Lib.run_eql_slice_nil w _ _ a n c n' c' Try.underlying23

/-- The copy that came back. -/
def CpS (e : Ending) (w' : World) (ss : List ByteArray) : Prop := ∃ p c, e = .returned (.slice p ss.length c) ∧ Strs w' p ss
def CpI (e : Ending) (w' : World) (is : List Int) : Prop := ∃ p c, e = .returned (.slice p is.length c) ∧ Ints w' p is

set_option maxHeartbeats 400000 in
theorem copyS (p : Option Addr) (c : Nat) (ss : List ByteArray) (w : World) (hc : Strs w p ss) (hn : ss.length ≤ 1048576) :
    Calls Try.prog 7 #[.slice p ss.length c] w fun e w' => CpS e w' ss ∧ Below w.heap.size w w' := by
  have q := q22
  cases p with
  | none =>
    obtain rfl : ss = [] := by
      cases ss with
      | nil => rfl
      | cons a r => obtain ⟨_, _, h, _⟩ := hc (by simp); cases h
    clear hc hn
    go_enter Try.func7, Try.ntmps7
    go_wp2
    go_ret
    exact ⟨⟨none, 0, rfl, fun h => absurd rfl h⟩, Below.refl _ _⟩
  | some a =>
    obtain ⟨n, hnn⟩ : ∃ n, n = ss.length := ⟨_, rfl⟩
    rw [← hnn] at hn ⊢
    have HN : Hid (n = ss.length) := hnn
    have HC := hide hc
    clear hnn hc
    obtain ⟨i0, hi, hz0, hz1, hz2⟩ := info_parts Try.info9
    go_enter Try.func7, Try.ntmps7
    go_wp2_with (at_make; refine wpList_make_full _ rfl _ _ 22 rfl w.heap.size 9 i0 (.string ByteArray.empty) 1 Try.underlying22 hi hz0 hz1 .i64 .i64 _ _ n rfl rfl rfl rfl (by rw [hz2]; omega) (by unfold maxLen; omega) (Nat.le_refl _) ?_; intro w1 hown1 hgrow1)
    have hb1 : Below w.heap.size w w1 := (Below.refl _ _).grown hgrow1 (Nat.le_refl _) (fun k hk => by cases hk)
    have ho1 : w1.ownsRow w.heap.size 9 1 (.slice (some ⟨w.heap.size, 0, none⟩) n n) n (half (ss.map Value.string) (.string ByteArray.empty) n 0) := by
      rw [half_zero, ← toList_madeCells_one]
      have e : (Value.string ByteArray.empty).cells = #[.string ByteArray.empty] := rfl
      rw [e, Nat.mul_one] at hown1
      exact hown1
    clear hown1 hgrow1
    go_loopw [4] (fun i wr => ∃ k : Nat, k ≤ n ∧ i = .int .i64 k ∧ wr.ownsRow w.heap.size 9 1 (.slice (some ⟨w.heap.size, 0, none⟩) n n) n (half (ss.map Value.string) (.string ByteArray.empty) n k) ∧ Below w.heap.size w wr) (fun i _ => n - (intOf i).toNat)
    case atStart => exact ⟨0, Nat.zero_le _, rfl, ho1, hb1⟩
    case round =>
      obtain ⟨k, hk, rfl, hown, hnx⟩ := hrel
      by_cases hlt : k < n
      · have hkl : k < ss.length := by rw [← HN.out]; exact hlt
        have hln : n ≤ (ss.map Value.string).length := by rw [List.length_map, HN.out]; exact Nat.le_refl _
        obtain ⟨b, off, ha, hbw, hcx0⟩ := HC.out.at hkl
        obtain rfl : a = ⟨b, off, none⟩ := Option.some.inj ha
        have hst := half_step (ss.map Value.string) (.string ByteArray.empty) (.string (ss.getD k ByteArray.empty)) n k hlt hln (by simp [List.getD, List.getElem?_eq_getElem hkl])
        have hcx := (hnx.cell (p := ⟨b, off + k, none⟩) hbw).trans hcx0
        clear hcx0 ha hkl
        generalize ss.getD k ByteArray.empty = s at hcx hst
        have hfz := hown.frozenAt k
        have hcl := hown.cellAt k (by omega)
        rw [half_at _ _ n k hlt hln] at hcl
        have hR := hown.stored k (.string s)
        rw [hst] at hR
        obtain ⟨hR1, hR2⟩ := hR
        have hR3 := hnx.grown hR2 hnx.size (fun k hk => by cases hk; exact Nat.le_refl _)
        clear hR2 hown hst hln
        go_wp2
        go_roundw
        case rel => exact ⟨k + 1, by omega, by go_num, hR1, hR3⟩
        case measure => simp [intOf]; omega
      · obtain rfl : k = n := by omega
        have hf : half (ss.map Value.string) (.string ByteArray.empty) k k = ss.map Value.string := by
          have := half_full (ss.map Value.string) (.string ByteArray.empty)
          rw [List.length_map, ← HN.out] at this
          exact this
        rw [hf] at hown
        have HO := hide hown
        clear hf hown ho1
        go_wp2
        go_ret
        refine ⟨⟨_, _, by rw [← HN.out]; rfl, fun _ => ⟨w.heap.size, 0, rfl, (HO.out.lt _ rfl).2, fun j hj => ?_⟩⟩, hnx⟩
        rw [Nat.zero_add, HO.out.cellAt j (by rw [HN.out]; omega)]
        simp [List.getD, List.getElem?_eq_getElem hj]

set_option maxHeartbeats 400000 in
theorem copyI (p : Option Addr) (c : Nat) (ss : List Int) (w : World) (hc : Ints w p ss) (hn : ss.length ≤ 1048576) :
    Calls Try.prog 8 #[.slice p ss.length c] w fun e w' => CpI e w' ss ∧ Below w.heap.size w w' := by
  have q := q23
  cases p with
  | none =>
    obtain rfl : ss = [] := by
      cases ss with
      | nil => rfl
      | cons a r => obtain ⟨_, _, h, _⟩ := hc (by simp); cases h
    clear hc hn
    go_enter Try.func8, Try.ntmps8
    go_wp2
    go_ret
    exact ⟨⟨none, 0, rfl, fun h => absurd rfl h⟩, Below.refl _ _⟩
  | some a =>
    obtain ⟨n, hnn⟩ : ∃ n, n = ss.length := ⟨_, rfl⟩
    rw [← hnn] at hn ⊢
    have HN : Hid (n = ss.length) := hnn
    have HC := hide hc
    clear hnn hc
    obtain ⟨i0, hi, hz0, hz1, hz2⟩ := info_parts Try.info3
    go_enter Try.func8, Try.ntmps8
    go_wp2_with (at_make; refine wpList_make_full _ rfl _ _ 23 rfl w.heap.size 3 i0 (.int .i64 0) 1 Try.underlying23 hi hz0 hz1 .i64 .i64 _ _ n rfl rfl rfl rfl (by rw [hz2]; omega) (by unfold maxLen; omega) (Nat.le_refl _) ?_; intro w1 hown1 hgrow1)
    have hb1 : Below w.heap.size w w1 := (Below.refl _ _).grown hgrow1 (Nat.le_refl _) (fun k hk => by cases hk)
    have ho1 : w1.ownsRow w.heap.size 3 1 (.slice (some ⟨w.heap.size, 0, none⟩) n n) n (half (ss.map (Value.int .i64)) (.int .i64 0) n 0) := by
      rw [half_zero, ← toList_madeCells_one]
      have e : (Value.int .i64 0).cells = #[.int .i64 0] := rfl
      rw [e, Nat.mul_one] at hown1
      exact hown1
    clear hown1 hgrow1
    go_loopw [4] (fun i wr => ∃ k : Nat, k ≤ n ∧ i = .int .i64 k ∧ wr.ownsRow w.heap.size 3 1 (.slice (some ⟨w.heap.size, 0, none⟩) n n) n (half (ss.map (Value.int .i64)) (.int .i64 0) n k) ∧ Below w.heap.size w wr) (fun i _ => n - (intOf i).toNat)
    case atStart => exact ⟨0, Nat.zero_le _, rfl, ho1, hb1⟩
    case round =>
      obtain ⟨k, hk, rfl, hown, hnx⟩ := hrel
      by_cases hlt : k < n
      · have hkl : k < ss.length := by rw [← HN.out]; exact hlt
        have hln : n ≤ (ss.map (Value.int .i64)).length := by rw [List.length_map, HN.out]; exact Nat.le_refl _
        obtain ⟨b, off, ha, hbw, hcx0⟩ := HC.out.at hkl
        obtain rfl : a = ⟨b, off, none⟩ := Option.some.inj ha
        have hst := half_step (ss.map (Value.int .i64)) (.int .i64 0) (.int .i64 (ss.getD k 0)) n k hlt hln (by simp [List.getD, List.getElem?_eq_getElem hkl])
        have hcx := (hnx.cell (p := ⟨b, off + k, none⟩) hbw).trans hcx0
        clear hcx0 ha hkl
        generalize ss.getD k 0 = s at hcx hst
        have hfz := hown.frozenAt k
        have hcl := hown.cellAt k (by omega)
        rw [half_at _ _ n k hlt hln] at hcl
        have hR := hown.stored k (.int .i64 s)
        rw [hst] at hR
        obtain ⟨hR1, hR2⟩ := hR
        have hR3 := hnx.grown hR2 hnx.size (fun k hk => by cases hk; exact Nat.le_refl _)
        clear hR2 hown hst hln
        go_wp2
        go_roundw
        case rel => exact ⟨k + 1, by omega, by go_num, hR1, hR3⟩
        case measure => simp [intOf]; omega
      · obtain rfl : k = n := by omega
        have hf : half (ss.map (Value.int .i64)) (.int .i64 0) k k = ss.map (Value.int .i64) := by
          have := half_full (ss.map (Value.int .i64)) (.int .i64 0)
          rw [List.length_map, ← HN.out] at this
          exact this
        rw [hf] at hown
        have HO := hide hown
        clear hf hown ho1
        go_wp2
        go_ret
        refine ⟨⟨_, _, by rw [← HN.out]; rfl, fun _ => ⟨w.heap.size, 0, rfl, (HO.out.lt _ rfl).2, fun j hj => ?_⟩⟩, hnx⟩
        rw [Nat.zero_add, HO.out.cellAt j (by rw [HN.out]; omega)]
        simp [List.getD, List.getElem?_eq_getElem hj]

end Go.Proofs.Qxb6600213a
