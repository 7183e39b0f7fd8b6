/-
  The bounds (functions 5, 13, 6), the pairs (9), the first index (11).
-/
import Derived.Test.Qxb6600213aRows
import Derived.WalkKit
import Derived.WalkSpells
import Derived.WalkLawsBesides
namespace Go.Proofs.Qxb6600213a
open Go.RowKit

theorem hide {p : Prop} (h : p) : Hid p := h
theorem unhide {p : Prop} (h : Hid p) : p := h

/-- A slice of strings, nil and empty ones too: its cells. -/
def Strs (w : World) (p : Option Addr) (ss : List ByteArray) : Prop :=
  ss ≠ [] → ∃ b off, p = some ⟨b, off, none⟩ ∧ b < w.heap.size ∧ ∀ j, j < ss.length → w.cell? ⟨b, off + j, none⟩ = some (.string (ss.getD j ByteArray.empty))
def Ints (w : World) (p : Option Addr) (is : List Int) : Prop :=
  is ≠ [] → ∃ b off, p = some ⟨b, off, none⟩ ∧ b < w.heap.size ∧ ∀ j, j < is.length → w.cell? ⟨b, off + j, none⟩ = some (.int .i64 (is.getD j 0))
theorem Strs.at {w : World} {p : Option Addr} {ss : List ByteArray} (h : Strs w p ss) {k : Nat} (hk : k < ss.length) : ∃ b off, p = some ⟨b, off, none⟩ ∧ b < w.heap.size ∧ w.cell? ⟨b, off + k, none⟩ = some (.string (ss.getD k ByteArray.empty)) := by
  obtain ⟨b, off, h1, h2, h3⟩ := h (by rintro rfl; cases hk)
  exact ⟨b, off, h1, h2, h3 k hk⟩
theorem Ints.at {w : World} {p : Option Addr} {is : List Int} (h : Ints w p is) {k : Nat} (hk : k < is.length) : ∃ b off, p = some ⟨b, off, none⟩ ∧ b < w.heap.size ∧ w.cell? ⟨b, off + k, none⟩ = some (.int .i64 (is.getD k 0)) := by
  obtain ⟨b, off, h1, h2, h3⟩ := h (by rintro rfl; cases hk)
  exact ⟨b, off, h1, h2, h3 k hk⟩
theorem Strs.below {w w' : World} {p : Option Addr} {ss : List ByteArray} (h : Strs w p ss) (hb : Below w.heap.size w w') : Strs w' p ss := fun hne => by
  obtain ⟨b, off, h1, h2, h3⟩ := h hne
  exact ⟨b, off, h1, Nat.lt_of_lt_of_le h2 hb.size, fun j hj => (hb.cell (p := ⟨b, off + j, none⟩) h2).trans (h3 j hj)⟩
theorem Ints.below {w w' : World} {p : Option Addr} {ss : List Int} (h : Ints w p ss) (hb : Below w.heap.size w w') : Ints w' p ss := fun hne => by
  obtain ⟨b, off, h1, h2, h3⟩ := h hne
  exact ⟨b, off, h1, Nat.lt_of_lt_of_le h2 hb.size, fun j hj => (hb.cell (p := ⟨b, off + j, none⟩) h2).trans (h3 j hj)⟩

/-- The bound answered, and what its yes says. -/
def BndEnd (e : Ending) (ss : List ByteArray) (m : Nat) : Prop := ∃ r : Bool, e = .returned (.bool r) ∧ (r = true → ss.length ≤ 1048576 ∧ m ≤ 1048576 ∧ ∀ s ∈ ss, s.size ≤ 1048576)
theorem BndEnd.no {e : Ending} {ss : List ByteArray} {m : Nat} (h : e = .returned (.bool false)) : BndEnd e ss m := ⟨false, h, fun h => by cases h⟩
/-- The first k strings are short. -/
def Short (ss : List ByteArray) (k : Nat) : Prop := ∀ s ∈ ss.take k, s.size ≤ 1048576
theorem Short.succ {ss : List ByteArray} {k : Nat} (hk : k < ss.length) (h : Short ss k) (hs : (ss.getD k ByteArray.empty).size ≤ 1048576) : Short ss (k + 1) := by
  intro s hm
  rw [List.take_succ_eq_append_getElem hk] at hm
  rcases List.mem_append.1 hm with hm | hm
  · exact h s hm
  · simp only [List.mem_singleton] at hm
    subst hm
    simpa [List.getD, List.getElem?_eq_getElem hk] using hs

set_option maxHeartbeats 400000 in
theorem bytes5 (p q : Option Addr) (c m d : Nat) (ss : List ByteArray) (w : World) (hc : Strs w p ss)
    (hn : ss.length ≤ 140737488351232) (hm : m ≤ 140737488351232) (hs : ∀ j, (ss.getD j ByteArray.empty).size ≤ 9223372036854775807) :
    Calls Try.prog 5 #[.slice p ss.length c, .slice q m d] w fun e w' => BndEnd e ss m ∧ w' = w := by
  obtain ⟨n, hnn⟩ : ∃ n, n = ss.length := ⟨_, rfl⟩
  rw [← hnn] at hn ⊢
  have HN : Hid (n = ss.length) := hnn
  have HS : Hid (∀ j, (ss.getD j ByteArray.empty).size ≤ 9223372036854775807) := hs
  have HC := hide hc
  clear hnn hs hc
  by_cases hb : n ≤ 1048576
  · go_enter Try.func5, Try.ntmps5
    go_wp2
    go_loop [5, 6] (fun t i => ∃ (k : Nat) (z : Nat), k ≤ n ∧ z ≤ 1048576 ∧ i = .int .i64 k ∧ t = .int .i64 z ∧ Hid (Short ss k)) (fun _ i => n - (intOf i).toNat)
    case atStart => exact ⟨0, n, Nat.zero_le _, hb, rfl, rfl, hide (fun s h => by cases h)⟩
    case round =>
      obtain ⟨k, z, hk, hz, rfl, rfl, hsh⟩ := hrel
      by_cases hlt : k < n
      · obtain ⟨b, off, rfl, _, hcx⟩ := HC.out.at (k := k) (by rw [← HN.out]; exact hlt)
        have hsx := HS.out k
        have HSU := hide (fun h => Short.succ (ss := ss) (k := k) (by rw [← HN.out]; exact hlt) hsh.out h)
        obtain ⟨s, hs'⟩ : ∃ s, s = ss.getD k ByteArray.empty := ⟨_, rfl⟩
        rw [← hs'] at hcx hsx HSU
        clear hs'
        by_cases h1 : s.size ≤ 1048576
        · by_cases h2 : z + s.size ≤ 1048576
          · go_wp2
            go_round
            case rel => exact ⟨k + 1, z + s.size, by omega, h2, by go_num, by go_num, hide (HSU.out h1)⟩
            case measure => simp [intOf]; omega
          · go_wp2
            go_ret
            exact ⟨.no rfl, rfl⟩
        · go_wp2
          go_ret
          exact ⟨.no rfl, rfl⟩
      · obtain rfl : k = n := by omega
        have hall : Hid (∀ s ∈ ss, s.size ≤ 1048576) := hide (fun s h => hsh.out s (by rw [HN.out, List.take_length]; exact h))
        by_cases h3 : m ≤ 1048576
        · by_cases h4 : z + m ≤ 1048576
          · go_wp2
            go_ret
            exact ⟨⟨true, rfl, fun _ => ⟨by rw [← HN.out]; exact hb, h3, hall.out⟩⟩, rfl⟩
          · go_wp2
            go_ret
            exact ⟨.no rfl, rfl⟩
        · go_wp2
          go_ret
          exact ⟨.no rfl, rfl⟩
  · go_enter Try.func5, Try.ntmps5
    go_wp2
    go_ret
    exact ⟨.no rfl, rfl⟩

/-- The call returned some int. -/
def RetI (e : Ending) : Prop := ∃ r : Int, e = .returned (.int .i64 r) ∧ 0 ≤ r ∧ r ≤ 4194304
theorem RetI.mk {e : Ending} (r : Int) (h : e = .returned (.int .i64 r)) (h1 : 0 ≤ r) (h2 : r ≤ 4194304) : RetI e := ⟨r, h, h1, h2⟩

set_option maxHeartbeats 400000 in
theorem strBytes13 (p : Option Addr) (c : Nat) (ss : List ByteArray) (w : World) (hc : Strs w p ss)
    (hn : ss.length ≤ 1048576) (hs : ∀ s ∈ ss, s.size ≤ 1048576) :
    Calls Try.prog 13 #[.slice p ss.length c] w fun e w' => RetI e ∧ w' = w := by
  have HS : Hid (∀ j, (ss.getD j ByteArray.empty).size ≤ 1048576) := hide (fun j => by
    by_cases hj : j < ss.length
    · exact hs _ (by simp [List.getD, List.getElem?_eq_getElem hj])
    · rw [List.getD, List.getElem?_eq_none (by omega)]; exact Nat.zero_le _)
  obtain ⟨n, hnn⟩ : ∃ n, n = ss.length := ⟨_, rfl⟩
  rw [← hnn] at hn ⊢
  have HN : Hid (n = ss.length) := hnn
  have HC := hide hc
  clear hnn hs hc
  go_enter Try.func13, Try.ntmps13
  go_wp2
  go_loop [3, 4] (fun t i => ∃ (k : Nat) (z : Nat), k ≤ n ∧ z ≤ 1048576 ∧ i = .int .i64 k ∧ t = .int .i64 z) (fun _ i => n - (intOf i).toNat)
  case atStart => exact ⟨0, 0, Nat.zero_le _, by omega, rfl, rfl⟩
  case round =>
    obtain ⟨k, z, hk, hz, rfl, rfl⟩ := hrel
    by_cases hlt : k < n
    · obtain ⟨b, off, rfl, _, hcx⟩ := HC.out.at (k := k) (by rw [← HN.out]; exact hlt)
      have hsx := HS.out k
      obtain ⟨s, hs'⟩ : ∃ s, s = ss.getD k ByteArray.empty := ⟨_, rfl⟩
      rw [← hs'] at hcx hsx
      clear hs'
      by_cases h2 : z + (16 + s.size) ≤ 1048576
      · go_wp2
        go_round
        case rel => exact ⟨k + 1, z + (16 + s.size), by omega, h2, by go_num, by go_num⟩
        case measure => simp [intOf]; omega
      · go_wp2
        go_ret
        exact ⟨.mk _ rfl (by omega) (by omega), rfl⟩
    · go_wp2
      go_ret
      exact ⟨.mk _ rfl (by omega) (by omega), rfl⟩

set_option maxHeartbeats 400000 in
theorem script6 (p q r : Option Addr) (c m d f : Nat) (ss us : List ByteArray) (w : World) (hc : Strs w p ss) (hu : Strs w r us)
    (hn : ss.length ≤ 1048576) (hs : ∀ s ∈ ss, s.size ≤ 1048576) (hn2 : us.length ≤ 1048576) (hs2 : ∀ s ∈ us, s.size ≤ 1048576) (hm : m ≤ 1048576) :
    Calls Try.prog 6 #[.slice p ss.length c, .slice q m d, .slice r us.length f] w fun e w' => (∃ x : Int, e = .returned (.int .i64 x)) ∧ w' = w := by
  have H1 := hide (strBytes13 p c ss w hc hn hs)
  have H2 := hide (strBytes13 r f us w hu hn2 hs2)
  clear hc hu hs hs2
  go_enter Try.func6, Try.ntmps6
  go_wp2_with fail
  refine (unhide H1).mono ?_
  rintro e w' ⟨⟨x, rfl, hx0, hx1⟩, hw⟩
  obtain rfl := hw.symm
  clear hw
  by_cases hx : x ≤ 1048576
  · go_wp2_with fail
    refine (unhide H2).mono ?_
    rintro e w' ⟨⟨y, rfl, hy0, hy1⟩, hw⟩
    obtain rfl := hw.symm
    clear hw
    by_cases hy : y ≤ 1048576
    · go_wp2
      go_ret
      exact ⟨⟨_, rfl⟩, rfl⟩
    · go_wp2
      go_ret
      exact ⟨⟨_, rfl⟩, rfl⟩
  · go_wp2
    go_ret
    exact ⟨⟨_, rfl⟩, rfl⟩

set_option maxHeartbeats 400000 in
theorem pairs9 (p q : Option Addr) (n c m d : Nat) (w : World) :
    Calls Try.prog 9 #[.slice p n c, .slice q m d] w fun e w' => e = .returned (.int .i64 ((min n m : Nat) : Int)) ∧ w' = w := by
  by_cases h : m < n
  · rw [Nat.min_eq_right (by omega)]
    go_enter Try.func9, Try.ntmps9
    go_wp2
    go_ret
    exact ⟨rfl, rfl⟩
  · rw [Nat.min_eq_left (by omega)]
    go_enter Try.func9, Try.ntmps9
    go_wp2
    go_ret
    exact ⟨rfl, rfl⟩

/-- The first place of v among the first k strings, else k. -/
def fst (ss : List ByteArray) (v : ByteArray) (k : Nat) : Nat := (ss.take k).findIdx (fun s => s.toList == v.toList)
/-- As zzFirstIndex tells it. -/
def fstI (ss : List ByteArray) (v : ByteArray) (k : Nat) : Int := if fst ss v k < k then (fst ss v k : Int) else -1
theorem fst_none {ss : List ByteArray} {v : ByteArray} {k : Nat} (hk : k ≤ ss.length) (h : ∀ j, j < k → ((ss.getD j ByteArray.empty).toList == v.toList) = false) : fst ss v k = k := by
  unfold fst
  rw [List.findIdx_eq_length.2]
  · simp; omega
  · intro x hx
    obtain ⟨i, hi, rfl⟩ := List.getElem_of_mem hx
    have hi' : i < k := by simp at hi; omega
    have := h i hi'
    rw [List.getElem_take]
    simpa [List.getD, List.getElem?_eq_getElem (show i < ss.length by omega)] using this
theorem fst_some {ss : List ByteArray} {v : ByteArray} {j k : Nat} (hj : j < k) (hk : k ≤ ss.length) (hy : ((ss.getD j ByteArray.empty).toList == v.toList) = true) (h : ∀ i, i < j → ((ss.getD i ByteArray.empty).toList == v.toList) = false) : fst ss v k = j := by
  unfold fst
  have hj' : j < (ss.take k).length := by simp; omega
  refine (List.findIdx_eq hj').2 ⟨?_, fun i hi => ?_⟩
  · rw [List.getElem_take]
    simpa [List.getD, List.getElem?_eq_getElem (show j < ss.length by omega)] using hy
  · have := h i hi
    rw [List.getElem_take]
    simpa [List.getD, List.getElem?_eq_getElem (show i < ss.length by omega)] using this

set_option maxHeartbeats 400000 in
theorem first11 (p : Option Addr) (l c : Nat) (n : Nat) (ss : List ByteArray) (v : ByteArray) (w : World) (hc : Strs w p ss) (hl : l = ss.length) (hn : n ≤ ss.length) (hb : l ≤ 1048576) :
    Calls Try.prog 11 #[.slice p l c, .int .i64 n, .string v] w fun e w' => e = .returned (.int .i64 (fstI ss v n)) ∧ w' = w := by
  have HC := hide hc
  have HL := hide hl
  have hnl : n ≤ l := by omega
  clear hc hl hn
  go_enter Try.func11, Try.ntmps11
  go_wp2
  go_loop [7] (fun i => ∃ k : Nat, k ≤ n ∧ i = .int .i64 k ∧ Hid (∀ j, j < k → ((ss.getD j ByteArray.empty).toList == v.toList) = false)) (fun i => n - (intOf i).toNat)
  case atStart => exact ⟨0, Nat.zero_le _, rfl, hide (fun j h => by cases h)⟩
  case round =>
    obtain ⟨k, hk, rfl, hno⟩ := hrel
    by_cases hlt : k < n
    · have hkl : k < ss.length := by rw [← HL.out]; omega
      obtain ⟨b, off, rfl, _, hcx⟩ := HC.out.at hkl
      have HY := hide (fun h => fst_some (v := v) hlt (by rw [← HL.out]; exact hnl) h hno.out)
      have HX : Hid (((ss.getD k ByteArray.empty).toList == v.toList) = false → ∀ j, j < k + 1 → ((ss.getD j ByteArray.empty).toList == v.toList) = false) := hide (fun h j hj => by
        rcases Nat.lt_or_eq_of_le (Nat.le_of_lt_succ hj) with h1 | h1
        · exact hno.out j h1
        · rw [h1]; exact h)
      have hkl2 : k < l := by omega
      generalize ss.getD k ByteArray.empty = s at hcx HY HX
      clear hkl hno
      cases hq : (s.toList == v.toList) with
      | true =>
        have H := hide (HY.out hq)
        clear HY HX
        go_wp2
        go_ret
        have e : fstI ss v n = (k : Int) := by unfold fstI; rw [H.out, if_pos hlt]
        exact ⟨by rw [e]; rfl, rfl⟩
      | false =>
        have H := hide (HX.out hq)
        clear HY HX
        go_wp2
        go_round
        case rel => exact ⟨k + 1, by omega, by go_num, H⟩
        case measure => simp [intOf]; omega
    · obtain rfl : k = n := by omega
      have H := hide (fst_none (v := v) (by rw [← HL.out]; exact hnl) hno.out)
      clear hno
      go_wp2
      go_ret
      have e : fstI ss v k = -1 := by unfold fstI; rw [H.out, if_neg (by omega)]
      exact ⟨by rw [e]; rfl, rfl⟩

end Go.Proofs.Qxb6600213a
