/-
  FnAppIDsAddHoldsDistinctFirstLines (4): the bound (12), the look-up, the count.
-/
import Derived.Test.Qxb6600213aApD
namespace Go.Proofs.Qxb6600213a
open Go.RowKit Go.Maps Go.WideMaps

def BndEnd3 (e : Ending) (ss : List ByteArray) (m : Nat) (us : List ByteArray) : Prop := ∃ r : Bool, e = .returned (.bool r) ∧ (r = true → (ss.length ≤ 1048576 ∧ ∀ s ∈ ss, s.size ≤ 1048576) ∧ m ≤ 1048576 ∧ us.length ≤ 1048576 ∧ ∀ s ∈ us, s.size ≤ 1048576)
theorem BndEnd3.no {e : Ending} {ss us : List ByteArray} {m : Nat} (h : e = .returned (.bool false)) : BndEnd3 e ss m us := ⟨false, h, fun h => by cases h⟩

set_option maxHeartbeats 1000000 in
theorem bytes12 (p q r : Option Addr) (c m d f : Nat) (ss us : List ByteArray) (w : World) (hc : Strs w p ss) (hu : Strs w r us)
    (hn : ss.length ≤ 140737488351232) (hm : m ≤ 140737488351232) (ho : us.length ≤ 140737488351232) (hs : ∀ j, (ss.getD j ByteArray.empty).size ≤ 9223372036854775807) (ht : ∀ j, (us.getD j ByteArray.empty).size ≤ 9223372036854775807) :
    Calls Try.prog 12 #[.slice p ss.length c, .slice q m d, .slice r us.length f] w fun e w' => BndEnd3 e ss m us ∧ w' = w := by
  obtain ⟨n, hnn⟩ : ∃ n, n = ss.length := ⟨_, rfl⟩
  obtain ⟨o, hoo⟩ : ∃ o, o = us.length := ⟨_, rfl⟩
  rw [← hnn] at hn ⊢
  rw [← hoo] at ho ⊢
  have HN : Hid (n = ss.length) := hnn
  have HO : Hid (o = us.length) := hoo
  have HS : Hid (∀ j, (ss.getD j ByteArray.empty).size ≤ 9223372036854775807) := hs
  have HT : Hid (∀ j, (us.getD j ByteArray.empty).size ≤ 9223372036854775807) := ht
  have HC := hide hc
  have HU := hide hu
  clear hnn hs hc hoo ht hu
  by_cases hb : n ≤ 1048576
  · go_enter Try.func12, Try.ntmps12
    go_wp2
    go_loop [7, 8] (fun t i => ∃ (k : Nat) (z : Nat), k ≤ n ∧ z ≤ 1048576 ∧ i = .int .i64 k ∧ t = .int .i64 z ∧ Hid (Short ss k)) (fun _ i => n - (intOf i).toNat)
    case atStart => exact ⟨0, n, Nat.zero_le _, hb, rfl, rfl, hide (fun s h => by cases h)⟩
    case round =>
      obtain ⟨k, z, hk, hz, rfl, rfl, hsh⟩ := hrel
      by_cases hlt : k < n
      · obtain ⟨b, off, rfl, _, hcx⟩ := HC.out.at (k := k) (by rw [← HN.out]; exact hlt)
        have hsx := HS.out k
        have HSU := hide (fun h => Short.succ (ss := ss) (k := k) (by rw [← HN.out]; exact hlt) hsh.out h)
        obtain ⟨s, hs'⟩ : ∃ s, s = ss.getD k ByteArray.empty := ⟨_, rfl⟩
        rw [← hs'] at hcx hsx HSU
        clear hs'
        by_cases h1 : s.size ≤ 1048576
        · by_cases h2 : z + s.size ≤ 1048576
          · go_wp2
            go_round
            case rel => exact ⟨k + 1, z + s.size, by omega, h2, by go_num, by go_num, hide (HSU.out h1)⟩
            case measure => simp [intOf]; omega
          · go_wp2
            go_ret
            exact ⟨.no rfl, rfl⟩
        · go_wp2
          go_ret
          exact ⟨.no rfl, rfl⟩
      · obtain rfl : k = n := by omega
        have hall : Hid (∀ s ∈ ss, s.size ≤ 1048576) := hide (fun s h => hsh.out s (by rw [HN.out, List.take_length]; exact h))
        clear hsh
        by_cases h3 : m ≤ 1048576
        · by_cases h4 : z + m ≤ 1048576
          · by_cases h5 : o ≤ 1048576
            · by_cases h6 : z + m + o ≤ 1048576
              · go_wp2
                go_loop [7, 9] (fun t i => ∃ (j : Nat) (y : Nat), j ≤ o ∧ y ≤ 1048576 ∧ i = .int .i64 j ∧ t = .int .i64 y ∧ Hid (Short us j)) (fun _ i => o - (intOf i).toNat)
                case atStart => exact ⟨0, z + m + o, Nat.zero_le _, h6, rfl, by go_num, hide (fun s h => by cases h)⟩
                case round =>
                  obtain ⟨j, y, hj, hy, rfl, rfl, hsh⟩ := hrel
                  by_cases hjt : j < o
                  · obtain ⟨b, off, rfl, _, hcx⟩ := HU.out.at (k := j) (by rw [← HO.out]; exact hjt)
                    have hsx := HT.out j
                    have HSU := hide (fun h => Short.succ (ss := us) (k := j) (by rw [← HO.out]; exact hjt) hsh.out h)
                    obtain ⟨s, hs'⟩ : ∃ s, s = us.getD j ByteArray.empty := ⟨_, rfl⟩
                    rw [← hs'] at hcx hsx HSU
                    clear hs'
                    by_cases h1 : s.size ≤ 1048576
                    · by_cases h2 : y + s.size ≤ 1048576
                      · go_wp2
                        go_round
                        case rel => exact ⟨j + 1, y + s.size, by omega, h2, by go_num, by go_num, hide (HSU.out h1)⟩
                        case measure => simp [intOf]; omega
                      · go_wp2
                        go_ret
                        exact ⟨.no rfl, rfl⟩
                    · go_wp2
                      go_ret
                      exact ⟨.no rfl, rfl⟩
                  · obtain rfl : j = o := by omega
                    have hall2 : Hid (∀ s ∈ us, s.size ≤ 1048576) := hide (fun s h => hsh.out s (by rw [HO.out, List.take_length]; exact h))
                    go_wp2
                    go_ret
                    exact ⟨⟨true, rfl, fun _ => ⟨⟨by rw [← HN.out]; exact hb, hall.out⟩, h3, by rw [← HO.out]; exact h5, hall2.out⟩⟩, rfl⟩
              · go_wp2
                go_ret
                exact ⟨.no rfl, rfl⟩
            · go_wp2
              go_ret
              exact ⟨.no rfl, rfl⟩
          · go_wp2
            go_ret
            exact ⟨.no rfl, rfl⟩
        · go_wp2
          go_ret
          exact ⟨.no rfl, rfl⟩
  · go_enter Try.func12, Try.ntmps12
    go_wp2
    go_ret
    exact ⟨.no rfl, rfl⟩

/-- A look-up whose answer is known. -/
theorem wpList_lookup_known (w : World) {ops : Array Oper} {rest : List Oper} {o : Oper} {a : Act} {Q : Exit → Act → World → Prop} (hg : o.guard = none) (m x : Operand) (hop : o.op = Op.lookup 30 m x true)
    (b n : Nat) (D : DataW Unit) (hm : a.eval m = .map (some b)) (hown : Own w b n D) (key : Value) (kl : Lit) (hx : a.eval x = key) (hkey : keyOf Try.prog 9 key = some kl) (c : Int) (hb : Bool)
    (hat : D.atKey kl (.lit (.int .i64 0)) = .lit (.int .i64 c)) (hh : has D kl = hb) (hK : wpList Try.prog ops Q rest (a.put o.dst (.tuple #[.int .i64 c, .bool hb])) w) : wpList Try.prog ops Q (o :: rest) a w :=
  wpList_lookup_own_ok_int w hg m x 30 hop 9 3 .i64 law9 Try.underlying30 Try.underlying3 (zero3 _) b n D hm hown key kl hx hkey (fun c' hat' _ => by
    obtain rfl : c' = c := by
      have := hat'.symm.trans hat
      simpa using this
    rw [hh]
    exact hK)

theorem fst_stay {ss : List ByteArray} {v : ByteArray} {k : Nat} (h : fst ss v k < k) : ∀ z, k ≤ z → z ≤ ss.length → fst ss v z = fst ss v k := by
  intro z hz hl
  induction z with
  | zero => omega
  | succ z ih =>
    rcases Nat.lt_or_eq_of_le hz with h1 | h1
    · have := ih (by omega) (by omega)
      rw [fst_keep (by omega) (by omega), this]
    · rw [h1]
/-- The first place of the j-th string. -/
theorem fst_self {ss : List ByteArray} {j z : Nat} (hj : j < z) (hz : z ≤ ss.length) :
    (fst ss (ss.getD j ByteArray.empty) j < j ∧ fst ss (ss.getD j ByteArray.empty) z < j) ∨ (¬ fst ss (ss.getD j ByteArray.empty) j < j ∧ fst ss (ss.getD j ByteArray.empty) z = j) := by
  by_cases h : fst ss (ss.getD j ByteArray.empty) j < j
  · exact .inl ⟨h, by rw [fst_stay h z (by omega) hz]; exact h⟩
  · have e := fst_hit (k := j) (by omega) h rfl
    exact .inr ⟨h, by rw [fst_stay (k := j + 1) (by omega) z (by omega) hz, e]⟩

/-- How many strings among the first k stand there for the first time. -/
def cnt (ss : List ByteArray) : Nat → Nat
  | 0 => 0
  | k + 1 => cnt ss k + (if fst ss (ss.getD k ByteArray.empty) k < k then 0 else 1)
theorem cnt_le (ss : List ByteArray) : ∀ k, cnt ss k ≤ k
  | 0 => Nat.le_refl _
  | k + 1 => by
    have := cnt_le ss k
    unfold cnt
    split <;> omega
theorem cnt_old {ss : List ByteArray} {k : Nat} (h : fst ss (ss.getD k ByteArray.empty) k < k) : cnt ss (k + 1) = cnt ss k := by
  show cnt ss k + _ = _
  rw [if_pos h]; rfl
theorem cnt_new {ss : List ByteArray} {k : Nat} (h : ¬ fst ss (ss.getD k ByteArray.empty) k < k) : cnt ss (k + 1) = cnt ss k + 1 := by
  show cnt ss k + _ = _
  rw [if_neg h]

end Go.Proofs.Qxb6600213a
