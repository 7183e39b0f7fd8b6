/-
  twice (function 12) and its door (function 9).
-/
import Derived.Test.Qxb6600155aTwC
import Derived.Maps.OwnSet
namespace Go.Proofs.Qxb6600155a
open Go.RowKit Go.Maps Go.WideMaps

theorem hide {p : Prop} (h : p) : Hid p := h
theorem unhide {p : Prop} (h : Hid p) : p := h

/-- What twice answers: no repeat, or the first string that an earlier one equals. -/
def TwEnd (e : Ending) (ss : List ByteArray) : Prop :=
  (e = .returned (.tuple #[.string ByteArray.empty, .bool false]) ∧ ss.Nodup) ∨
  ∃ k s, k < ss.length ∧ (ss.take k).Nodup ∧ s = ss.getD k ByteArray.empty ∧ s ∈ ss.take k ∧ e = .returned (.tuple #[.string s, .bool true])

theorem nodup_succ {ss : List ByteArray} {k : Nat} (h : k < ss.length) (hn : (ss.take k).Nodup) (hm : ss.getD k ByteArray.empty ∉ ss.take k) : (ss.take (k + 1)).Nodup := by
  have e : ss[k] = ss.getD k ByteArray.empty := by simp [List.getD, List.getElem?_eq_getElem h]
  rw [List.take_succ_eq_append_getElem h, e, List.nodup_append]
  refine ⟨hn, by simp, ?_⟩
  intro a ha b hb
  simp only [List.mem_singleton] at hb
  subst hb
  exact fun hab => hm (hab ▸ ha)

theorem strs_take {w : World} {b off : Nat} {ss : List ByteArray} (h : Strs w b off ss) (k : Nat) : Strs w b off (ss.take k) := by
  refine ⟨h.1, fun j hj => ?_⟩
  have hj' : j < k ∧ j < ss.length := by simpa [Nat.lt_min] using hj
  rw [h.2 j hj'.2]
  simp [List.getD, hj'.1]

set_option maxHeartbeats 400000 in
theorem twice_short (b off c : Nat) (ss : List ByteArray) (w : World) (hc : Strs w b off ss) (hn : ss.length ≤ 16) (hcap : ss.length ≤ c) :
    Calls Try.prog 12 #[.slice (some ⟨b, off, none⟩) ss.length c] w fun e w' => TwEnd e ss ∧ Below w.heap.size w w' := by
  obtain ⟨n, hnn⟩ : ∃ n, n = ss.length := ⟨_, rfl⟩
  rw [← hnn] at hn hcap ⊢
  have HN : Hid (n = ss.length) := hnn
  clear hnn
  have hd : decide ((n : Int) ≤ 16) = true := by simp; omega
  go_enter Try.func12, Try.ntmps12
  go_wp2
  go_loop [14] (fun i => ∃ k : Nat, k ≤ n ∧ i = .int .i64 k ∧ Hid (ss.take k).Nodup) (fun i => n - (intOf i).toNat)
  case atStart => exact ⟨0, Nat.zero_le _, rfl, by simp [Hid]⟩
  case round =>
    obtain ⟨k, hk, rfl, hnd⟩ := hrel
    by_cases hlt : k < n
    · have hkl : k < ss.length := by rw [← HN.out]; exact hlt
      have hcx := hc.2 k hkl
      obtain ⟨s, hs'⟩ : ∃ s, s = ss.getD k ByteArray.empty := ⟨_, rfl⟩
      have HS : Hid (s = ss.getD k ByteArray.empty) := hs'
      rw [← hs'] at hcx
      clear hs'
      have hkt : (ss.take k).length = k := by simp; omega
      have hct := strs_take hc k
      by_cases hm : s ∈ ss.take k
      · have HM : Hid (s ∈ ss.take k) := hm
        have C := contains_yes b off c (ss.take k) s w hct (by omega) HM
        rw [hkt] at C
        have HC := hide C
        clear C hm hkt hkl
        go_wp2_with fail
        refine (unhide HC).mono ?_
        rintro e w' ⟨rfl, rfl⟩
        go_wp2
        go_ret2
        exact ⟨.inr ⟨k, s, by rw [← HN.out]; exact hlt, hnd.out, HS.out, HM.out, rfl⟩, Below.refl _ _⟩
      · have HM : Hid (s ∉ ss.take k) := hm
        have C := contains_no b off c (ss.take k) s w hct (by omega) HM
        rw [hkt] at C
        have HC := hide C
        clear C hm hkt
        have R : Hid (ss.take (k + 1)).Nodup := nodup_succ hkl hnd.out (by rw [← HS.out]; exact HM.out)
        clear hkl
        go_wp2_with fail
        refine (unhide HC).mono ?_
        rintro e w' ⟨rfl, rfl⟩
        go_wp2
        go_round
        case rel => exact ⟨k + 1, by omega, by go_num, R⟩
        case measure => simp [intOf]; omega
    · have hkn : ss.take k = ss := List.take_of_length_le (by rw [← HN.out]; omega)
      rw [hkn] at hnd
      clear hkn
      go_wp2
      go_ret2
      exact ⟨.inl ⟨rfl, hnd.out⟩, Below.refl _ _⟩

/-! ### the long list: a map of strings to bools -/
section
variable {H : Type} {P : Program}

theorem plainElem_bool_inv {e : TypeId} (he : P.underlying e = some .bool) {v : Value} {z : DataW H × List MemPlace} (h : plainElem P e v = some z) : ∃ x, v = .bool x ∧ z = (.lit (.bool x), []) := by
  unfold plainElem at h
  rw [he] at h
  cases v <;> simp at h
  exact ⟨_, rfl, h.symm⟩

theorem lookup_bool {k t e : TypeId} {w : World} {b n : Nat} {D : DataW H} (h : w.ownsMap P k (plainElem P e) b n D) (K : Keyed P k) (ht : P.underlying t = some (.map k e)) (he : P.underlying e = some .bool) (hz : (zeroValue e).run P w = .ok (.bool false) w)
    {key : Value} {kl : Lit} (hkey : keyOf P k key = some kl) : ∃ c : Bool, (Instr.lookup t (.map (some b)) key false).run P w = .ok (.bool c) w ∧ D.atKey kl (.lit (.bool false)) = .lit (.bool c) := by
  obtain ⟨v, ps, hrun, hv⟩ := h.lookup K ht hz (plainElem_bool he false) hkey
  obtain ⟨c, rfl, hc⟩ := plainElem_bool_inv he hv
  simp only [Prod.mk.injEq] at hc
  exact ⟨c, hrun, hc.1⟩

theorem wpList_lookup_own_bool (w : World) {ops : Array Oper} {rest : List Oper} {o : Oper} {a : Act} {Q : Exit → Act → World → Prop}
    (hg : o.guard = none) (m x : Operand) (t : TypeId) (hop : o.op = Op.lookup t m x false)
    (k e : TypeId) (K : Keyed P k) (ht : P.underlying t = some (.map k e)) (he : P.underlying e = some .bool) (hz : (zeroValue e).run P w = .ok (.bool false) w) (b n : Nat) (D : DataW H)
    (hm : a.eval m = .map (some b)) (hown : w.ownsMap P k (plainElem P e) b n D) (key : Value) (kl : Lit) (hx : a.eval x = key) (hkey : keyOf P k key = some kl) (c : Bool) (hc : D.atKey kl (.lit (.bool false)) = .lit (.bool c))
    (hK : wpList P ops Q rest (a.put o.dst (.bool c)) w) :
    wpList P ops Q (o :: rest) a w := by
  refine wpList_plain hg fun K' hK' => ?_
  obtain ⟨c', hrun, hat⟩ := lookup_bool hown K ht he hz hkey
  obtain rfl : c' = c := by rw [hc] at hat; simpa using hat.symm
  unfold Oper.wp
  simp [execOp, hop, hm, hx, hrun, Result.andThen]
  exact hK' _ _ hK

theorem atKey_fold_not (u z : DataW H) (kl : Lit) : ∀ (acc : List Lit) (m : DataW H), kl ∉ acc → (acc.foldl (fun m x => m.put x u) m).atKey kl z = m.atKey kl z
  | [], m, _ => rfl
  | x :: r, m, h => by
    rw [List.foldl_cons, atKey_fold_not u z kl r _ (fun hm => h (List.mem_cons_of_mem _ hm))]
    exact atKey_put_other (fun e => h (by rw [e]; exact List.mem_cons_self ..)) u z
theorem atKey_fold_mem (u z : DataW H) (kl : Lit) : ∀ (acc : List Lit) (m : DataW H), IsMap m → (∀ x ∈ acc, WideAt.IsKeyLit x) → (kl ∈ acc ∨ m.atKey kl z = u) → (acc.foldl (fun m x => m.put x u) m).atKey kl z = u
  | [], m, _, _, h => by rcases h with h | h; · cases h
                         · exact h
  | x :: r, m, hm, hk, h => by
    rw [List.foldl_cons]
    refine atKey_fold_mem u z kl r _ (hm.put x u) (fun y hy => hk y (List.mem_cons_of_mem _ hy)) ?_
    by_cases h2 : kl = x
    · subst h2
      exact .inr (atKey_put_same hm (hk _ (List.mem_cons_self ..)) u z)
    · rcases h with h | h
      · rcases List.mem_cons.1 h with h | h
        · exact absurd h h2
        · exact .inl h
      · exact .inr ((atKey_put_other h2 u z).trans h)

end

def keyOfStr (s : ByteArray) : Lit := .string s.data.toList
/-- The map behind the first k strings. -/
def Sn (ss : List ByteArray) : DataW Unit := setOf (.lit (.bool true)) (ss.map keyOfStr)
theorem Sn_zero : Sn [] = .map [] := by simp [Sn, setOf]
theorem keyOfStr_inj {a b : ByteArray} (h : keyOfStr a = keyOfStr b) : a = b := by
  simp only [keyOfStr, Lit.string.injEq] at h
  exact ByteArray.ext (Array.toList_inj.1 h)
theorem Sn_snoc (ss : List ByteArray) (s : ByteArray) : Sn (ss ++ [s]) = (Sn ss).put (keyOfStr s) (.lit (.bool true)) := by
  unfold Sn
  rw [List.map_append, List.map_singleton, setOf_snoc]
theorem Sn_yes {ss : List ByteArray} {s : ByteArray} (h : s ∈ ss) : (Sn ss).atKey (keyOfStr s) (.lit (.bool false)) = .lit (.bool true) := by
  unfold Sn setOf
  exact atKey_fold_mem _ _ _ _ _ isMap_empty (fun y hy => by obtain ⟨_, _, rfl⟩ := List.mem_map.1 hy; trivial) (.inl (List.mem_map_of_mem h))
theorem Sn_no {ss : List ByteArray} {s : ByteArray} (h : s ∉ ss) : (Sn ss).atKey (keyOfStr s) (.lit (.bool false)) = .lit (.bool false) := by
  unfold Sn setOf
  rw [atKey_fold_not _ _ _ _ _ (fun hm => by obtain ⟨x, hx, e⟩ := List.mem_map.1 hm; rw [keyOfStr_inj e] at hx; exact h hx)]
  rfl

theorem law9 : Keyed Try.prog 9 := string_keyed Try.underlying9
theorem zero4 (w : World) : (zeroValue 4).run Try.prog w = .ok (.bool false) w := by kernel_rfl
theorem makeMap29 (k : Int) (w : World) : (Instr.makeMap 29 (some (.int .i64 k))).run Try.prog w = .ok (.map (some w.heap.size)) (w.alloc (.map #[] 0)) := by
  simp [Instr.makeMap, run_underlying Try.underlying29, asInt, asIntOf, Result.andThen]

set_option maxHeartbeats 400000 in
theorem twice_long (b off c : Nat) (ss : List ByteArray) (w : World) (hc : Strs w b off ss) (hn : 16 < ss.length) (hn2 : ss.length ≤ 65537) (hs : ∀ j, (ss.getD j ByteArray.empty).size ≤ maxLen) :
    Calls Try.prog 12 #[.slice (some ⟨b, off, none⟩) ss.length c] w fun e w' => TwEnd e ss ∧ Below w.heap.size w w' := by
  obtain ⟨n, hnn⟩ : ∃ n, n = ss.length := ⟨_, rfl⟩
  rw [← hnn] at hn hn2 ⊢
  have HN : Hid (n = ss.length) := hnn
  have HS0 := hide hs
  clear hnn hs
  have hmm := makeMap29
  have hd : decide ((n : Int) ≤ 16) = false := by simp; omega
  go_enter Try.func12, Try.ntmps12
  go_wp2
  go_loopw [31] (fun i wr => ∃ k : Nat, k ≤ n ∧ i = .int .i64 k ∧ Hid (ss.take k).Nodup ∧ wr.ownsMap Try.prog 9 (plainElem Try.prog 4) w.heap.size k (Sn (ss.take k)) ∧ Below w.heap.size w wr) (fun i _ => n - (intOf i).toNat)
  case atStart => exact ⟨0, Nat.zero_le _, rfl, by simp [Hid], by rw [List.take_zero, Sn_zero]; exact World.ownsMap_made _ _ _ _, (Below.refl _ _).alloc (Nat.le_refl _) _⟩
  case round =>
    obtain ⟨k, hk, rfl, hnd, hown, hnx⟩ := hrel
    by_cases hlt : k < n
    · have hkl : k < ss.length := by rw [← HN.out]; exact hlt
      have hcx := (hnx.cell (p := ⟨b, off + k, none⟩) hc.1).trans (hc.2 k hkl)
      have hkey : keyOf Try.prog 9 (.string (ss.getD k ByteArray.empty)) = some (keyOfStr (ss.getD k ByteArray.empty)) := keyOf_string_mk Try.underlying9 (HS0.out k)
      have e : ss[k] = ss.getD k ByteArray.empty := by simp [List.getD, List.getElem?_eq_getElem hkl]
      have hsn : Sn (ss.take (k + 1)) = (Sn (ss.take k)).put (keyOfStr (ss.getD k ByteArray.empty)) (.lit (.bool true)) := by
        rw [List.take_succ_eq_append_getElem hkl, e, Sn_snoc]
      have HX : Hid (ss.getD k ByteArray.empty ∉ ss.take k → (ss.take (k + 1)).Nodup) := fun h => nodup_succ hkl hnd.out h
      obtain ⟨s, hs'⟩ : ∃ s, s = ss.getD k ByteArray.empty := ⟨_, rfl⟩
      have HS : Hid (s = ss.getD k ByteArray.empty) := hs'
      rw [← hs'] at hcx hkey hsn HX
      clear hs' e hkl
      have HSN := hide hsn
      clear hsn
      by_cases hm : s ∈ ss.take k
      · have HM := hide hm
        have HAT' := hide (Sn_yes hm)
        clear hm
        go_wp2_with (at_lookup; refine wpList_lookup_own_bool _ rfl _ _ 29 rfl 9 4 law9 Try.underlying29 Try.underlying4 (zero4 _) w.heap.size k _ rfl hown _ _ rfl hkey true HAT'.out ?_)
        go_ret2
        exact ⟨.inr ⟨k, s, by rw [← HN.out]; exact hlt, hnd.out, HS.out, HM.out, rfl⟩, hnx⟩
      · have HM := hide hm
        have HAT' := hide (Sn_no hm)
        clear hm
        go_wp2_with (first
          | (at_lookup; refine wpList_lookup_own_bool _ rfl _ _ 29 rfl 9 4 law9 Try.underlying29 Try.underlying4 (zero4 _) w.heap.size k _ rfl hown _ _ rfl hkey false HAT'.out ?_)
          | (at_mapUpdate; refine wpList_mapUpdate_own _ rfl _ _ _ 29 rfl 9 4 law9 Try.underlying29 (plainElem (H := Unit) Try.prog 4) w.heap.size k _ rfl hown (by unfold maxLen; omega) _ _ _ rfl rfl hkey _ [] (plainElem_bool Try.underlying4 true) ?_; intro w1 hown1 hgrow1))
        go_roundw
        case rel => exact ⟨k + 1, by omega, by go_num, HX.out HM.out, HSN.out.symm ▸ hown1, hnx.grown hgrow1 hnx.size (fun j hj => by cases hj; exact Nat.le_refl _)⟩
        case measure => simp [intOf]; omega
    · have hkn : ss.take k = ss := List.take_of_length_le (by rw [← HN.out]; omega)
      rw [hkn] at hnd
      clear hkn
      go_wp2
      go_ret2
      exact ⟨.inl ⟨rfl, hnd.out⟩, hnx⟩

set_option maxHeartbeats 400000 in
theorem door_any (b off c : Nat) (ss : List ByteArray) (w : World) (hc : Strs w b off ss) (hn2 : ss.length ≤ 65537) (hcap : ss.length ≤ c) (hs : ∀ j, (ss.getD j ByteArray.empty).size ≤ maxLen) :
    Calls Try.prog 9 #[.slice (some ⟨b, off, none⟩) ss.length c] w fun e w' => TwEnd e ss ∧ Below w.heap.size w w' := by
  have C : Calls Try.prog 12 #[.slice (some ⟨b, off, none⟩) ss.length c] w fun e w' => TwEnd e ss ∧ Below w.heap.size w w' := by
    by_cases h : ss.length ≤ 16
    · exact twice_short b off c ss w hc h hcap
    · exact twice_long b off c ss w hc (by omega) hn2 hs
  have HC := hide C
  clear C hc hs
  go_enter Try.func9, Try.ntmps9
  go_wp2_with fail
  refine (unhide HC).mono ?_
  rintro e w' ⟨he, hb⟩
  rcases he with ⟨rfl, hnd⟩ | ⟨k, s, h1, h2, h3, h4, rfl⟩
  · have HD := hide hnd
    clear hnd
    go_wp2
    go_ret2
    exact ⟨.inl ⟨rfl, HD.out⟩, hb⟩
  · have H2 := hide h2
    have H3 := hide h3
    have H4 := hide h4
    clear h2 h3 h4
    go_wp2
    go_ret2
    exact ⟨.inr ⟨k, s, h1, H2.out, H3.out, H4.out, rfl⟩, hb⟩

end Go.Proofs.Qxb6600155a
