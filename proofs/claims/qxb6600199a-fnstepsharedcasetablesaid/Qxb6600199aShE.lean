/-
  state.shareOf (34) and its door (21).
-/
import Derived.Test.Qxb6600199aShD
namespace Go.Proofs.Qxb6600199a
open Go.RowKit

/-- A string turned to bytes: a new row that holds them. -/
theorem conv_bytes (x : ByteArray) (w : World) : ∃ cap w', (convert 9 59 (.string x)).run Try.prog w = .ok (.slice (some ⟨w.heap.size, 0, none⟩) x.size cap) w' ∧
    (∀ j, j < x.size → w'.cell? ⟨w.heap.size, j, none⟩ = some (.int .u8 ((x.data.toList.getD j 0).toNat : Int))) ∧ Below w.heap.size w w' ∧ w.heap.size < w'.heap.size := by
  refine ⟨_, _, run_bytes_of_string w 9 59 5 x Try.underlying9 Try.underlying59 Try.underlying5, ?_, ((Below.refl _ _).drew).alloc (Nat.le_refl _) _, by simp⟩
  intro j hj
  have hj' : j < x.data.size := hj
  have e : ∀ (C : Array Value) (fr : Nat × Nat), (w.drew.alloc (.cells C 5 fr)).cell? ⟨w.heap.size, j, none⟩ = C[j]? := fun C fr => by
    have : (w.drew.alloc (.cells C 5 fr)).heap[w.heap.size]? = some (.cells C 5 fr) := by
      show (w.heap.push (.cells C 5 fr))[w.heap.size]? = _
      simp
    unfold World.cell?
    rw [this]
    rfl
  rw [e]
  unfold bytesRow
  rw [Array.getElem?_append_left (by simpa using hj'), Array.getElem?_map, Array.getElem?_eq_getElem hj']
  simp [List.getD, Array.getElem?_eq_getElem hj']

set_option maxHeartbeats 400000 in
theorem shareOf_no (h : ByteArray) (l rf : Int) (g : Bool) (nm : ByteArray) (A : Int) (w : World)
    (HC : Hid (∀ w, Calls Try.prog 30 #[.agg #[.string h, .int .u64 l, .int .u32 rf, .bool g], .string nm] w fun e w' => e = .returned (.tuple #[.int .i64 A, .bool false]) ∧ Below w.heap.size w w')) :
    Calls Try.prog 34 #[.agg #[.string h, .int .u64 l, .int .u32 rf, .bool g], .string nm] w fun e w' => e = .returned (.tuple #[.int .u64 0, .bool false]) ∧ Below w.heap.size w w' := by
  go_enter Try.func34, Try.ntmps34
  go_wp2_with fail
  refine (unhide HC _).mono ?_
  rintro e w1 ⟨rfl, hb⟩
  go_wp2
  go_ret2
  exact ⟨rfl, ((Below.refl _ _).alloc (Nat.le_refl _) _).trans (hb.mono (by simp))⟩

theorem or_u64 (T b : Nat) (hT : T < 72057594037927936) (hb : b < 256) : bits .or .u64 ((T : Int) * 256) (b : Int) = ((T * 256 + b : Nat) : Int) := by
  rw [show ((T : Int) * 256) = ((T * 2 ^ 8 : Nat) : Int) by omega, u64_or_nat _ _ (by omega) (by omega), or_add T 8 b (by omega)]
theorem take_num (l : List UInt8) (k : Nat) (hk : k < l.length) : num (l.take (k + 1)) = num (l.take k) * 256 + (l.getD k 0).toNat := by
  rw [List.take_succ_eq_append_getElem hk, num_snoc]
  simp [List.getD, List.getElem?_eq_getElem hk]
theorem take_num_lt (l : List UInt8) (k : Nat) (hk : k < 8) : num (l.take k) < 72057594037927936 := by
  have h1 := num_lt (l.take k)
  have h2 : 256 ^ (l.take k).length ≤ 256 ^ 7 := Nat.pow_le_pow_right (by omega) (by simp; omega)
  have : (256 : Nat) ^ 7 = 72057594037927936 := rfl
  omega

set_option maxHeartbeats 1000000 in
theorem shareOf_yes (h : ByteArray) (l rf : Int) (g : Bool) (nm : ByteArray) (A : Nat) (x : ByteArray) (w : World) (hA : A + 12 ≤ h.size) (hsm : h.size ≤ 2097152) (hx : Hid (h.extract (A + 4) (A + 12) = x)) (hx8 : Hid (x.size = 8))
    (HC : Hid (∀ w, Calls Try.prog 30 #[.agg #[.string h, .int .u64 l, .int .u32 rf, .bool g], .string nm] w fun e w' => e = .returned (.tuple #[.int .i64 A, .bool true]) ∧ Below w.heap.size w w')) :
    Calls Try.prog 34 #[.agg #[.string h, .int .u64 l, .int .u32 rf, .bool g], .string nm] w fun e w' => e = .returned (.tuple #[.int .u64 (num x.data.toList), .bool true]) ∧ Below w.heap.size w w' := by
  go_enter Try.func34, Try.ntmps34
  go_wp2_with fail
  refine (unhide HC _).mono ?_
  rintro e w1 ⟨rfl, hb⟩
  have hB1 : Below w.heap.size w w1 := ((Below.refl _ _).alloc (Nat.le_refl _) _).trans (hb.mono (by simp))
  have hc1 : w1.cell? ⟨w.heap.size, 0, none⟩ = some (.string h) := (hb.cell (p := ⟨w.heap.size, 0, none⟩) (by simp)).trans (by simp)
  have hz1 : w.heap.size < w1.heap.size := by have := hb.size; simp at this; omega
  obtain ⟨cap, w2, hrun, hcells, hb2, hz2⟩ := conv_bytes x w1
  rw [hx8.out] at hrun hcells
  have HCELLS := hide hcells
  have hxx := hx.out
  clear hb hcells
  go_wp2
  go_loop [8, 28] (fun t i => ∃ k : Nat, k ≤ 8 ∧ i = .int .i64 k ∧ t = .int .u64 (num (x.data.toList.take k))) (fun _ i => 8 - (intOf i).toNat)
  case atStart => exact ⟨0, by omega, rfl, rfl⟩
  case round =>
    obtain ⟨k, hk, rfl, rfl⟩ := hrel
    have hl8 : x.data.toList.length = 8 := by rw [Array.length_toList]; exact hx8.out
    by_cases hlt : k < 8
    · have hcx := HCELLS.out k hlt
      have hT := take_num_lt x.data.toList k hlt
      have HT := hide (take_num x.data.toList k (by omega))
      have hb8 := (x.data.toList.getD k 0).toNat_lt
      generalize (x.data.toList.getD k 0).toNat = bk at hcx HT hb8
      generalize num (x.data.toList.take k) = T at hT HT ⊢
      clear hl8 hxx
      go_wp2
      go_round
      case rel => exact ⟨k + 1, by omega, by go_num, by rw [HT.out, ← or_u64 T bk hT (by omega)]⟩
      case measure => simp [intOf]; omega
    · have hk8 : k = 8 := by omega
      subst hk8
      have ht : x.data.toList.take 8 = x.data.toList := List.take_of_length_le (by omega)
      rw [ht]
      clear ht hxx hl8
      go_wp2
      go_ret2
      exact ⟨rfl, hB1.trans (hb2.mono (by omega))⟩

/-- The token that a row gives a name. -/
theorem tok_at {h : ByteArray} {S : List Sh} (r : IsRow h S) {nm : List UInt8} (hf : foundAt S nm = true) :
    12 * rk S nm + 12 ≤ h.size ∧ (h.extract (12 * rk S nm + 4) (12 * rk S nm + 12)).size = 8 ∧ num (h.extract (12 * rk S nm + 4) (12 * rk S nm + 12)).data.toList = tokAt S nm := by
  have hl := (lo_take S nm).2
  have hlt : rk S nm < S.length := by
    rcases Nat.lt_or_ge (rk S nm) S.length with h' | h'
    · exact h'
    · rw [List.drop_of_length_le h'] at hl
      unfold foundAt at hf
      rw [hl] at hf
      cases hf
  have e : (h.extract (12 * rk S nm + 4) (12 * rk S nm + 12)).data.toList = (S[rk S nm]).2 := by
    rw [ext_toList, r.eq, show 12 * rk S nm + 12 - (12 * rk S nm + 4) = 8 by omega]
    exact (enc_name r.wf _ hlt).2.1
  refine ⟨by rw [r.size]; omega, ?_, ?_⟩
  · show (h.extract (12 * rk S nm + 4) (12 * rk S nm + 12)).data.size = 8
    rw [← Array.length_toList, e, (r.wf _ (List.getElem_mem hlt)).2]
  · rw [e]
    unfold tokAt
    rw [hl, List.drop_eq_getElem_cons hlt]

/-- shareOf on a row of shares, free or not. -/
theorem shareOf_row (h : ByteArray) (l rf : Int) (g : Bool) (nm : ByteArray) (S : List Sh) (w : World) (hr : IsRow h S) (hn : nm.size = 4) :
    Calls Try.prog 34 #[.agg #[.string h, .int .u64 l, .int .u32 rf, .bool g], .string nm] w fun e w' =>
      e = .returned (.tuple #[.int .u64 (tokOr S nm.data.toList : Int), .bool (foundAt S nm.data.toList)]) ∧ Below w.heap.size w w' := by
  by_cases hS : S = []
  · subst hS
    have h0 : h.size = 0 := by rw [hr.size]; rfl
    exact shareOf_no h l rf g nm 0 w (fun w => shareAt_none h l rf g nm w (by omega))
  · have HC : Hid (∀ w, Calls Try.prog 30 #[.agg #[.string h, .int .u64 l, .int .u32 rf, .bool g], .string nm] w fun e w' =>
        e = .returned (.tuple #[.int .i64 ((12 * rk S nm.data.toList : Nat) : Int), .bool (foundAt S nm.data.toList)]) ∧ Below w.heap.size w w') := fun w => shareAt_any h l rf g nm S w hr hS hn
    cases hf : foundAt S nm.data.toList
    · rw [hf] at HC
      have e : tokOr S nm.data.toList = 0 := by unfold tokOr; rw [hf]; rfl
      rw [e]
      exact shareOf_no h l rf g nm _ w HC
    · rw [hf] at HC
      obtain ⟨t1, t2, t3⟩ := tok_at hr hf
      have := shareOf_yes h l rf g nm (12 * rk S nm.data.toList) _ w t1 hr.small rfl t2 HC
      have e : tokOr S nm.data.toList = tokAt S nm.data.toList := by unfold tokOr; rw [hf]; rfl
      rw [t3] at this
      rw [e]
      exact this
/-- .. and on a name that one session holds exclusive. -/
theorem shareOf_excl (h : ByteArray) (l rf : Int) (g : Bool) (nm : ByteArray) (w : World) (hh : h.size ≤ 4) :
    Calls Try.prog 34 #[.agg #[.string h, .int .u64 l, .int .u32 rf, .bool g], .string nm] w fun e w' => e = .returned (.tuple #[.int .u64 0, .bool false]) ∧ Below w.heap.size w w' :=
  shareOf_no h l rf g nm 0 w (fun w => shareAt_none h l rf g nm w hh)

end Go.Proofs.Qxb6600199a
