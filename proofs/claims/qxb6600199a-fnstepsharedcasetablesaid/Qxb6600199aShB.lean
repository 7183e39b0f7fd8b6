/-
  zzLess (15), sessionNumber (38), state.shared (37).
-/
import Derived.Test.Qxb6600199aSbB
import Derived.Test.Qxb6600199aShA
namespace Go.Proofs.Qxb6600199a
open Go.RowKit

/-- Draws alone. -/
def Dr (w w' : World) : Prop := ∃ n, w' = w.drewN n
theorem Dr.refl (w : World) : Dr w w := ⟨0, (World.drewN_zero w).symm⟩
theorem Dr.step {w a : World} (h : Dr w a) (n : Nat) : Dr w (a.drewN n) := by
  obtain ⟨m, rfl⟩ := h
  exact ⟨m + n, by simp⟩
theorem Dr.trans {a b c : World} (h : Dr a b) (k : Dr b c) : Dr a c := by
  obtain ⟨m, rfl⟩ := h
  obtain ⟨n, rfl⟩ := k
  exact ⟨m + n, by simp⟩
theorem Dr.below {w a : World} (h : Dr w a) (B : Nat) : Below B w a := by
  obtain ⟨m, rfl⟩ := h
  exact below_drewN (Below.refl _ _) m
theorem Dr.cell {w a : World} (h : Dr w a) (p : Addr) : a.cell? p = w.cell? p := by
  obtain ⟨m, rfl⟩ := h
  exact World.cell?_drewN _ _ _

theorem four_bytes {a : ByteArray} (h : a.size = 4) : ∃ a0 a1 a2 a3 : UInt8, a = ⟨#[a0, a1, a2, a3]⟩ := by
  obtain ⟨⟨l⟩⟩ := a
  match l, h with
  | [a0, a1, a2, a3], _ => exact ⟨a0, a1, a2, a3, rfl⟩

theorem or_add (A k y : Nat) (h : y < 2 ^ k) : (A * 2 ^ k) ||| y = A * 2 ^ k + y := by
  rw [← Nat.shiftLeft_eq, Nat.shiftLeft_add_eq_or_of_lt h]
theorem number_eq (a0 a1 a2 a3 : UInt8) :
    bits .or .u32 (bits .or .u32 (bits .or .u32 ((a0.toNat : Int) % 4294967296 * 16777216 % 4294967296) ((a1.toNat : Int) % 4294967296 * 65536 % 4294967296)) ((a2.toNat : Int) % 4294967296 * 256 % 4294967296)) ((a3.toNat : Int) % 4294967296) = ((num [a0, a1, a2, a3] : Nat) : Int) := by
  have h0 := a0.toNat_lt
  have h1 := a1.toNat_lt
  have h2 := a2.toNat_lt
  have h3 := a3.toNat_lt
  rw [show ((a0.toNat : Int) % 4294967296 * 16777216 % 4294967296) = ((a0.toNat * 2 ^ 24 : Nat) : Int) by omega, show ((a1.toNat : Int) % 4294967296 * 65536 % 4294967296) = ((a1.toNat * 65536 : Nat) : Int) by omega,
    show ((a2.toNat : Int) % 4294967296 * 256 % 4294967296) = ((a2.toNat * 256 : Nat) : Int) by omega, show ((a3.toNat : Int) % 4294967296) = ((a3.toNat : Nat) : Int) by omega]
  rw [u32_or_nat _ _ (by omega) (by omega), or_add a0.toNat 24 _ (by omega)]
  rw [show a0.toNat * 2 ^ 24 + a1.toNat * 65536 = (a0.toNat * 256 + a1.toNat) * 2 ^ 16 by omega]
  rw [u32_or_nat _ _ (by omega) (by omega), or_add _ 16 _ (by omega)]
  rw [show (a0.toNat * 256 + a1.toNat) * 2 ^ 16 + a2.toNat * 256 = ((a0.toNat * 256 + a1.toNat) * 256 + a2.toNat) * 2 ^ 8 by omega]
  rw [u32_or_nat _ _ (by omega) (by omega), or_add _ 8 _ (by omega)]
  simp only [num, List.foldl_cons, List.foldl_nil]
  omega

set_option maxHeartbeats 1000000 in
theorem sessionNumber_any (x : ByteArray) (w : World) (hx : x.size = 4) :
    Calls Try.prog 38 #[.string x] w fun e w' => e = .returned (.int .u32 (num x.data.toList)) ∧ Dr w w' := by
  obtain ⟨a0, a1, a2, a3, rfl⟩ := four_bytes hx
  have g0 : ∀ h, ((ByteArray.mk #[a0, a1, a2, a3])[0]'h) = a0 := fun _ => rfl
  have g1 : ∀ h, ((ByteArray.mk #[a0, a1, a2, a3])[1]'h) = a1 := fun _ => rfl
  have g2 : ∀ h, ((ByteArray.mk #[a0, a1, a2, a3])[2]'h) = a2 := fun _ => rfl
  have g3 : ∀ h, ((ByteArray.mk #[a0, a1, a2, a3])[3]'h) = a3 := fun _ => rfl
  clear hx
  go_enter Try.func38, Try.ntmps38
  go_wp2
  go_quiet (fail)
  go_wp2
  go_ret
  exact ⟨congrArg (fun z => Ending.returned (Value.int .u32 z)) (number_eq a0 a1 a2 a3), (Dr.refl _).step _⟩

theorem num4 (a0 a1 a2 a3 : UInt8) : num [a0, a1, a2, a3] = a0.toNat * 16777216 + a1.toNat * 65536 + a2.toNat * 256 + a3.toNat := by
  simp only [num, List.foldl_cons, List.foldl_nil]
  omega
theorem bne_t {a b : Nat} (h : a ≠ b) : ((a : Int) != (b : Int)) = true := by rw [bne_iff_ne]; omega
theorem bne_f {a b : Nat} (h : a = b) : ((a : Int) != (b : Int)) = false := by subst h; simp

theorem ret_bool {a b : Bool} (h : a = b) : Ending.returned (.bool a) = .returned (.bool b) := by rw [h]

set_option maxHeartbeats 2000000 in
theorem less_any (x y : ByteArray) (w : World) (hx : x.size = 4) (hy : y.size = 4) :
    Calls Try.prog 15 #[.string x, .string y] w fun e w' => e = .returned (.bool (decide (num x.data.toList < num y.data.toList))) ∧ Dr w w' := by
  obtain ⟨a0, a1, a2, a3, rfl⟩ := four_bytes hx
  obtain ⟨b0, b1, b2, b3, rfl⟩ := four_bytes hy
  clear hx hy
  have ga0 : ∀ h, ((ByteArray.mk #[a0, a1, a2, a3])[0]'h) = a0 := fun _ => rfl
  have ga1 : ∀ h, ((ByteArray.mk #[a0, a1, a2, a3])[1]'h) = a1 := fun _ => rfl
  have ga2 : ∀ h, ((ByteArray.mk #[a0, a1, a2, a3])[2]'h) = a2 := fun _ => rfl
  have ga3 : ∀ h, ((ByteArray.mk #[a0, a1, a2, a3])[3]'h) = a3 := fun _ => rfl
  have gb0 : ∀ h, ((ByteArray.mk #[b0, b1, b2, b3])[0]'h) = b0 := fun _ => rfl
  have gb1 : ∀ h, ((ByteArray.mk #[b0, b1, b2, b3])[1]'h) = b1 := fun _ => rfl
  have gb2 : ∀ h, ((ByteArray.mk #[b0, b1, b2, b3])[2]'h) = b2 := fun _ => rfl
  have gb3 : ∀ h, ((ByteArray.mk #[b0, b1, b2, b3])[3]'h) = b3 := fun _ => rfl
  have la0 := a0.toNat_lt
  have la1 := a1.toNat_lt
  have la2 := a2.toNat_lt
  have la3 := a3.toNat_lt
  have lb0 := b0.toNat_lt
  have lb1 := b1.toNat_lt
  have lb2 := b2.toNat_lt
  have lb3 := b3.toNat_lt
  have HNA := hide (num4 a0 a1 a2 a3)
  have HNB := hide (num4 b0 b1 b2 b3)
  by_cases h0 : a0.toNat = b0.toNat
  · have e0 := bne_f h0
    have H0 := hide h0
    clear h0
    by_cases h1 : a1.toNat = b1.toNat
    · have e1 := bne_f h1
      have H1 := hide h1
      clear h1
      by_cases h2 : a2.toNat = b2.toNat
      · have e2 := bne_f h2
        have H2 := hide h2
        clear h2
        by_cases h3 : a3.toNat = b3.toNat
        · have e3 := bne_f h3
          have H3 := hide h3
          clear h3
          go_enter Try.func15, Try.ntmps15
          go_wp2
          refine wp_loop_rounds 5 ?_
          rw [rounds_succ]
          go_wp2
          go_quiet (fail)
          go_wp2
          rw [rounds_succ]
          go_wp2
          go_quiet (fail)
          go_wp2
          rw [rounds_succ]
          go_wp2
          go_quiet (fail)
          go_wp2
          rw [rounds_succ]
          go_wp2
          go_quiet (fail)
          go_wp2
          rw [rounds_succ]
          go_wp2
          go_ret
          exact ⟨by have := HNA.out; have := HNB.out; have := H0.out; have := H1.out; have := H2.out; have := H3.out; exact ret_bool (by simp; omega), by repeat (first | exact Dr.refl _ | refine Dr.step ?_ _)⟩
        · have e3 := bne_t h3
          have H3 := hide h3
          clear h3
          go_enter Try.func15, Try.ntmps15
          go_wp2
          refine wp_loop_rounds 4 ?_
          rw [rounds_succ]
          go_wp2
          go_quiet (fail)
          go_wp2
          rw [rounds_succ]
          go_wp2
          go_quiet (fail)
          go_wp2
          rw [rounds_succ]
          go_wp2
          go_quiet (fail)
          go_wp2
          rw [rounds_succ]
          go_wp2
          go_quiet (fail)
          go_wp2
          go_quiet (fail)
          go_wp2
          go_ret
          exact ⟨by have := HNA.out; have := HNB.out; have := H0.out; have := H1.out; have := H2.out; have := H3.out; exact ret_bool (by simp; omega), by repeat (first | exact Dr.refl _ | refine Dr.step ?_ _)⟩
      · have e2 := bne_t h2
        have H2 := hide h2
        clear h2
        go_enter Try.func15, Try.ntmps15
        go_wp2
        refine wp_loop_rounds 3 ?_
        rw [rounds_succ]
        go_wp2
        go_quiet (fail)
        go_wp2
        rw [rounds_succ]
        go_wp2
        go_quiet (fail)
        go_wp2
        rw [rounds_succ]
        go_wp2
        go_quiet (fail)
        go_wp2
        go_quiet (fail)
        go_wp2
        go_ret
        exact ⟨by have := HNA.out; have := HNB.out; have := H0.out; have := H1.out; have := H2.out; exact ret_bool (by simp; omega), by repeat (first | exact Dr.refl _ | refine Dr.step ?_ _)⟩
    · have e1 := bne_t h1
      have H1 := hide h1
      clear h1
      go_enter Try.func15, Try.ntmps15
      go_wp2
      refine wp_loop_rounds 2 ?_
      rw [rounds_succ]
      go_wp2
      go_quiet (fail)
      go_wp2
      rw [rounds_succ]
      go_wp2
      go_quiet (fail)
      go_wp2
      go_quiet (fail)
      go_wp2
      go_ret
      exact ⟨by have := HNA.out; have := HNB.out; have := H0.out; have := H1.out; exact ret_bool (by simp; omega), by repeat (first | exact Dr.refl _ | refine Dr.step ?_ _)⟩
  · have e0 := bne_t h0
    have H0 := hide h0
    clear h0
    go_enter Try.func15, Try.ntmps15
    go_wp2
    refine wp_loop_rounds 1 ?_
    rw [rounds_succ]
    go_wp2
    go_quiet (fail)
    go_wp2
    go_quiet (fail)
    go_wp2
    go_ret
    exact ⟨by have := HNA.out; have := HNB.out; have := H0.out; exact ret_bool (by simp; omega), by repeat (first | exact Dr.refl _ | refine Dr.step ?_ _)⟩

end Go.Proofs.Qxb6600199a
