/-
  The equality of two readers as arrays.
-/
import Derived.Test.Qxb6600196aWoC
import Derived.ChangeKeysEq
namespace Go.Proofs.Qxb6600196a
open Go.RowKit

theorem Try.cells23 : Try.prog.cellsOf 23 = 1 := by kernel_rfl
theorem Try.info23 : (Try.prog.info? 23).map (fun i => (i.zero, i.size, i.bytes)) = some (some (.int .u64 0), 1, 8) := by kernel_rfl
theorem part23 (cs : Array Value) (o : Nat) (v : Value) (h : cs[o]? = some v) (w : World) : (part 23 cs o).run Try.prog w = .ok v w := by
  have hA : (isAgg 23).run Try.prog w = .ok false w := by kernel_rfl
  unfold part
  simp only [Sem.run_bind, hA, Result.andThen_ok, Bool.false_eq_true, if_false, h, Sem.run_pure]

theorem items3 (d : Nat) (p q r x y z : Int) (w : World) :
    (Op.eqItems (d + 1) 23 1 #[.int .u64 p, .int .u64 q, .int .u64 r] #[.int .u64 x, .int .u64 y, .int .u64 z] [0, 1, 2]).run Try.prog w = .ok (p == x && (q == y && r == z)) w := by
  simp only [Op.eqItems, Sem.run_bind, Nat.zero_mul, Nat.one_mul]
  rw [part23 _ 0 (.int .u64 p) rfl, Result.andThen_ok, part23 _ 0 (.int .u64 x) rfl, Result.andThen_ok, run_equalIn_int w d 23 .u64 .u64 p x Try.underlying23, Result.andThen_ok]
  cases h1 : (p == x)
  · simp
  · simp only [Bool.not_true, Bool.false_eq_true, if_false, Sem.run_bind, Bool.true_and]
    rw [part23 _ 1 (.int .u64 q) rfl, Result.andThen_ok, part23 _ 1 (.int .u64 y) rfl, Result.andThen_ok, run_equalIn_int w d 23 .u64 .u64 q y Try.underlying23, Result.andThen_ok]
    cases h2 : (q == y)
    · simp
    · simp only [Bool.not_true, Bool.false_eq_true, if_false, Sem.run_bind, Bool.true_and]
      rw [part23 _ (2 * 1) (.int .u64 r) rfl, Result.andThen_ok, part23 _ (2 * 1) (.int .u64 z) rfl, Result.andThen_ok, run_equalIn_int w d 23 .u64 .u64 r z Try.underlying23, Result.andThen_ok]
      cases h3 : (r == z) <;> simp

theorem eqIn24 (p q r x y z : Int) (w : World) : (Op.equalIn 10000 24 (.agg #[.int .u64 p, .int .u64 q, .int .u64 r]) (.agg #[.int .u64 x, .int .u64 y, .int .u64 z])).run Try.prog w = .ok (p == x && (q == y && r == z)) w := by
  obtain ⟨i, hi, _⟩ := info_parts Try.info23
  have h := run_equalIn_array (P := Try.prog) w 9999 #[.int .u64 p, .int .u64 q, .int .u64 r] #[.int .u64 x, .int .u64 y, .int .u64 z] Try.underlying24 hi
  rw [h, Try.cells23]
  exact items3 9998 p q r x y z w
theorem eqIn_yes (p q r x y z : Int) (h : ((p, q, r) : R3) = (x, y, z)) (w : World) : (Op.equalIn 10000 24 (.agg #[.int .u64 p, .int .u64 q, .int .u64 r]) (.agg #[.int .u64 x, .int .u64 y, .int .u64 z])).run Try.prog w = .ok true w := by
  rw [eqIn24]
  simp only [Prod.mk.injEq] at h
  simp [h.1, h.2.1, h.2.2]
theorem eqIn_no (p q r x y z : Int) (h : ((p, q, r) : R3) ≠ (x, y, z)) (w : World) : (Op.equalIn 10000 24 (.agg #[.int .u64 p, .int .u64 q, .int .u64 r]) (.agg #[.int .u64 x, .int .u64 y, .int .u64 z])).run Try.prog w = .ok false w := by
  rw [eqIn24]
  have : (p == x && (q == y && r == z)) = false := by
    rw [Bool.eq_false_iff]
    intro e
    simp only [Bool.and_eq_true, beq_iff_eq] at e
    exact h (by rw [e.1, e.2.1, e.2.2])
  rw [this]

end Go.Proofs.Qxb6600196a
