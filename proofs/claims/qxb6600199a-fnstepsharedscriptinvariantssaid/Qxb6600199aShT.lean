/-
  FnStepSharedScriptInvariants (9): the walk.
-/
import Derived.Test.Qxb6600199aShQ
import Derived.Test.Qxb6600199aShS
import Derived.WalkLawsBesides
import Derived.Deep.RegionHeld3
namespace Go.Proofs.Qxb6600199a
open Go.RowKit

/-- What a step may do to a row of shares under its latest token. -/
structure Out5 (h : ByteArray) (l : Nat) (ok : Bool) (h' : ByteArray) (L' : Nat) (S' : List Sh) : Prop where
  row : IsRow h' S'
  le : ∀ s ∈ S', num s.2 ≤ L'
  up : l ≤ L'
  lt : L' < 18446744073709551616
  size : h'.size = h.size ∨ h'.size = h.size + 12 ∨ h'.size + 12 = h.size
  no : ok = false → h' = h ∧ L' = l

/-- ZZStepShared, as the script needs it. -/
def Step25 : Prop := ∀ (h : ByteArray) (S : List Sh) (l a : Nat) (nm kd : ByteArray) (an ac re sh : Bool) (f : Nat) (w : World), IsRow h S → (∀ s ∈ S, num s.2 ≤ l) → l < 18446744073709551616 → f < 18446744073709551616 → h.size + 12 ≤ 2097152 → nm.size = 4 → OpAt w a nm kd an ac re sh f →
  Calls Try.prog 25 #[.string h, .int .u64 l, .int .u32 0, .bool false, .pointer (some ⟨a, 0, none⟩)] w fun e w' => (∃ ok h' L' S', StepFive e ok h' (L' : Nat) 0 false ∧ Out5 h l ok h' L' S') ∧ Below w.heap.size w w'

theorem neq48 (w : World) (a : Option Addr) (n c n' c' : Nat) : (binOp .neq 48 (.slice a n c) (.slice none n' c')).run Try.prog w = .ok (.bool (!a.isNone)) w := by
  have e : ∀ d : Nat, (Op.equalIn (d + 1) 48 (.slice a n c) (.slice none n' c')).run Try.prog w = .ok a.isNone w := fun d => by
    cases a <;> simp [Op.equalIn, run_underlying Try.underlying48]
  simp only [binOp]
  simp [Op.equal, Op.maxDepth, e 9999]

def kdOf (p : Bool) : ByteArray := if p = true then ⟨#[114, 101, 108, 101, 97, 115, 101]⟩ else ⟨#[97, 99, 113, 117, 105, 114, 101]⟩

/-- A step's own block. -/
structure StAt (w : World) (a : Nat) (s : Nat) (p an ac re sh : Bool) (f : Nat) : Prop where
  lt : a < w.heap.size
  c0 : w.cell? ⟨a, 0, none⟩ = some (.int .u8 s)
  c1 : w.cell? ⟨a, 1, none⟩ = some (.bool p)
  c2 : w.cell? ⟨a, 2, none⟩ = some (.bool an)
  c3 : w.cell? ⟨a, 3, none⟩ = some (.bool ac)
  c4 : w.cell? ⟨a, 4, none⟩ = some (.bool re)
  c5 : w.cell? ⟨a, 5, none⟩ = some (.bool sh)
  c6 : w.cell? ⟨a, 6, none⟩ = some (.int .u64 f)

theorem StAt.keep {w w' : World} {B a s f : Nat} {p an ac re sh : Bool} (h : StAt w a s p an ac re sh f) (hb : Below B w w') (ha : a < B) : StAt w' a s p an ac re sh f :=
  ⟨Nat.lt_of_lt_of_le h.lt hb.size, (hb.cell (p := ⟨a, 0, none⟩) ha).trans h.c0, (hb.cell (p := ⟨a, 1, none⟩) ha).trans h.c1, (hb.cell (p := ⟨a, 2, none⟩) ha).trans h.c2, (hb.cell (p := ⟨a, 3, none⟩) ha).trans h.c3, (hb.cell (p := ⟨a, 4, none⟩) ha).trans h.c4, (hb.cell (p := ⟨a, 5, none⟩) ha).trans h.c5,
    (hb.cell (p := ⟨a, 6, none⟩) ha).trans h.c6⟩
theorem StAt.drewk {w w' : World} {a s f : Nat} {p an ac re sh : Bool} (h : StAt w a s p an ac re sh f) (hb : Below w.drew.heap.size w.drew w') : StAt w' a s p an ac re sh f ∧ Below w.heap.size w w' :=
  have h0 : Below w.heap.size w w' := ((Below.refl _ _).drew).trans hb
  ⟨h.keep h0 h.lt, h0⟩
abbrev Z43 : Obj := .cells #[.int .i64 0, .string ⟨#[]⟩, .string ⟨#[]⟩, .string ⟨#[]⟩, .int .i64 0, .int .i64 0, .int .i64 0, .bool false, .bool false, .bool false, .bool false, .int .u64 0, .string ⟨#[]⟩] 43
/-- The operation's block, new and empty. -/
structure New43 (w : World) (a : Nat) : Prop where
  lt : a < w.heap.size
  c0 : w.cell? ⟨a, 0, none⟩ = some (.int .i64 0)
  c1 : w.cell? ⟨a, 1, none⟩ = some (.string ⟨#[]⟩)
  c2 : w.cell? ⟨a, 2, none⟩ = some (.string ⟨#[]⟩)
  c3 : w.cell? ⟨a, 3, none⟩ = some (.string ⟨#[]⟩)
  c4 : w.cell? ⟨a, 4, none⟩ = some (.int .i64 0)
  c5 : w.cell? ⟨a, 5, none⟩ = some (.int .i64 0)
  c6 : w.cell? ⟨a, 6, none⟩ = some (.int .i64 0)
  c7 : w.cell? ⟨a, 7, none⟩ = some (.bool false)
  c8 : w.cell? ⟨a, 8, none⟩ = some (.bool false)
  c9 : w.cell? ⟨a, 9, none⟩ = some (.bool false)
  c10 : w.cell? ⟨a, 10, none⟩ = some (.bool false)
  c11 : w.cell? ⟨a, 11, none⟩ = some (.int .u64 0)
  c12 : w.cell? ⟨a, 12, none⟩ = some (.string ⟨#[]⟩)
  f0 : w.frozen? ⟨a, 0, none⟩ = false
  f1 : w.frozen? ⟨a, 1, none⟩ = false
  f2 : w.frozen? ⟨a, 2, none⟩ = false
  f3 : w.frozen? ⟨a, 3, none⟩ = false
  f4 : w.frozen? ⟨a, 4, none⟩ = false
  f5 : w.frozen? ⟨a, 5, none⟩ = false
  f6 : w.frozen? ⟨a, 6, none⟩ = false
  f7 : w.frozen? ⟨a, 7, none⟩ = false
  f8 : w.frozen? ⟨a, 8, none⟩ = false
  f9 : w.frozen? ⟨a, 9, none⟩ = false
  f10 : w.frozen? ⟨a, 10, none⟩ = false
  f11 : w.frozen? ⟨a, 11, none⟩ = false
  f12 : w.frozen? ⟨a, 12, none⟩ = false
theorem new43 (w : World) : New43 (w.alloc Z43) w.heap.size := by
  constructor <;> simp
theorem New43.keep {w w' : World} {B a : Nat} (h : New43 w a) (hb : Below B w w') (ha : a < B) : New43 w' a :=
  ⟨Nat.lt_of_lt_of_le h.lt hb.size, (hb.cell (p := ⟨a, 0, none⟩) ha).trans h.c0, (hb.cell (p := ⟨a, 1, none⟩) ha).trans h.c1, (hb.cell (p := ⟨a, 2, none⟩) ha).trans h.c2, (hb.cell (p := ⟨a, 3, none⟩) ha).trans h.c3, (hb.cell (p := ⟨a, 4, none⟩) ha).trans h.c4, (hb.cell (p := ⟨a, 5, none⟩) ha).trans h.c5,
    (hb.cell (p := ⟨a, 6, none⟩) ha).trans h.c6, (hb.cell (p := ⟨a, 7, none⟩) ha).trans h.c7, (hb.cell (p := ⟨a, 8, none⟩) ha).trans h.c8, (hb.cell (p := ⟨a, 9, none⟩) ha).trans h.c9, (hb.cell (p := ⟨a, 10, none⟩) ha).trans h.c10, (hb.cell (p := ⟨a, 11, none⟩) ha).trans h.c11, (hb.cell (p := ⟨a, 12, none⟩) ha).trans h.c12,
    (hb.frozen (p := ⟨a, 0, none⟩) ha).trans h.f0, (hb.frozen (p := ⟨a, 1, none⟩) ha).trans h.f1, (hb.frozen (p := ⟨a, 2, none⟩) ha).trans h.f2, (hb.frozen (p := ⟨a, 3, none⟩) ha).trans h.f3, (hb.frozen (p := ⟨a, 4, none⟩) ha).trans h.f4, (hb.frozen (p := ⟨a, 5, none⟩) ha).trans h.f5, (hb.frozen (p := ⟨a, 6, none⟩) ha).trans h.f6,
    (hb.frozen (p := ⟨a, 7, none⟩) ha).trans h.f7, (hb.frozen (p := ⟨a, 8, none⟩) ha).trans h.f8, (hb.frozen (p := ⟨a, 9, none⟩) ha).trans h.f9, (hb.frozen (p := ⟨a, 10, none⟩) ha).trans h.f10, (hb.frozen (p := ⟨a, 11, none⟩) ha).trans h.f11, (hb.frozen (p := ⟨a, 12, none⟩) ha).trans h.f12⟩
theorem cell_set_same {w : World} {a i : Nat} {u : Value} (v : Value) (h : w.cell? ⟨a, i, none⟩ = some u) : (w.setCell ⟨a, i, none⟩ v).cell? ⟨a, i, none⟩ = some v := by
  first | exact World.cell?_setCell_same _ _ _ h | (simp [h])
theorem cell_set_ne {w : World} {a i j : Nat} (v : Value) (h : i ≠ j) : (w.setCell ⟨a, i, none⟩ v).cell? ⟨a, j, none⟩ = w.cell? ⟨a, j, none⟩ :=
  World.cell?_setCell_other _ _ _ _ (fun e => h (by injection e))
theorem set43 {w : World} {a : Nat} (h : New43 w a) (nm kd : ByteArray) (an ac re sh : Bool) (f : Int) :
    OpAt (((((((((((((w.setCell ⟨a, 0, none⟩ (.int .i64 0)).setCell ⟨a, 1, none⟩ (.string nm)).setCell ⟨a, 2, none⟩ (.string kd)).setCell ⟨a, 3, none⟩ (.string ⟨#[]⟩)).setCell ⟨a, 4, none⟩ (.int .i64 0)).setCell ⟨a, 5, none⟩ (.int .i64 0)).setCell ⟨a, 6, none⟩ (.int .i64 0)).setCell ⟨a, 7, none⟩ (.bool an)).setCell ⟨a, 8, none⟩ (.bool ac)).setCell
      ⟨a, 9, none⟩ (.bool re)).setCell ⟨a, 10, none⟩ (.bool sh)).setCell ⟨a, 11, none⟩ (.int .u64 f)).setCell ⟨a, 12, none⟩ (.string ⟨#[]⟩)) a nm kd an ac re sh f := by
  refine ⟨by simpa using h.lt, ?_, ?_, ?_, ?_, ?_, ?_, ?_⟩
  · iterate 11 rw [cell_set_ne _ (by decide)]
    exact cell_set_same (u := .string ⟨#[]⟩) _ (by rw [cell_set_ne _ (by decide)]; exact h.c1)
  · iterate 10 rw [cell_set_ne _ (by decide)]
    exact cell_set_same (u := .string ⟨#[]⟩) _ (by iterate 2 rw [cell_set_ne _ (by decide)]
                                                   exact h.c2)
  · iterate 5 rw [cell_set_ne _ (by decide)]
    exact cell_set_same (u := .bool false) _ (by iterate 7 rw [cell_set_ne _ (by decide)]
                                                 exact h.c7)
  · iterate 4 rw [cell_set_ne _ (by decide)]
    exact cell_set_same (u := .bool false) _ (by iterate 8 rw [cell_set_ne _ (by decide)]
                                                 exact h.c8)
  · iterate 3 rw [cell_set_ne _ (by decide)]
    exact cell_set_same (u := .bool false) _ (by iterate 9 rw [cell_set_ne _ (by decide)]
                                                 exact h.c9)
  · iterate 2 rw [cell_set_ne _ (by decide)]
    exact cell_set_same (u := .bool false) _ (by iterate 10 rw [cell_set_ne _ (by decide)]
                                                 exact h.c10)
  · rw [cell_set_ne _ (by decide)]
    exact cell_set_same (u := .int .u64 0) _ (by iterate 11 rw [cell_set_ne _ (by decide)]
                                                 exact h.c11)
theorem StAt.allock {w w' : World} {a s f : Nat} {p an ac re sh : Bool} (h : StAt w a s p an ac re sh f) (hb : Below (w.alloc Z43).drew.heap.size (w.alloc Z43).drew w') :
    StAt w' a s p an ac re sh f ∧ Below w.heap.size w w' ∧ New43 w' w.heap.size := by
  have h1 : Below (w.heap.size + 1) (w.alloc Z43) w' := by
    have e : (w.alloc Z43).drew.heap.size = w.heap.size + 1 := by simp
    rw [e] at hb
    exact ((Below.refl _ _).drew).trans hb
  have h0 : Below w.heap.size w w' := ((Below.refl _ _).alloc (Nat.le_refl _) _).trans (h1.mono (by omega))
  exact ⟨h.keep h0 h.lt, h0, (new43 w).keep h1 (by omega)⟩

set_option maxHeartbeats 8000000 in
set_option maxRecDepth 20000 in
theorem walk9 (g off c : Nat) (l : List St) (last : Nat) (w : World) (hr : Rows7 w g off l) (hn : l.length ≤ 32768) (hlast : last < 18446744073709551616) (hl : 0 < l.length)
    (hwf : Hid (∀ j, j < l.length → ∃ (s f : Nat) (p an ac re sh : Bool), s < 256 ∧ f < 18446744073709551616 ∧ l.getD j z7 = ((s : Int), p, an, ac, re, sh, (f : Int)))) (H25 : Hid Step25) :
    Calls Try.prog 9 #[.int .u64 last, .slice (some ⟨g, off, none⟩) l.length c] w fun e w' => e = .returned (.bool true) ∧ Below w.heap.size w w' := by
  obtain ⟨n, hnn⟩ : ∃ n, n = l.length := ⟨_, rfl⟩
  rw [← hnn] at hn hl ⊢
  have HN : Hid (n = l.length) := hnn
  clear hnn
  have q48 : ∀ (w : World) (a : Option Addr) (n c n' c' : Nat), (binOp .neq 48 (.slice a n c) (.slice none n' c')).run Try.prog w = .ok (.bool (!a.isNone)) w := neq48
  have hd1 : decide ((32768 : Int) < (n : Int)) = false := by simp; omega
  obtain ⟨i0, hi, hz0, hz1, hz2⟩ := info_parts Try.info51
  go_enter Try.func9, Try.ntmps9
  go_wp2_with fail
  refine (bytes27_yes _ _ _ _ _ (by omega)).mono ?_
  rintro e w' ⟨rfl, hw⟩
  obtain rfl := hw.symm
  clear hw
  go_wp2_with (at_make; refine wpList_make_full _ rfl _ _ 48 rfl w.heap.size 51 i0 (.agg #[.int .u8 0, .bool false, .bool false, .bool false, .bool false, .bool false, .int .u64 0]) 7 Try.underlying48 hi hz0 hz1 .i64 .i64 _ _ n rfl rfl rfl rfl (by rw [hz2]; omega) (by unfold maxLen; omega) (Nat.le_refl _) ?_; intro w1 hown1 hgrow1)
  have hb1 : Below w.heap.size w w1 := (Below.refl _ _).grown hgrow1 (Nat.le_refl _) (fun k hk => by cases hk)
  have ho1 : w1.ownsRow w.heap.size 51 7 (.slice (some ⟨w.heap.size, 0, none⟩) n n) n (half7 l n 0) := by
    rw [half7_zero, ← made7]
    exact hown1
  clear hown1 hgrow1
  go_loopw [6] (fun i wr => ∃ k : Nat, k ≤ n ∧ i = .int .i64 k ∧ wr.ownsRow w.heap.size 51 7 (.slice (some ⟨w.heap.size, 0, none⟩) n n) n (half7 l n k) ∧ Below w.heap.size w wr) (fun i _ => n - (intOf i).toNat)
  case atStart => exact ⟨0, Nat.zero_le _, rfl, ho1, hb1⟩
  case round =>
    obtain ⟨k, hk, rfl, hown, hnx⟩ := hrel
    by_cases hlt : k < n
    · have hln : n ≤ l.length := by rw [HN.out]; exact Nat.le_refl _
      obtain ⟨a, p, cc, d, e, f, gg, hget⟩ : ∃ a p cc d e f gg, l.getD k z7 = (a, p, cc, d, e, f, gg) := ⟨_, _, _, _, _, _, _, rfl⟩
      have hst := half7_step hlt hln a p cc d e f gg hget
      obtain ⟨d0, d1, d2, d3, d4, d5, d6⟩ := (hr.below hnx hr.1).seven (by rw [← HN.out]; exact hlt) hget
      have f0 := hown.frozenAt (k * 7)
      have f1 := hown.frozenAt (k * 7 + 1)
      have f2 := hown.frozenAt (k * 7 + 2)
      have f3 := hown.frozenAt (k * 7 + 3)
      have f4 := hown.frozenAt (k * 7 + 4)
      have f5 := hown.frozenAt (k * 7 + 5)
      have f6 := hown.frozenAt (k * 7 + 6)
      have e0 := hown.cellAt (k * 7) (by omega)
      have e1 := hown.cellAt (k * 7 + 1) (by omega)
      have e2 := hown.cellAt (k * 7 + 2) (by omega)
      have e3 := hown.cellAt (k * 7 + 3) (by omega)
      have e4 := hown.cellAt (k * 7 + 4) (by omega)
      have e5 := hown.cellAt (k * 7 + 5) (by omega)
      have e6 := hown.cellAt (k * 7 + 6) (by omega)
      rw [show k * 7 = k * 7 + 0 by omega, half7_at hlt hln 0 (by omega), Nat.add_zero] at e0
      rw [half7_at hlt hln 1 (by omega)] at e1
      rw [half7_at hlt hln 2 (by omega)] at e2
      rw [half7_at hlt hln 3 (by omega)] at e3
      rw [half7_at hlt hln 4 (by omega)] at e4
      rw [half7_at hlt hln 5 (by omega)] at e5
      rw [half7_at hlt hln 6 (by omega)] at e6
      simp only [cells7, z7, List.getElem?_cons_zero, List.getElem?_cons_succ] at e0 e1 e2 e3 e4 e5 e6
      have R0 := hown.stored (k * 7) (.int .u8 a)
      have R1 := R0.1.stored (k * 7 + 1) (.bool p)
      have R2 := R1.1.stored (k * 7 + 2) (.bool cc)
      have R3 := R2.1.stored (k * 7 + 3) (.bool d)
      have R4 := R3.1.stored (k * 7 + 4) (.bool e)
      have R5 := R4.1.stored (k * 7 + 5) (.bool f)
      have R6 := R5.1.stored (k * 7 + 6) (.int .u64 gg)
      rw [hst] at R6
      have b0 := hnx.grown R0.2 hnx.size (fun k hk => by cases hk; exact Nat.le_refl _)
      have b1 := b0.grown R1.2 b0.size (fun k hk => by cases hk; exact Nat.le_refl _)
      have b2 := b1.grown R2.2 b1.size (fun k hk => by cases hk; exact Nat.le_refl _)
      have b3 := b2.grown R3.2 b2.size (fun k hk => by cases hk; exact Nat.le_refl _)
      have b4 := b3.grown R4.2 b3.size (fun k hk => by cases hk; exact Nat.le_refl _)
      have b5 := b4.grown R5.2 b4.size (fun k hk => by cases hk; exact Nat.le_refl _)
      have hB := b5.grown R6.2 b5.size (fun k hk => by cases hk; exact Nat.le_refl _)
      have hO := R6.1
      clear R0 R1 R2 R3 R4 R5 R6 b0 b1 b2 b3 b4 b5 hown hst hln hget
      go_wp2
      go_roundw
      case rel => exact ⟨k + 1, by omega, by go_num, hO, hB⟩
      case measure => simp [intOf]; omega
    · obtain rfl : k = n := by omega
      have hf : half7 l k k = flat7 l := by rw [HN.out]; exact half7_full l
      rw [hf] at hown
      clear hf hlt hk
      have hrw : Rows7 wr w.heap.size 0 l := rows7_of_owns hown HN.out
      clear hown ho1 hb1
      go_wp2
      have hrb : Rows7 wr w.heap.size 0 l := hrw
      go_loopw [7, 8, 9, 10, 11] (fun s7 s8 s9 s10 s11 wq => ∃ (j : Nat) (S : List Sh) (h : ByteArray) (L : Nat), j ≤ k ∧ s7 = .string h ∧ s8 = .int .u64 L ∧ s9 = .int .u32 0 ∧ s10 = .bool false ∧ s11 = .int .i64 j ∧
        IsRow h S ∧ (∀ s ∈ S, num s.2 ≤ L) ∧ L < 18446744073709551616 ∧ h.size ≤ 12 * j ∧ Below wr.heap.size wr wq) (fun _ _ _ _ s11 _ => k - (intOf s11).toNat)
      case atStart => exact ⟨0, [], ⟨#[]⟩, last, Nat.zero_le _, rfl, rfl, rfl, rfl, rfl, isRow_nil rfl, by simp, hlast, Nat.le_refl _, Below.refl _ _⟩
      case round =>
        obtain ⟨j, S, h, L, hj, rfl, rfl, rfl, rfl, rfl, hrow, hle, hL, hsz, hnq⟩ := hrel
        have HROW := hide hrow
        have HLE := hide hle
        have HSZ := hide hsz
        clear hrow hle hsz
        by_cases hlt : j < k
        · obtain ⟨s, f, p, an, ac, re, sh, hs, hf, hget⟩ := hwf.out j (by rw [← HN.out]; exact hlt)
          obtain ⟨d0, d1, d2, d3, d4, d5, d6⟩ := (hrb.below hnq hrb.1).seven (by rw [← HN.out]; exact hlt) hget
          rw [Nat.zero_add] at d0 d1 d2 d3 d4 d5 d6
          clear hget
          go_upto_if 59 with fail
          go_cut [13] from 48 to 142 (fun s13 wx => s13 = .string (kdOf p) ∧ StAt wx wr.heap.size s p an ac re sh f ∧ Below wr.heap.size wr wx)
          case first =>
            cases p with
            | true =>
              go_wp2
              go_meet
              exact ⟨rfl, ⟨by simp, by simp, by simp, by simp, by simp, by simp, by simp, by simp⟩, (Below.refl _ _).alloc (Nat.le_refl _) _⟩
            | false =>
              go_wp2
              go_meet
              exact ⟨rfl, ⟨by simp, by simp, by simp, by simp, by simp, by simp, by simp, by simp⟩, (Below.refl _ _).alloc (Nat.le_refl _) _⟩
          case rest =>
            clear d0 d1 d2 d3 d4 d5 d6
            obtain ⟨rfl, hst, hbw⟩ := hcut
            have HST := hide hst
            obtain ⟨hlt0, d0, d1, d2, d3, d4, d5, d6⟩ := hst
            generalize kdOf p = kd
            generalize hnm : (⟨#[115, 101, 115, UInt8.ofNat s]⟩ : ByteArray) = nm
            have HNM : Hid (nm.size = 4) := hide (by rw [← hnm]; rfl)
            have H28 : Hid (∀ w, Calls Try.prog 28 #[.int .u8 s] w fun e w' => e = .returned (.string nm) ∧ Below w.heap.size w w') := hide (fun w => by rw [← hnm]; exact sessionName_any s w hs)
            clear hnm
            have hne1 : wr.heap.size ≠ wc.heap.size := by omega
            have hne2 : wc.heap.size ≠ wr.heap.size := by omega
            go_upto_region 23 with fail
            go_cut [14] from 48 to 142 (fun s14 wx => ∃ a, s14 = .pointer (some ⟨a, 0, none⟩) ∧ OpAt wx a nm kd an ac re sh f ∧ Below wr.heap.size wr wx)
            case first =>
              go_region_held3 (fun w' => w'.cell? ⟨wr.heap.size, 0, none⟩ = some (.int .u8 s) ∧ w'.cell? ⟨wr.heap.size, 2, none⟩ = some (.bool an) ∧ w'.cell? ⟨wr.heap.size, 3, none⟩ = some (.bool ac) ∧ w'.cell? ⟨wr.heap.size, 4, none⟩ = some (.bool re) ∧ w'.cell? ⟨wr.heap.size, 5, none⟩ = some (.bool sh) ∧ w'.cell? ⟨wr.heap.size, 6, none⟩ = some (.int .u64 f)) (go_keep)
                ((go_at_call 28; refine (unhide H28 _).mono ?_; rintro e w1 ⟨rfl, hb⟩; first | (have hk := HST.out.allock hb; obtain ⟨⟨y, y0, y1, y2, y3, y4, y5, y6⟩, hbb, ⟨z, z0, z1, z2, z3, z4, z5, z6, z7, z8, z9, z10, z11, z12, v0, v1, v2, v3, v4, v5, v6, v7, v8, v9, v10, v11, v12⟩⟩ := hk) | (have hk := HST.out.drewk hb; obtain ⟨⟨y, y0, y1, y2, y3, y4, y5, y6⟩, hbb⟩ := hk)))
              · go_wp2
                go_meet
                exact ⟨w1.heap.size, rfl, ⟨by simp, by simp, by simp, by simp, by simp, by simp, by simp, by simp⟩, (hbw.trans (hbb.mono hbw.size)).alloc (Nat.le_trans hbw.size hbb.size) _⟩
              · go_wp2
                go_meet
                refine ⟨wc.heap.size, rfl, set43 ⟨z, z0, z1, z2, z3, z4, z5, z6, z7, z8, z9, z10, z11, z12, v0, v1, v2, v3, v4, v5, v6, v7, v8, v9, v10, v11, v12⟩ _ _ _ _ _ _ _, ?_⟩
                have q := hbw.trans (hbb.mono hbw.size)
                have qz := hbw.size
                exact ((((((((((((q.setCell qz _).setCell qz _).setCell qz _).setCell qz _).setCell qz _).setCell qz _).setCell qz _).setCell qz _).setCell qz _).setCell qz _).setCell qz _).setCell qz _).setCell qz _
            case rest =>
              clear d0 d1 d2 d3 d4 d5 d6 hlt0 HST hbw H28 hne1 hne2
              obtain ⟨a, rfl, hop, hbw⟩ := hcut
              have HC := hide (H25.out h S L a nm kd an ac re sh f wc HROW.out HLE.out hL hf (by have := HSZ.out; omega) HNM.out hop)
              clear hop HNM
              go_wp2_with fail
              refine (unhide HC).mono ?_
              rintro e w2 ⟨⟨ok, h', L', S', rfl, ho⟩, hb2⟩
              have HO := hide ho
              clear ho HC
              have hbw2 := hbw.trans (hb2.mono hbw.size)
              clear hb2 hbw
              go_upto_region 25 with fail
              go_cut [92] from 48 to 142 (fun s92 wx => s92 = .bool false ∧ Below wr.heap.size wr wx)
              case first =>
                by_cases hS' : S' = []
                · have he : h'.toList.isEmpty = true := by
                    rw [ByteArray.toList_eq, HO.out.row.eq, hS']; rfl
                  go_wp2
                  go_meet
                  exact ⟨rfl, hbw2⟩
                · have he : h'.toList.isEmpty = false := by
                    cases hh : h'.toList.isEmpty
                    · rfl
                    · have z := isEmpty_size hh
                      have := HO.out.row.size
                      have := List.length_pos_iff.2 hS'
                      omega
                  have HW := hide (fun w => well_any h' w HO.out.row.small)
                  have hne : Hid (∃ S, IsRow h' S ∧ S ≠ []) := hide ⟨S', HO.out.row, hS'⟩
                  go_wp2_with fail
                  refine (unhide HW _).mono ?_
                  rintro e w3 ⟨⟨b, rfl, hbi⟩, hd⟩
                  obtain rfl : b = true := hbi.2 hne.out
                  go_wp2
                  go_meet
                  exact ⟨rfl, hbw2.trans (hd.below _)⟩
              case rest =>
                obtain ⟨rfl, hbw3⟩ := hcut
                clear hbw2
                have hup : decide (L' < L) = false := by have := HO.out.up; simp; omega
                have HM := hide (fun w => maxToken_any h' S' w HO.out.row)
                have hmx : mx S' ≤ L' := mx_le HO.out.le
                generalize mx S' = M at HM hmx
                have hmd : decide (L' < M) = false := by simp; omega
                have hs1 : h'.size ≤ 2097152 := HO.out.row.small
                have hs2 : h.size ≤ 2097152 := HROW.out.small
                go_wp2_with fail
                refine (unhide HM _).mono ?_
                rintro e w4 ⟨rfl, hw4⟩
                obtain rfl := hw4.symm
                clear hw4 HM
                go_upto_region 30 with fail
                go_cut [116] from 48 to 142 (fun s116 wx => s116 = .bool false ∧ wx = wc)
                case first =>
                  rcases HO.out.size with hq | hq | hq
                  · have q0 : ((h'.size : Int) - (h.size : Int) != 0) = false := by simp; omega
                    go_wp2
                    go_meet
                    exact ⟨rfl, rfl⟩
                  · have q0 : ((h'.size : Int) - (h.size : Int) != 0) = true := by simp; omega
                    have q1 : ((h'.size : Int) - (h.size : Int) != 12) = false := by simp; omega
                    clear hq
                    go_wp2
                    go_meet
                    exact ⟨rfl, rfl⟩
                  · have q0 : ((h'.size : Int) - (h.size : Int) != 0) = true := by simp; omega
                    have q1 : ((h'.size : Int) - (h.size : Int) != 12) = true := by simp; omega
                    have q2 : ((h'.size : Int) - (h.size : Int) != -12) = false := by simp; omega
                    clear hq
                    go_wp2
                    go_meet
                    exact ⟨rfl, rfl⟩
                case rest =>
                  obtain ⟨rfl, rfl⟩ := hcut
                  go_upto_region 32 with fail
                  go_cut [138] from 48 to 142 (fun s138 wx => s138 = .bool false ∧ wx = wc)
                  case first =>
                    cases ok with
                    | true =>
                      go_wp2
                      go_meet
                      exact ⟨rfl, rfl⟩
                    | false =>
                      obtain ⟨e1, e2⟩ := HO.out.no rfl
                      subst e1 e2
                      go_wp2
                      go_meet
                      exact ⟨rfl, rfl⟩
                  case rest =>
                    obtain ⟨rfl, rfl⟩ := hcut
                    go_wp2
                    go_roundw
                    case rel => exact ⟨j + 1, S', h', L', by omega, rfl, rfl, rfl, rfl, by go_num, HO.out.row, HO.out.le, HO.out.lt, by have := HO.out.size; have := HSZ.out; omega, hnq.trans (hbw3.mono hnq.size)⟩
                    case measure => simp [intOf]; omega
        · obtain rfl : j = k := by omega
          go_wp2
          go_ret
          exact ⟨rfl, hnx.trans (hnq.mono hnx.size)⟩

end Go.Proofs.Qxb6600199a
