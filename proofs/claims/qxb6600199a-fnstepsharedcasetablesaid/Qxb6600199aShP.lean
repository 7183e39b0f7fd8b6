/-
  zzSessionName (28), zzMaxToken (29), zzBytes (27).
-/
import Derived.Test.Qxb6600199aShL
namespace Go.Proofs.Qxb6600199a
open Go.RowKit

theorem run_name (b : Nat) (hb : b < 256) (a : Nat) (w : World) (h0 : w.cell? ⟨a, 0, none⟩ = some (.int .u8 115)) (h1 : w.cell? ⟨a, 1, none⟩ = some (.int .u8 101)) (h2 : w.cell? ⟨a, 2, none⟩ = some (.int .u8 115)) (h3 : w.cell? ⟨a, 3, none⟩ = some (.int .u8 b)) :
    (convert 59 9 (.slice (some ⟨a, 0, none⟩) 4 4)).run Try.prog w = .ok (.string ⟨#[115, 101, 115, UInt8.ofNat b]⟩) w := by
  have := run_convert_bytes_back (P := Try.prog) w 59 9 5 ⟨a, 0, none⟩ 4 [115, 101, 115, UInt8.ofNat b] Try.underlying59 Try.underlying5 Try.underlying9 (fun j hj => by
    have hj4 : j < 4 := hj
    obtain rfl | rfl | rfl | rfl : j = 0 ∨ j = 1 ∨ j = 2 ∨ j = 3 := by omega
    · exact h0
    · exact h1
    · exact h2
    · refine Eq.trans h3 ?_
      have : (UInt8.ofNat b).toNat = b := by rw [UInt8.toNat_ofNat']; omega
      show some (Value.int .u8 (b : Int)) = some (Value.int .u8 ((UInt8.ofNat b).toNat : Int))
      rw [this])
  exact this

set_option maxHeartbeats 1000000 in
theorem sessionName_any (b : Nat) (w : World) (hb : b < 256) :
    Calls Try.prog 28 #[.int .u8 b] w fun e w' => e = .returned (.string ⟨#[115, 101, 115, UInt8.ofNat b]⟩) ∧ Below w.heap.size w w' := by
  have hrun := fun ty => run_name b hb w.heap.size (w.alloc (.cells #[.int .u8 115, .int .u8 101, .int .u8 115, .int .u8 b] ty)) (by simp) (by simp) (by simp) (by simp)
  go_enter Try.func28, Try.ntmps28
  go_wp2
  go_ret
  exact ⟨rfl, (Below.refl _ _).alloc (Nat.le_refl _) _⟩

/-- The greatest token of a row. -/
def mx (S : List Sh) : Nat := S.foldl (fun m s => max m (num s.2)) 0
theorem foldl_max_mono (S : List Sh) : ∀ m, m ≤ S.foldl (fun m s => max m (num s.2)) m := by
  induction S with
  | nil => intro m; exact Nat.le_refl _
  | cons s S ih => intro m; exact Nat.le_trans (Nat.le_max_left _ _) (ih _)
theorem foldl_max_le (S : List Sh) (L : Nat) : ∀ m, m ≤ L → (∀ s ∈ S, num s.2 ≤ L) → S.foldl (fun m s => max m (num s.2)) m ≤ L := by
  induction S with
  | nil => intro m hm _; exact hm
  | cons s S ih => intro m hm h; exact ih _ (Nat.max_le.2 ⟨hm, h s (List.mem_cons_self ..)⟩) (fun x hx => h x (List.mem_cons_of_mem _ hx))
theorem mx_le {S : List Sh} {L : Nat} (h : ∀ s ∈ S, num s.2 ≤ L) : mx S ≤ L := foldl_max_le S L 0 (Nat.zero_le _) h
theorem mx_succ {S : List Sh} {k : Nat} (hk : k < S.length) : mx (S.take (k + 1)) = max (mx (S.take k)) (num (S[k]).2) := by
  unfold mx
  rw [List.take_succ_eq_append_getElem hk, List.foldl_append]
  rfl

theorem num_lt8 {l : List UInt8} (h : l.length = 8) : num l < 18446744073709551616 := by
  have := num_lt l
  rw [h] at this
  exact this

/-- The token of the i-th share, cut out of the row. -/
theorem IsRow.tokc {h : ByteArray} {S : List Sh} (r : IsRow h S) {i : Nat} (hi : i < S.length) : num (h.extract (i * 12 + 4) (i * 12 + 12)).data.toList = num (S[i]).2 := by
  rw [ext_toList, r.eq, show i * 12 + 12 - (i * 12 + 4) = 8 by omega, Nat.mul_comm i 12, (enc_name r.wf i hi).2.1]

set_option maxHeartbeats 2000000 in
theorem maxToken_row (h : ByteArray) (S : List Sh) (w : World) (hr : IsRow h S) (hS : S ≠ []) :
    Calls Try.prog 29 #[.string h] w fun e w' => e = .returned (.int .u64 (mx S : Int)) ∧ w' = w := by
  have hsz := hr.size
  have hsm := hr.small
  have hpos : 0 < S.length := List.length_pos_iff.2 hS
  obtain ⟨m, hm⟩ : ∃ m, m = S.length := ⟨_, rfl⟩
  have HM := hide hm
  rw [← hm] at hpos hsz
  clear hm
  have HSZ := hide hsz
  have hle : 12 * m ≤ h.size := by omega
  have hle2 : h.size ≤ 12 * m := by omega
  have hd : decide ((h.size : Int) ≤ 4) = false := by simp; omega
  have HR := hide hr
  have HT : Hid (∀ k, k < m → ∀ w, Calls Try.prog 31 #[.string h, .int .i64 (12 * (k : Int))] w fun e w' => e = .returned (.int .u64 (num (S.getD k default).2 : Int)) ∧ w' = w) := hide (by
    intro k hk w
    have hk' : k < S.length := by rw [← HM.out]; exact hk
    have := tokenOf_any h (k * 12) w (by omega) hsm
    rw [hr.tokc hk'] at this
    rw [show (12 * (k : Int)) = ((k * 12 : Nat) : Int) from by omega]
    simpa [List.getD, List.getElem?_eq_getElem hk'] using this)
  have HX : Hid (∀ k, k < m → mx (S.take (k + 1)) = max (mx (S.take k)) (num (S.getD k default).2)) := hide (by
    intro k hk
    have hk' : k < S.length := by rw [← HM.out]; exact hk
    rw [mx_succ hk']
    simp [List.getD, List.getElem?_eq_getElem hk'])
  have HE : Hid (mx (S.take m) = mx S) := hide (by rw [HM.out, List.take_length])
  have HB : Hid (∀ k, mx (S.take k) < 18446744073709551616) := hide (fun k => by
    have : mx (S.take k) ≤ 18446744073709551615 := mx_le (fun s hs => by
      have := num_lt8 (hr.wf s (List.mem_of_mem_take hs)).2
      omega)
    omega)
  clear hr hS hsz
  go_enter Try.func29, Try.ntmps29
  go_wp2
  go_loop [3, 4] (fun t i => ∃ k : Nat, k ≤ m ∧ i = .int .i64 (12 * (k : Int)) ∧ t = .int .u64 (mx (S.take k) : Int)) (fun _ i => 12 * m - (intOf i).toNat)
  case atStart => exact ⟨0, by omega, rfl, rfl⟩
  case round =>
    obtain ⟨k, hk, rfl, rfl⟩ := hrel
    by_cases hlt : k < m
    · have hc := hide (fun w => HT.out k hlt w)
      have hx := hide (HX.out k hlt)
      generalize num (S.getD k default).2 = tk at hc hx
      have hT : mx (S.take k) < 18446744073709551616 := HB.out k
      generalize mx (S.take k) = M at hx hT ⊢
      go_wp2_with fail
      refine (unhide hc _).mono ?_
      rintro e w1 ⟨rfl, hw⟩
      obtain rfl := hw.symm
      clear hw
      by_cases hlt2 : M < tk
      · have hd2 : decide ((M : Int) < (tk : Int)) = true := by simp; omega
        go_wp2
        go_round
        case rel => exact ⟨k + 1, by omega, by go_num, by rw [hx.out, Nat.max_eq_right (by omega)]⟩
        case measure => simp [intOf]; omega
      · have hd2 : decide ((M : Int) < (tk : Int)) = false := by simp; omega
        go_wp2
        go_round
        case rel => exact ⟨k + 1, by omega, by go_num, by rw [hx.out, Nat.max_eq_left (by omega)]⟩
        case measure => simp [intOf]; omega
    · obtain rfl : k = m := by omega
      rw [HE.out]
      go_wp2
      go_ret
      exact ⟨rfl, rfl⟩

theorem maxToken_nil (h : ByteArray) (w : World) (hh : h.size ≤ 4) :
    Calls Try.prog 29 #[.string h] w fun e w' => e = .returned (.int .u64 0) ∧ w' = w := by
  have hd : decide ((h.size : Int) ≤ 4) = true := by simp; omega
  go_enter Try.func29, Try.ntmps29
  go_wp2
  go_ret
  exact ⟨rfl, rfl⟩

theorem maxToken_any (h : ByteArray) (S : List Sh) (w : World) (hr : IsRow h S) :
    Calls Try.prog 29 #[.string h] w fun e w' => e = .returned (.int .u64 (mx S : Int)) ∧ w' = w := by
  by_cases hS : S = []
  · subst hS
    have h0 : h.size = 0 := by rw [hr.size]; rfl
    exact maxToken_nil h w (by omega)
  · exact maxToken_row h S w hr hS

set_option maxHeartbeats 400000 in
theorem bytes27_yes (l : Int) (p : Option Addr) (n c : Nat) (w : World) (hs : n ≤ 1048576) :
    Calls Try.prog 27 #[.int .u64 l, .slice p n c] w fun e w' => e = .returned (.bool true) ∧ w' = w := by
  go_enter Try.func27, Try.ntmps27
  go_wp2
  go_ret
  exact ⟨rfl, rfl⟩
set_option maxHeartbeats 400000 in
theorem bytes27_no (l : Int) (p : Option Addr) (n c : Nat) (w : World) (h1 : n ≤ 9223372036854775807) (hs : ¬ n ≤ 1048576) :
    Calls Try.prog 27 #[.int .u64 l, .slice p n c] w fun e w' => e = .returned (.bool false) ∧ w' = w := by
  go_enter Try.func27, Try.ntmps27
  go_wp2
  go_ret
  exact ⟨rfl, rfl⟩

end Go.Proofs.Qxb6600199a
