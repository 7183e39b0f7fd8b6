/-
  wireB1ParseVote (function 7) and the law (function 3).
-/
import Derived.Test.Qxb6600155aDoorVG
namespace Go.Proofs.Qxb6600155aDoor
open Go.RowKit

theorem toList_lit (l : Array UInt8) : (ByteArray.mk l).toList = l.toList := ByteArray.toList_eq _

set_option maxHeartbeats 400000 in
theorem vote_one (i : Nat) (h0 : 3 ≤ i) (hi : i < 10) (w : World) :
    Calls Tryd.prog 7 #[.string ⟨#[86, 111, 116, 101, 40, dg i, 41]⟩] w fun e w' => e = .returned (.tuple #[.int .u8 i, .bool true]) ∧ SameMem w' w := by
  have hd := digit_bd hi
  have HC := hide (parse_one (dg i) hd.1 hd.2 w)
  rw [dg_toNat hi, show (((48 + i : Nat) : Int) - 48) = (i : Int) from by omega] at HC
  have n1 : ((ByteArray.mk #[86, 111, 116, 101, 40, dg i, 41]).toList == [110, 111, 110, 101]) = false := by rw [toList_lit]; simp
  have n2 : ((ByteArray.mk #[86, 111, 116, 101, 40, dg i, 41]).toList == [112, 114, 101, 112, 97, 114, 101, 100]) = false := by rw [toList_lit]; simp
  have n3 : ((ByteArray.mk #[86, 111, 116, 101, 40, dg i, 41]).toList == [97, 98, 111, 114, 116, 101, 100]) = false := by rw [toList_lit]; simp
  clear hd
  go_enter Tryd.func7, Tryd.ntmps7
  go_wp2_with fail
  refine (unhide HC).mono ?_
  rintro e w' ⟨rfl, hm⟩
  go_wp2
  go_ret2
  exact ⟨rfl, hm⟩

set_option maxHeartbeats 400000 in
theorem vote_two (i : Nat) (h0 : 10 ≤ i) (hi : i < 100) (w : World) :
    Calls Tryd.prog 7 #[.string ⟨#[86, 111, 116, 101, 40, dg (i / 10), dg (i % 10), 41]⟩] w fun e w' => e = .returned (.tuple #[.int .u8 i, .bool true]) ∧ SameMem w' w := by
  have e0 := dg_toNat (show i / 10 < 10 by omega)
  have e1 := dg_toNat (show i % 10 < 10 by omega)
  have HC := hide (parse_two (dg (i / 10)) (dg (i % 10)) (by omega) (by omega) (by omega) (by omega) w)
  rw [e0, e1, show (((48 + i / 10 : Nat) : Int) - 48) * 10 + (((48 + i % 10 : Nat) : Int) - 48) = (i : Int) from by omega] at HC
  clear e0 e1
  have n1 : ((ByteArray.mk #[86, 111, 116, 101, 40, dg (i / 10), dg (i % 10), 41]).toList == [110, 111, 110, 101]) = false := by rw [toList_lit]; simp
  have n2 : ((ByteArray.mk #[86, 111, 116, 101, 40, dg (i / 10), dg (i % 10), 41]).toList == [112, 114, 101, 112, 97, 114, 101, 100]) = false := by rw [toList_lit]; simp
  have n3 : ((ByteArray.mk #[86, 111, 116, 101, 40, dg (i / 10), dg (i % 10), 41]).toList == [97, 98, 111, 114, 116, 101, 100]) = false := by rw [toList_lit]; simp
  go_enter Tryd.func7, Tryd.ntmps7
  go_wp2_with fail
  refine (unhide HC).mono ?_
  rintro e w' ⟨rfl, hm⟩
  go_wp2
  go_ret2
  exact ⟨rfl, hm⟩

set_option maxHeartbeats 400000 in
theorem vote_three (i : Nat) (h0 : 100 ≤ i) (hi : i < 256) (w : World) :
    Calls Tryd.prog 7 #[.string ⟨#[86, 111, 116, 101, 40, dg (i / 100), dg (i / 10 % 10), dg (i % 10), 41]⟩] w fun e w' => e = .returned (.tuple #[.int .u8 i, .bool true]) ∧ SameMem w' w := by
  have e0 := dg_toNat (show i / 100 < 10 by omega)
  have e1 := dg_toNat (show i / 10 % 10 < 10 by omega)
  have e2 := dg_toNat (show i % 10 < 10 by omega)
  have HC := hide (parse_three (dg (i / 100)) (dg (i / 10 % 10)) (dg (i % 10)) (by omega) (by omega) (by omega) (by omega) (by omega) (by omega) (by omega) w)
  rw [e0, e1, e2, show ((((48 + i / 100 : Nat) : Int) - 48) * 10 + (((48 + i / 10 % 10 : Nat) : Int) - 48)) * 10 + (((48 + i % 10 : Nat) : Int) - 48) = (i : Int) from by omega] at HC
  clear e0 e1 e2
  have n1 : ((ByteArray.mk #[86, 111, 116, 101, 40, dg (i / 100), dg (i / 10 % 10), dg (i % 10), 41]).toList == [110, 111, 110, 101]) = false := by rw [toList_lit]; simp
  have n2 : ((ByteArray.mk #[86, 111, 116, 101, 40, dg (i / 100), dg (i / 10 % 10), dg (i % 10), 41]).toList == [112, 114, 101, 112, 97, 114, 101, 100]) = false := by rw [toList_lit]; simp
  have n3 : ((ByteArray.mk #[86, 111, 116, 101, 40, dg (i / 100), dg (i / 10 % 10), dg (i % 10), 41]).toList == [97, 98, 111, 114, 116, 101, 100]) = false := by rw [toList_lit]; simp
  go_enter Tryd.func7, Tryd.ntmps7
  go_wp2_with fail
  refine (unhide HC).mono ?_
  rintro e w' ⟨rfl, hm⟩
  go_wp2
  go_ret2
  exact ⟨rfl, hm⟩

set_option maxHeartbeats 400000 in
theorem law_names (i : Nat) (hi : i < 3) (w : World) :
    Calls Tryd.prog 3 #[.int .u8 i] w fun e w' => e = .returned (.bool true) ∧ Below w.heap.size w w' := by
  obtain rfl | rfl | rfl : i = 0 ∨ i = 1 ∨ i = 2 := by omega
  all_goals
    go_enter Tryd.func3, Tryd.ntmps3
    go_wp2
    go_ret
    exact ⟨rfl, Below.refl _ _⟩

set_option maxHeartbeats 400000 in
theorem law_one (i : Nat) (h0 : 3 ≤ i) (hi : i < 10) (w : World) :
    Calls Tryd.prog 3 #[.int .u8 i] w fun e w' => e = .returned (.bool true) ∧ Below w.heap.size w w' := by
  go_enter Tryd.func3, Tryd.ntmps3
  go_wp2_with fail
  refine (string_one i h0 hi w).mono ?_
  rintro e w' ⟨rfl, hw⟩
  obtain rfl := hw.symm
  clear hw
  go_wp2_with fail
  refine (vote_one i h0 hi w).mono ?_
  rintro e w' ⟨rfl, hm⟩
  go_wp2
  go_ret
  exact ⟨by simp, hm.below _⟩

set_option maxHeartbeats 400000 in
theorem law_two (i : Nat) (h0 : 10 ≤ i) (hi : i < 100) (w : World) :
    Calls Tryd.prog 3 #[.int .u8 i] w fun e w' => e = .returned (.bool true) ∧ Below w.heap.size w w' := by
  go_enter Tryd.func3, Tryd.ntmps3
  go_wp2_with fail
  refine (string_two i h0 hi w).mono ?_
  rintro e w' ⟨rfl, hw⟩
  obtain rfl := hw.symm
  clear hw
  go_wp2_with fail
  refine (vote_two i h0 hi w).mono ?_
  rintro e w' ⟨rfl, hm⟩
  go_wp2
  go_ret
  exact ⟨by simp, hm.below _⟩

set_option maxHeartbeats 400000 in
theorem law_three (i : Nat) (h0 : 100 ≤ i) (hi : i < 256) (w : World) (hc : w.cell? ⟨0, 2, none⟩ = some (.int .u64 100)) (hsz : 0 < w.heap.size) :
    Calls Tryd.prog 3 #[.int .u8 i] w fun e w' => e = .returned (.bool true) ∧ Below w.heap.size w w' := by
  go_enter Tryd.func3, Tryd.ntmps3
  go_wp2_with fail
  refine (string_three i h0 hi w hc hsz).mono ?_
  rintro e w1 ⟨rfl, hb⟩
  go_wp2_with fail
  refine (vote_three i h0 hi w1).mono ?_
  rintro e w' ⟨rfl, hm⟩
  go_wp2
  go_ret
  exact ⟨by simp, hb.trans (hm.below _)⟩

/-- Every Vote's text reads back to that Vote. -/
theorem law_any (i : Nat) (hi : i < 256) (w : World) (hc : w.cell? ⟨0, 2, none⟩ = some (.int .u64 100)) (hsz : 0 < w.heap.size) :
    Calls Tryd.prog 3 #[.int .u8 i] w fun e w' => e = .returned (.bool true) ∧ Below w.heap.size w w' := by
  by_cases h1 : i < 3
  · exact law_names i h1 w
  · by_cases h2 : i < 10
    · exact law_one i (by omega) h2 w
    · by_cases h3 : i < 100
      · exact law_two i (by omega) h3 w
      · exact law_three i (by omega) hi w hc hsz

end Go.Proofs.Qxb6600155aDoor
