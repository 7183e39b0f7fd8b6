/-
  ZZStepShared over a row of shares: what the script needs; the walk's other ways.
-/
import Derived.Test.Qxb6600199aShT
namespace Go.Proofs.Qxb6600199a
open Go.RowKit

theorem rem_length {S : List Sh} {nm : List UInt8} (h : foundAt S nm = true) : (rem S nm).length + 1 = S.length := by
  have e := congrArg List.length (lo_hi S (num nm))
  unfold foundAt at h
  unfold rem
  cases hh : hi S (num nm) with
  | nil => rw [hh] at h; cases h
  | cons s r =>
    rw [hh] at e
    simp at e ⊢
    omega
theorem rem_sub {S : List Sh} {nm : List UInt8} {s : Sh} (h : s ∈ rem S nm) : s ∈ S := by
  have hsub : (rem S nm).Sublist S := by
    have := List.Sublist.append_left (List.tail_sublist (hi S (num nm))) (lo S (num nm))
    rwa [lo_hi] at this
  exact hsub.subset h
theorem ins_mem {S : List Sh} {nm : List UInt8} {t : Nat} {s : Sh} (h : s ∈ ins S nm t) : s = (nm, be8 t) ∨ s ∈ S := by
  unfold ins at h
  rcases List.mem_append.1 h with h | h
  · exact .inr (by rw [← lo_hi S (num nm)]; exact List.mem_append_left _ h)
  · rcases List.mem_cons.1 h with h | h
    · exact .inl h
    · exact .inr (by rw [← lo_hi S (num nm)]; exact List.mem_append_right _ h)
theorem encB_size {S : List Sh} (h : WF S) : (encB S).size = 12 * S.length := by
  show (enc S).toArray.size = _
  rw [List.size_toArray, enc_length h]

def Out5' (h : ByteArray) (l : Nat) (ok : Bool) (h' : ByteArray) (l' rf' : Int) (g' : Bool) : Prop := ∃ L' S', l' = ((L' : Nat) : Int) ∧ rf' = 0 ∧ g' = false ∧ Out5 h l ok h' L' S'

theorem out_same {h : ByteArray} {S : List Sh} {l : Nat} (ok : Bool) (hr : IsRow h S) (hle : ∀ s ∈ S, num s.2 ≤ l) (hl : l < 18446744073709551616) : Out5' h l ok h l 0 false :=
  ⟨l, S, rfl, rfl, rfl, hr, hle, Nat.le_refl _, hl, .inl rfl, fun _ => ⟨rfl, rfl⟩⟩

theorem step25 : Step25 := by
  intro h S l a nm kd an ac re sh f w hr hle hl hf hsm hn ho
  have key : Calls Try.prog 36 #[.agg #[.string h, .int .u64 l, .int .u32 0, .bool false], .pointer (some ⟨a, 0, none⟩)] w fun e w' => (∃ ok h' l' rf' g', StepRet e ok h' l' rf' g' ∧ Out5' h l ok h' l' rf' g') ∧ Below w.heap.size w w' := by
    cases hk : (kd.toList == [114, 101, 108, 101, 97, 115, 101]) with
    | true =>
      refine (row_release h l 0 false a nm kd an ac re sh f S w hr hn ho hk).mono ?_
      rintro e w' ⟨he, hb⟩
      refine ⟨?_, hb⟩
      split at he
      · rename_i hc
        have hfd : foundAt S nm.data.toList = true := by
          simp [own] at hc
          exact hc.2.1
        obtain ⟨g1, g2⟩ := rem_good hr.wf hr.srt nm.data.toList
        have hlen := rem_length hfd
        have hz := hr.size
        refine ⟨_, _, _, _, _, he, l, rem S nm.data.toList, rfl, rfl, rfl, isRow_encB g1 g2 (by omega), fun s hs => hle s (rem_sub hs), Nat.le_refl _, hl, .inr (.inr ?_), fun h => by cases h⟩
        rw [encB_size g1]; omega
      · exact ⟨_, _, _, _, _, he, out_same _ hr hle hl⟩
    | false =>
      refine (row_acquire h l 0 false a nm kd an ac re sh f S w hr hn hf hsm ho hk).mono ?_
      rintro e w' ⟨he, hb⟩
      refine ⟨?_, hb⟩
      split at he
      · rename_i hc
        have hc' : foundAt S nm.data.toList = false ∧ l < f := by
          simp [grt] at hc
          exact ⟨by simpa using hc.2.1.2, hc.2.2⟩
        have hn4 : nm.data.toList.length = 4 := by rw [Array.length_toList]; exact hn
        obtain ⟨g1, g2⟩ := ins_good hr.wf hr.srt hn4 hc'.1 f
        have hlen := ins_length S nm.data.toList f
        have hz := hr.size
        refine ⟨_, _, _, _, _, he, f, ins S nm.data.toList f, rfl, rfl, rfl, isRow_encB g1 g2 (by omega), fun s hs => ?_, by omega, hf, .inr (.inl ?_), fun h => by cases h⟩
        · rcases ins_mem hs with rfl | hs
          · exact Nat.le_of_eq (num_be8 f hf)
          · have := hle s hs; omega
        · rw [encB_size g1]; omega
      · exact ⟨_, _, _, _, _, he, out_same _ hr hle hl⟩
  refine (door25 h l 0 false a w _ (hide key)).mono ?_
  rintro e w' ⟨⟨ok, h', l', rf', g', he, L', S', rfl, rfl, rfl, ho⟩, hb⟩
  exact ⟨⟨ok, h', L', S', he, ho⟩, hb⟩

set_option maxHeartbeats 400000 in
theorem walk9_nil (last : Int) (w : World) :
    Calls Try.prog 9 #[.int .u64 last, .slice none 0 0] w fun e w' => e = .returned (.bool true) ∧ Below w.heap.size w w' := by
  have q48 := neq48
  go_enter Try.func9, Try.ntmps9
  go_wp2_with fail
  refine (bytes27_yes _ _ _ _ _ (by omega)).mono ?_
  rintro e w' ⟨rfl, hw⟩
  obtain rfl := hw.symm
  clear hw
  go_wp2
  refine wp_loop_rounds 1 ?_
  rw [rounds_succ]
  go_wp2
  go_ret
  exact ⟨rfl, Below.refl _ _⟩

set_option maxHeartbeats 400000 in
set_option maxRecDepth 20000 in
theorem walk9_none (a : Addr) (c : Nat) (last : Int) (w : World) :
    Calls Try.prog 9 #[.int .u64 last, .slice (some a) 0 c] w fun e w' => e = .returned (.bool true) ∧ Below w.heap.size w w' := by
  have q48 := neq48
  obtain ⟨i0, hi, hz0, hz1, hz2⟩ := info_parts Try.info51
  go_enter Try.func9, Try.ntmps9
  go_wp2_with fail
  refine (bytes27_yes _ _ _ _ _ (by omega)).mono ?_
  rintro e w' ⟨rfl, hw⟩
  obtain rfl := hw.symm
  clear hw
  go_wp2_with (at_make; refine wpList_make_full _ rfl _ _ 48 rfl w.heap.size 51 i0 (.agg #[.int .u8 0, .bool false, .bool false, .bool false, .bool false, .bool false, .int .u64 0]) 7 Try.underlying48 hi hz0 hz1 .i64 .i64 _ _ 0 rfl rfl rfl rfl (by rw [hz2]; omega) (by unfold maxLen; omega) (Nat.le_refl _) ?_; intro w1 hown1 hgrow1)
  refine wp_loop_rounds 1 ?_
  rw [rounds_succ]
  go_wp2
  refine wp_loop_rounds 1 ?_
  rw [rounds_succ]
  go_wp2
  go_ret
  exact ⟨rfl, (Below.refl _ _).grown hgrow1 (Nat.le_refl _) (fun k hk => by cases hk)⟩

set_option maxHeartbeats 400000 in
theorem walk9_long (a : Option Addr) (n c : Nat) (last : Int) (w : World) (h1 : n ≤ 1048576) (h2 : ¬ n ≤ 32768) :
    Calls Try.prog 9 #[.int .u64 last, .slice a n c] w fun e w' => e = .returned (.bool true) ∧ Below w.heap.size w w' := by
  have hd1 : decide ((32768 : Int) < (n : Int)) = true := by simp; omega
  go_enter Try.func9, Try.ntmps9
  go_wp2_with fail
  refine (bytes27_yes _ _ _ _ _ (by omega)).mono ?_
  rintro e w' ⟨rfl, hw⟩
  obtain rfl := hw.symm
  clear hw
  go_wp2
  go_ret
  exact ⟨rfl, Below.refl _ _⟩

set_option maxHeartbeats 400000 in
theorem walk9_vast (a : Option Addr) (n c : Nat) (last : Int) (w : World) (h1 : n ≤ 9223372036854775807) (h2 : ¬ n ≤ 1048576) :
    Calls Try.prog 9 #[.int .u64 last, .slice a n c] w fun e w' => e = .returned (.bool true) ∧ Below w.heap.size w w' := by
  have HC := hide (bytes27_no last a n c w h1 h2)
  go_enter Try.func9, Try.ntmps9
  go_wp2_with fail
  refine (unhide HC).mono ?_
  rintro e w' ⟨rfl, hw⟩
  obtain rfl := hw.symm
  clear hw
  go_wp2
  go_ret
  exact ⟨rfl, Below.refl _ _⟩

end Go.Proofs.Qxb6600199a
