/-
  FnWithShareUndoneByWithoutShare (6): the walk.
-/
import Derived.Test.Qxb6600199aShK
namespace Go.Proofs.Qxb6600199a
open Go.RowKit

set_option maxHeartbeats 400000 in
theorem bytes20_yes (h nm : ByteArray) (l rf t : Int) (g : Bool) (w : World) (hs : h.size + nm.size ≤ 1048576) :
    Calls Try.prog 20 #[.string h, .int .u64 l, .int .u32 rf, .bool g, .string nm, .int .u64 t] w fun e w' => e = .returned (.bool true) ∧ w' = w := by
  go_enter Try.func20, Try.ntmps20
  go_wp2
  go_ret
  exact ⟨rfl, rfl⟩
set_option maxHeartbeats 400000 in
theorem bytes20_no (h nm : ByteArray) (l rf t : Int) (g : Bool) (w : World) (h1 : h.size ≤ 9223372036854775807) (h2 : nm.size ≤ 9223372036854775807) (hs : ¬ h.size + nm.size ≤ 1048576) :
    Calls Try.prog 20 #[.string h, .int .u64 l, .int .u32 rf, .bool g, .string nm, .int .u64 t] w fun e w' => e = .returned (.bool false) ∧ w' = w := by
  by_cases q1 : h.size ≤ 1048576
  · by_cases q2 : nm.size ≤ 1048576
    · go_enter Try.func20, Try.ntmps20
      go_wp2
      go_ret
      exact ⟨rfl, rfl⟩
    · go_enter Try.func20, Try.ntmps20
      go_wp2
      go_ret
      exact ⟨rfl, rfl⟩
  · go_enter Try.func20, Try.ntmps20
    go_wp2
    go_ret
    exact ⟨rfl, rfl⟩


theorem isEmpty_size {h : ByteArray} (h0 : h.toList.isEmpty = true) : h.size = 0 := by
  have e := List.isEmpty_iff.1 h0
  rw [ByteArray.toList_eq] at e
  have : h.data.toList.length = h.size := Array.length_toList
  rw [e] at this
  exact this.symm

theorem of_ins {h h' nm : ByteArray} {t : Nat} {S : List Sh} (l rf : Int) (g : Bool) (w : World) (hr' : Hid (IsRow h' (ins S nm.data.toList t))) (hn : Hid (nm.size = 4)) (hr : Hid (IsRow h S)) (ht : t < 18446744073709551616) :
    Calls Try.prog 21 #[.string h', .int .u64 l, .int .u32 rf, .bool g, .string nm] w fun e w' =>
      e = .returned (.tuple #[.int .u64 (t : Int), .bool true]) ∧ Below w.heap.size w w' := by
  have := doorOf h' l rf g nm _ w hr'.out hn.out
  unfold tokOr at this
  rw [ins_found hr.out.srt, ins_tok hr.out.srt _ _ ht] at this
  exact this

theorem without_ins {h h' nm : ByteArray} {t : Nat} {S : List Sh} (l rf : Int) (g : Bool) (w : World) (hr' : Hid (IsRow h' (ins S nm.data.toList t))) (hn : Hid (nm.size = 4)) (hr : Hid (IsRow h S)) :
    Calls Try.prog 22 #[.string h', .int .u64 l, .int .u32 rf, .bool g, .string nm] w fun e w' =>
      e = .returned (.tuple #[.string h, .int .u64 l, .int .u32 0, .bool false]) ∧ Below w.heap.size w w' := by
  refine (doorWithout h' l rf g nm _ w hr'.out hn.out (ins_found hr.out.srt _ _)).mono ?_
  rintro e w1 ⟨h2, hr2, rfl, hb⟩
  rw [rem_ins hr.out.srt] at hr2
  obtain rfl := isRow_ext hr2 hr.out
  exact ⟨rfl, hb⟩

theorem below4 {w w1 w2 w3 w4 : World} (a : Dr w w1) (b : Below w1.heap.size w1 w2) (c : Below w2.heap.size w2 w3) (d : Below w3.heap.size w3 w4) : Below w.heap.size w w4 := by
  have a' := a.below w.heap.size
  have b' := a'.trans (b.mono a'.size)
  have c' := b'.trans (c.mono b'.size)
  exact c'.trans (d.mono c'.size)

set_option maxHeartbeats 4000000 in
theorem undone_tail (h nm : ByteArray) (l rf : Int) (t : Nat) (g : Bool) (w : World) (ht : t < 18446744073709551616) (hs : h.size + nm.size ≤ 1048576) (hn : nm.size = 4) :
    Calls Try.prog 6 #[.string h, .int .u64 l, .int .u32 rf, .bool g, .string nm, .int .u64 t] w fun e w' => e = .returned (.bool true) ∧ Below w.heap.size w w' := by
  have HN := hide hn
  have hn4 : (((nm.size : Int)) != 4) = false := by simp; omega
  have hd1 : decide ((1048576 : Int) < (h.size : Int) + (nm.size : Int)) = false := by simp; omega
  have HW := hide (fun w => well_any h w (by omega))
  have H18 := hide (fun S w (hr : Hid (IsRow h S)) hf => doorWith h l rf g nm t S w hr.out hn ht hf (by omega))
  clear hn
  by_cases h0 : h.toList.isEmpty = true
  · have HR : Hid (IsRow h []) := hide (isRow_nil (isEmpty_size h0))
    go_enter Try.func6, Try.ntmps6
    go_wp2_with fail
    refine (bytes20_yes h nm l rf t g w hs).mono ?_
    rintro e w' ⟨rfl, hw⟩
    obtain rfl := hw.symm
    clear hw
    go_wp2_with fail
    refine (find_any h nm [] w HR.out HN.out).mono ?_
    rintro e w1 ⟨rfl, hb⟩
    go_wp2_with fail
    refine (unhide H18 [] _ HR rfl).mono ?_
    rintro e w2 ⟨h', hr', hs', rfl, hb2⟩
    have HR' := hide hr'
    clear hs' hr'
    go_wp2_with fail
    refine (of_ins t 0 false _ HR' HN HR ht).mono ?_
    rintro e w3 ⟨rfl, hb3⟩
    go_wp2_with fail
    refine (without_ins t 0 false _ HR' HN HR).mono ?_
    rintro e w4 ⟨rfl, hb4⟩
    go_wp2
    go_ret
    exact ⟨rfl, below4 hb hb2 hb3 hb4⟩
  · have h0' : h.toList.isEmpty = false := by simpa using h0
    clear h0
    go_enter Try.func6, Try.ntmps6
    go_wp2_with fail
    refine (bytes20_yes h nm l rf t g w hs).mono ?_
    rintro e w' ⟨rfl, hw⟩
    obtain rfl := hw.symm
    clear hw
    go_wp2_with fail
    refine (unhide HW _).mono ?_
    rintro e w1 ⟨⟨b, rfl, hb⟩, hd⟩
    have HB := hide hb
    clear hb
    cases b with
    | false => 
      go_wp2
      go_ret
      exact ⟨rfl, hd.below _⟩
    | true =>
      obtain ⟨S, hr, hS⟩ := HB.out.1 rfl
      have HR := hide hr
      clear hr hS HB
      have HF := hide (fun w => find_any h nm S w HR.out HN.out)
      generalize hf : foundAt S nm.data.toList = fb at HF
      have H1 := hide hf
      clear hf
      go_wp2_with fail
      refine (unhide HF _).mono ?_
      rintro e w1' ⟨rfl, hb'⟩
      have hb := hd.trans hb'
      clear hd hb' HF
      cases fb with
      | true =>
        go_wp2
        go_ret
        exact ⟨rfl, hb.below _⟩
      | false =>
        go_wp2_with fail
        refine (unhide H18 S _ HR H1.out).mono ?_
        rintro e w2 ⟨h', hr', hs', rfl, hb2⟩
        have HR' := hide hr'
        clear hs' hr'
        go_wp2_with fail
        refine (of_ins t 0 false _ HR' HN HR ht).mono ?_
        rintro e w3 ⟨rfl, hb3⟩
        go_wp2_with fail
        refine (without_ins t 0 false _ HR' HN HR).mono ?_
        rintro e w4 ⟨rfl, hb4⟩
        go_wp2
        go_ret
        exact ⟨rfl, below4 hb hb2 hb3 hb4⟩

end Go.Proofs.Qxb6600199a
