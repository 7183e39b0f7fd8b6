/-
  strings.Clone (15, 16), add (14) and its door (10).
-/
import Derived.Test.Qxb6600213aApB
import Derived.Lib.BufferWrite
import Derived.Lib.UnsafeStr
import Derived.Laws.MakeOwn
namespace Go.Proofs.Qxb6600213a
open Go.RowKit Go.Maps Go.WideMaps

theorem infoByte : (Try.prog.info? 5).map (fun i => (i.zero, i.size, i.bytes)) = some (some (.int .u8 0), 1, 1) := by kernel_rfl
theorem size_list (s : ByteArray) : s.size = s.data.toList.length := by rw [Array.length_toList]; rfl

set_option maxHeartbeats 4000000 in
set_option maxRecDepth 100000 in
theorem clone16 (s : ByteArray) (w : World) (hlim : s.size ≤ 281474976710656) :
    Calls Try.prog 16 #[.string s] w fun e w' => e = .returned (.string s) ∧ Below w.heap.size w w' := by
  by_cases h0 : s.size = 0
  · have hs : s = ⟨#[]⟩ := ByteArray.ext (Array.eq_empty_of_size_eq_zero h0)
    subst hs
    go_enter Try.func16, Try.ntmps16
    go_wp2
    go_ret
    exact ⟨rfl, Below.refl _ _⟩
  · obtain ⟨i0, hi, hz0, hz1, hz2⟩ := info_parts infoByte
    have hinfo : (Try.prog.info? 5).map (·.size) = some 1 := by rw [hi]; simp [hz1]
    have hco : Try.prog.cellsOf 5 = 1 := by simp [Program.cellsOf, hi, hz1]
    obtain ⟨M, hM⟩ : ∃ M, M = madeCells (Value.int .u8 0).cells (((s.size : Nat) : Int).toNat * i0.size) := ⟨_, rfl⟩
    have hMs : M.size = s.size := by rw [hM, size_madeCells, hz1]; simp
    have hmk : ∀ W : World, (Instr.makeSlice 38 (.int .i64 (s.size : Int)) (.int .i64 (s.size : Int))).run Try.prog W = .ok (.slice (some ⟨W.heap.size, 0, none⟩) s.size s.size) (W.alloc (.cells M 5)) := fun W => by
      have h := run_make (P := Try.prog) W 38 5 i0 (.int .u8 0) Try.underlying38 hi hz0 .i64 .i64 (s.size : Int) (s.size : Int) (by omega) (by omega) (by rw [hz2]; omega) (by omega)
      rw [← hM] at h
      simpa using h
    clear hM
    have hcp := Lib.run_copy_row_string (P := Try.prog) (w.alloc (.cells M 5)) 38 9 3 5 w.heap.size 0 s.size s.size s M 5 Try.underlying38 hinfo (heap_alloc_new w _) (Nat.le_refl _) (by omega)
    obtain ⟨Y, hY⟩ : ∃ Y, Y = (M.toList.take 0 ++ Lib.byteCells s.data.toList ++ M.toList.drop (0 + s.size)).toArray := ⟨_, rfl⟩
    rw [← hY] at hcp
    have hYl : Y.toList = Lib.byteCells s.data.toList := by
      rw [hY, List.toList_toArray, List.take_zero, List.nil_append, List.drop_of_length_le (by rw [Array.length_toList]; omega), List.append_nil]
    have hYs : Y.size = s.size := by rw [← Array.length_toList, hYl, Lib.byteCells_length, ← size_list]
    have hgY : ((w.alloc (.cells M 5)).setRow w.heap.size Y).heap[w.heap.size]? = some (.cells Y 5 (0, 0)) := setRow_heap _ _ M _ 5 (0, 0) (heap_alloc_new w _)
    have hne : s.data.toList ≠ [] := fun e => h0 (by rw [size_list, e]; rfl)
    have hUS := Lib.run_unsafeString_row (P := Try.prog) ((w.alloc (.cells M 5)).setRow w.heap.size Y) 39 3 9 5 Try.underlying39 hco w.heap.size Y.size (by unfold World.shape?; rw [hgY]) s.data.toList hne (by rw [← size_list]; omega) (by rw [← size_list]; omega)
      (fun j x hx => Lib.cells_of_row hgY Y.size j _ (by rw [List.take_of_length_le (by rw [Array.length_toList]; exact Nat.le_refl _), hYl]; simp [Lib.byteCells, hx]))
    rw [← size_list] at hUS
    clear hY
    go_enter Try.func16, Try.ntmps16
    go_wp2
    go_ret
    have hb1 : Below w.heap.size w (w.alloc (.cells M 5)) := (Below.refl _ w).alloc (Nat.le_refl _) _
    have hb2 : Below w.heap.size (w.alloc (.cells M 5)) ((w.alloc (.cells M 5)).setRow w.heap.size Y) := ⟨rfl, rfl, rfl, by simp, fun k hk => setRow_other _ _ _ _ (by omega)⟩
    exact ⟨rfl, Lib.below_freeze (hb1.trans hb2) (p := ⟨w.heap.size, 0, none⟩) (Nat.le_refl _) _⟩

set_option maxHeartbeats 400000 in
theorem clone15 (s : ByteArray) (w : World) (hlim : s.size ≤ 281474976710656) :
    Calls Try.prog 15 #[.string s] w fun e w' => e = .returned (.string s) ∧ Below w.heap.size w w' := by
  have HC := hide (clone16 s w hlim)
  go_enter Try.func15, Try.ntmps15
  go_wp2_with fail
  refine (unhide HC).mono ?_
  rintro e w1 ⟨rfl, hb⟩
  go_wp2
  go_ret
  exact ⟨rfl, hb⟩

def keyOfStr (s : ByteArray) : Lit := .string s.data.toList
theorem keyOfStr_inj {a b : ByteArray} (h : keyOfStr a = keyOfStr b) : a = b := by
  simp only [keyOfStr, Lit.string.injEq] at h
  exact ByteArray.ext (Array.toList_inj.1 h)
theorem law9 : Keyed Try.prog 9 := string_keyed Try.underlying9
theorem zero3 (w : World) : (zeroValue 3).run Try.prog w = .ok (.int .i64 0) w := by kernel_rfl

/-- The map that the call has made. -/
abbrev Own (w : World) (b n : Nat) (D : DataW Unit) : Prop := w.ownsMap Try.prog 9 (plainElem Try.prog 3) b n D
theorem Own.lt {w : World} {b n : Nat} {D : DataW Unit} (h : Own w b n D) : b < w.heap.size := by
  obtain ⟨es, clock, hb, _⟩ := h
  exact (Array.getElem?_eq_some_iff.1 hb).1
theorem Own.keep {w w' : World} {b n B : Nat} {D : DataW Unit} (h : Own w b n D) (hb : Below B w w') (hB : b < B) : Own w' b n D := by
  obtain ⟨es, clock, hbk, r⟩ := h
  exact ⟨es, clock, (hb.block b hB).trans hbk, r⟩

theorem q30 (w : World) (r : Option Nat) : (binOp .eql 30 (.map r) (.map none)).run Try.prog w = .ok (.bool r.isNone) w := run_eql_map_nil w 30 9 3 r Try.underlying30

set_option maxHeartbeats 1000000 in
theorem add_found (b n : Nat) (D : DataW Unit) (s : ByteArray) (line c : Int) (w : World) (hown : Own w b n D) (hs : s.size ≤ maxLen) (hh : has D (keyOfStr s) = true) (hat : D.atKey (keyOfStr s) (.lit (.int .i64 0)) = .lit (.int .i64 c)) :
    Calls Try.prog 14 #[.map (some b), .string s, .int .i64 line] w fun e w' => e = .returned (.tuple #[.int .i64 c, .bool true]) ∧ w' = w := by
  have hkey : keyOf Try.prog 9 (.string s) = some (keyOfStr s) := keyOf_string_mk Try.underlying9 hs
  have HAT := hide hat
  have q := q30
  clear hat
  go_enter Try.func14, Try.ntmps14
  go_wp2_with (at_lookup; refine wpList_lookup_own_ok_int _ rfl _ _ 30 rfl 9 3 .i64 law9 Try.underlying30 Try.underlying3 (zero3 _) b n D rfl hown _ _ rfl hkey ?_; intro c' hat' hwc')
  obtain rfl : c' = c := by
    have := hat'.symm.trans HAT.out
    simpa using this
  go_ret2
  exact ⟨rfl, rfl⟩

set_option maxHeartbeats 1000000 in
theorem add_new (b n : Nat) (D : DataW Unit) (s : ByteArray) (line : Int) (w : World) (hown : Own w b n D) (hs : s.size ≤ 1048576) (hn : n ≤ 1048576) (hl : (Lit.int .i64 line).wf = true) (hh : has D (keyOfStr s) = false) :
    Calls Try.prog 14 #[.map (some b), .string s, .int .i64 line] w fun e w' => e = .returned (.tuple #[.int .i64 0, .bool false]) ∧ Own w' b (n + 1) (D.put (keyOfStr s) (.lit (.int .i64 line))) ∧ Below b w w' := by
  have hkey : keyOf Try.prog 9 (.string s) = some (keyOfStr s) := keyOf_string_mk Try.underlying9 (by unfold maxLen; omega)
  have q := q30
  have HC := hide (fun w => clone15 s w (by omega))
  have HL := hide hl
  go_enter Try.func14, Try.ntmps14
  go_wp2_with (at_lookup; refine wpList_lookup_own_ok_int _ rfl _ _ 30 rfl 9 3 .i64 law9 Try.underlying30 Try.underlying3 (zero3 _) b n D rfl hown _ _ rfl hkey ?_; intro c' hat' hwc')
  refine (unhide HC _).mono ?_
  rintro e w1 ⟨rfl, hb⟩
  have hown1 := hown.keep hb hown.lt
  go_wp2_with (at_mapUpdate; refine wpList_mapUpdate_own _ rfl _ _ _ 30 rfl 9 3 law9 Try.underlying30 (plainElem (H := Unit) Try.prog 3) b n _ rfl hown1 (by unfold maxLen; omega) _ _ _ rfl rfl hkey _ [] (plainElem_int Try.underlying3 hl) ?_; intro w2 hown2 hgrow2)
  go_ret2
  exact ⟨rfl, hown2, (hb.mono (Nat.le_of_lt hown.lt)).grown hgrow2 (Nat.le_trans (Nat.le_of_lt hown.lt) hb.size) (fun k hk => by cases hk; exact Nat.le_refl _)⟩

set_option maxHeartbeats 400000 in
theorem door_found (b n : Nat) (D : DataW Unit) (s : ByteArray) (line c : Int) (w : World) (hown : Own w b n D) (hs : s.size ≤ maxLen) (hh : has D (keyOfStr s) = true) (hat : D.atKey (keyOfStr s) (.lit (.int .i64 0)) = .lit (.int .i64 c)) :
    Calls Try.prog 10 #[.map (some b), .string s, .int .i64 line] w fun e w' => e = .returned (.tuple #[.int .i64 c, .bool true]) ∧ w' = w := by
  have HC := hide (add_found b n D s line c w hown hs hh hat)
  clear hown hs hh hat
  go_enter Try.func10, Try.ntmps10
  go_wp2_with fail
  refine (unhide HC).mono ?_
  rintro e w1 ⟨rfl, hw⟩
  obtain rfl := hw.symm
  go_wp2
  go_ret2
  exact ⟨rfl, rfl⟩

set_option maxHeartbeats 400000 in
theorem door_new (b n : Nat) (D : DataW Unit) (s : ByteArray) (line : Int) (w : World) (hown : Own w b n D) (hs : s.size ≤ 1048576) (hn : n ≤ 1048576) (hl : (Lit.int .i64 line).wf = true) (hh : has D (keyOfStr s) = false) :
    Calls Try.prog 10 #[.map (some b), .string s, .int .i64 line] w fun e w' => e = .returned (.tuple #[.int .i64 0, .bool false]) ∧ Own w' b (n + 1) (D.put (keyOfStr s) (.lit (.int .i64 line))) ∧ Below b w w' := by
  have HC := hide (add_new b n D s line w hown hs hn hl hh)
  clear hown hs hh hl hn
  go_enter Try.func10, Try.ntmps10
  go_wp2_with fail
  refine (unhide HC).mono ?_
  rintro e w1 ⟨rfl, ho, hb⟩
  have HO := hide ho
  clear ho
  go_wp2
  go_ret2
  exact ⟨rfl, HO.out, hb⟩

/-- What the map holds behind the first k pairs: each string met, under the line of its first place. -/
structure Held (D : DataW Unit) (ss : List ByteArray) (is : List Int) (k : Nat) : Prop where
  tidy : Tidy D
  yes : ∀ v, fst ss v k < k → has D (keyOfStr v) = true ∧ D.atKey (keyOfStr v) (.lit (.int .i64 0)) = .lit (.int .i64 (is.getD (fst ss v k) 0))
  no : ∀ v, ¬ fst ss v k < k → has D (keyOfStr v) = false

end Go.Proofs.Qxb6600213a
