/-
  FnStepSharedCaseTable (8): the walk.
-/
import Derived.Test.Qxb6600199aShZ
import Derived.Deep.CutRange
namespace Go.Proofs.Qxb6600199a
open Go.RowKit

/-- What the table says: the verdict, and which next state (0 the same, 1 removed, 2 inserted). -/
def wokR (an re ow : Bool) : Bool := !an || (re && ow) || (!re && !ow)
def wntR (an re ow : Bool) : Int := if ((!an || re) && ow) = true then 1 else 0
def wokA (an ac gr hb fin : Bool) : Bool := !an || (!ac && hb) || (ac && (gr || fin))
def wntA (an ac gr : Bool) : Int := if ((!an || ac) && gr) = true then 2 else 0

/-- The next state is the one that the table names. -/
def Out8 (h : ByteArray) (l rf : Int) (g : Bool) (S : List Sh) (nm : List UInt8) (t : Nat) (wok : Bool) (wnt : Int) (ok : Bool) (h' : ByteArray) (l' rf' : Int) (g' : Bool) : Prop :=
  ok = wok ∧ ((wnt = 0 ∧ h' = h ∧ l' = l ∧ rf' = rf ∧ g' = g) ∨ (wnt = 1 ∧ h' = encB (rem S nm) ∧ l' = l ∧ rf' = 0 ∧ g' = false ∧ foundAt S nm = true) ∨ (wnt = 2 ∧ h' = encB (ins S nm t) ∧ l' = t ∧ rf' = 0 ∧ g' = false ∧ foundAt S nm = false ∧ h.size ≠ 4))

theorem out_release (h : ByteArray) (l rf : Int) (g : Bool) (a : Nat) (nm kd : ByteArray) (an ac re sh : Bool) (t : Nat) (S : List Sh) (w : World) (hv : View h S) (hn : nm.size = 4) (ho : OpAt w a nm kd an ac re sh t) (hk : (kd.toList == [114, 101, 108, 101, 97, 115, 101]) = true) :
    Calls Try.prog 25 #[.string h, .int .u64 l, .int .u32 rf, .bool g, .pointer (some ⟨a, 0, none⟩)] w fun e w' =>
      (∃ ok h' l' rf' g', StepFive e ok h' l' rf' g' ∧ Out8 h l rf g S nm.data.toList t (wokR an re (own S nm.data.toList t)) (wntR an re (own S nm.data.toList t)) ok h' l' rf' g') ∧ Below w.heap.size w w' := by
  refine door25 h l rf g a w _ (hide ((view_release h l rf g a nm kd an ac re sh t S w hv hn ho hk).mono ?_))
  rintro e w' ⟨he, hb⟩
  refine ⟨?_, hb⟩
  split at he
  · rename_i hc
    refine ⟨_, _, _, _, _, he, ?_, .inr (.inl ⟨?_, rfl, rfl, rfl, rfl, ?_⟩)⟩
    · cases an <;> cases re <;> cases ho' : own S nm.data.toList t <;> simp_all [wokR]
    · unfold wntR; rw [if_pos hc]
    · simp [own] at hc; exact hc.2.1
  · rename_i hc
    refine ⟨_, _, _, _, _, he, ?_, .inl ⟨?_, rfl, rfl, rfl, rfl⟩⟩
    · cases an <;> cases re <;> cases ho' : own S nm.data.toList t <;> simp_all [wokR]
    · unfold wntR; rw [if_neg hc]

theorem out_acquire (h : ByteArray) (l rf : Int) (g : Bool) (a : Nat) (nm kd : ByteArray) (an ac re sh : Bool) (t : Nat) (S : List Sh) (w : World) (hv : View h S) (hn : nm.size = 4) (ht : t < 18446744073709551616) (hsm : h.size + 12 ≤ 2097152) (ho : OpAt w a nm kd an ac re sh t) (hk : (kd.toList == [114, 101, 108, 101, 97, 115, 101]) = false) :
    Calls Try.prog 25 #[.string h, .int .u64 l, .int .u32 rf, .bool g, .pointer (some ⟨a, 0, none⟩)] w fun e w' =>
      (∃ ok h' l' rf' g', StepFive e ok h' l' rf' g' ∧ Out8 h l rf g S nm.data.toList t
        (wokA an ac (grn h S nm.data.toList sh l t) (!h.toList.isEmpty && !(h.toList == nm.toList) && !foundAt S nm.data.toList) (sh && foundAt S nm.data.toList && ((tokOr S nm.data.toList : Int) == (t : Int)))) (wntA an ac (grn h S nm.data.toList sh l t)) ok h' l' rf' g') ∧ Below w.heap.size w w' := by
  refine door25 h l rf g a w _ (hide ((view_acquire h l rf g a nm kd an ac re sh t S w hv hn ht hsm ho hk).mono ?_))
  rintro e w' ⟨he, hb⟩
  refine ⟨?_, hb⟩
  split at he
  · rename_i hc
    have h2 : foundAt S nm.data.toList = false ∧ h.size ≠ 4 := by
      simp [grn, shb] at hc
      obtain ⟨_, ⟨_, h1⟩, _⟩ := hc
      exact ⟨by simpa using h1.2, h1.1⟩
    refine ⟨_, _, _, _, _, he, ?_, .inr (.inr ⟨?_, rfl, rfl, rfl, rfl, h2⟩)⟩
    · unfold wokA
      generalize grn h S nm.data.toList sh l t = gr at hc
      cases an <;> cases ac <;> cases gr <;> simp_all
    · unfold wntA; rw [if_pos hc]
  · rename_i hc
    refine ⟨_, _, _, _, _, he, ?_, .inl ⟨?_, rfl, rfl, rfl, rfl⟩⟩
    · unfold wokA
      generalize grn h S nm.data.toList sh l t = gr at hc
      cases an <;> cases ac <;> cases gr <;> simp_all
    · unfold wntA; rw [if_neg hc]

/-- zzFind in both views. -/
theorem view_find (h nm : ByteArray) (S : List Sh) (w : World) (hv : View h S) (hn : nm.size = 4) :
    Calls Try.prog 13 #[.string h, .string nm] w fun e w' => (∃ i : Int, e = .returned (.tuple #[.int .i64 i, .bool (foundAt S nm.data.toList), .int .u64 (tokOr S nm.data.toList : Int)])) ∧ Dr w w' := by
  rcases hv with hr | ⟨h4, rfl⟩
  · exact (find_any h nm S w hr hn).mono fun e w' ⟨he, hd⟩ => ⟨⟨_, he⟩, hd⟩
  · exact (find_none h nm w (by omega)).mono fun e w' ⟨he, hw⟩ => ⟨⟨0, he⟩, by rw [hw]; exact Dr.refl _⟩

end Go.Proofs.Qxb6600199a
