/-
  No cell of these rows narrows 'for every input' (looked for: loops, veiled, ifaces, maps, wideKeys, modest, calm, conditions, laid).
  DERIVED. THE GIVEN ROWS OF THIS SEAT. 3 by the template 'for every input the law returns true; each argument reads behind the call as it read before'; 0 by the template 'total and deterministic' (their statements: Qxb6600155aTotals.lean).
  GIVEN WITH THE SEED: the statements are not yours to turn. If you find one false, say at which input.
  Laid BY PROGRAM, IN A SANDBOX (cutbox-rows.mjs): the forced cells as the released guide's own fill.sh prints them over the translation d6ba6a1012587b62… (all of the seat's roots in one cut). By AI agents, Wed Nov 11 2026. No macro, syntax, notation, axiom, sorry.
-/
import Derived.Test.Qxb6600155aChecked
import GoSem.Claim
import GoSem.ClaimJoined
import GoSem.ClaimMapViews
import Derived.JoinedTies
import Derived.KernelRfl
namespace Go.Proofs.Qxb6600155a
/- THE CELL 'sum', in the pinned program and in every row, IS THE sha256 OF THE DUMP (.gsa) THAT Qxb6600155aProg.lean LOADS. Nothing in Lean hashes anything: it is a label: what it is worth is what the hold of that sum in a sandbox is worth. -/
noncomputable def Try.pinned : Pinned := { name := "qxb6600155a", sum := "d6ba6a1012587b62abeea6acc50424f389f174361c1acc8eea7090590869388f", checked := Try.checked }
namespace Rows
def none {H : Type} : Left H := { results := [], args := [] }

/-- 'zzlaws_internal_wire_b1.FnTwicePrefixAgrees': WHATEVER THE INPUT: true; the input reads as it did. -/
def fnTwicePrefixAgreesSpec : ChangeSpec := { name := "fnTwicePrefixAgrees", fn := fun _ => fun
  | [d1, d2] => { results := [.lit (.bool true)], args := [d1, d2] }
  | _ => none }
def fnTwicePrefixAgreesRow : OpenClaim := { program := "qxb6600155a", sum := "d6ba6a1012587b62abeea6acc50424f389f174361c1acc8eea7090590869388f", func := "example.com/assent/assent/zzlaws_internal_wire_b1.FnTwicePrefixAgrees", spec := "fnTwicePrefixAgrees", apart := false }
def FnTwicePrefixAgreesSaid : Prop := fnTwicePrefixAgreesRow.holds Try.pinned (OpenSpec.ofChange fnTwicePrefixAgreesSpec)

/-- ITS FALSE NEIGHBOUR: 'it returns false'. Refute it at one input. -/
def fnTwicePrefixAgreesWrong : ChangeSpec := { name := "fnTwicePrefixAgrees", fn := fun _ => fun
  | [d1, d2] => { results := [.lit (.bool false)], args := [d1, d2] }
  | _ => none }
def FnTwicePrefixAgreesWrongFalsely : Prop := fnTwicePrefixAgreesRow.holds Try.pinned (OpenSpec.ofChange fnTwicePrefixAgreesWrong)

/-- 'zzlaws_internal_wire_b1.FnTwiceAnswerIsFirstRepeat': WHATEVER THE INPUT: true; the input reads as it did. -/
def fnTwiceAnswerIsFirstRepeatSpec : ChangeSpec := { name := "fnTwiceAnswerIsFirstRepeat", fn := fun _ => fun
  | [d] => { results := [.lit (.bool true)], args := [d] }
  | _ => none }
def fnTwiceAnswerIsFirstRepeatRow : OpenClaim := { program := "qxb6600155a", sum := "d6ba6a1012587b62abeea6acc50424f389f174361c1acc8eea7090590869388f", func := "example.com/assent/assent/zzlaws_internal_wire_b1.FnTwiceAnswerIsFirstRepeat", spec := "fnTwiceAnswerIsFirstRepeat", apart := false }
def FnTwiceAnswerIsFirstRepeatSaid : Prop := fnTwiceAnswerIsFirstRepeatRow.holds Try.pinned (OpenSpec.ofChange fnTwiceAnswerIsFirstRepeatSpec)

/-- ITS FALSE NEIGHBOUR: 'it returns false'. Refute it at one input. -/
def fnTwiceAnswerIsFirstRepeatWrong : ChangeSpec := { name := "fnTwiceAnswerIsFirstRepeat", fn := fun _ => fun
  | [d] => { results := [.lit (.bool false)], args := [d] }
  | _ => none }
def FnTwiceAnswerIsFirstRepeatWrongFalsely : Prop := fnTwiceAnswerIsFirstRepeatRow.holds Try.pinned (OpenSpec.ofChange fnTwiceAnswerIsFirstRepeatWrong)

/-- 'zzlaws_internal_wire_b1.FnTwiceFindsAppendedRepeat': WHATEVER THE INPUT: true; the input reads as it did. -/
def fnTwiceFindsAppendedRepeatSpec : ChangeSpec := { name := "fnTwiceFindsAppendedRepeat", fn := fun _ => fun
  | [d1, d2] => { results := [.lit (.bool true)], args := [d1, d2] }
  | _ => none }
def fnTwiceFindsAppendedRepeatRow : OpenClaim := { program := "qxb6600155a", sum := "d6ba6a1012587b62abeea6acc50424f389f174361c1acc8eea7090590869388f", func := "example.com/assent/assent/zzlaws_internal_wire_b1.FnTwiceFindsAppendedRepeat", spec := "fnTwiceFindsAppendedRepeat", apart := false }
def FnTwiceFindsAppendedRepeatSaid : Prop := fnTwiceFindsAppendedRepeatRow.holds Try.pinned (OpenSpec.ofChange fnTwiceFindsAppendedRepeatSpec)

/-- ITS FALSE NEIGHBOUR: 'it returns false'. Refute it at one input. -/
def fnTwiceFindsAppendedRepeatWrong : ChangeSpec := { name := "fnTwiceFindsAppendedRepeat", fn := fun _ => fun
  | [d1, d2] => { results := [.lit (.bool false)], args := [d1, d2] }
  | _ => none }
def FnTwiceFindsAppendedRepeatWrongFalsely : Prop := fnTwiceFindsAppendedRepeatRow.holds Try.pinned (OpenSpec.ofChange fnTwiceFindsAppendedRepeatWrong)

end Rows
end Go.Proofs.Qxb6600155a
