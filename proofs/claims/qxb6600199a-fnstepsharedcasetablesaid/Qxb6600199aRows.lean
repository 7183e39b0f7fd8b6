/-
  No cell of these rows narrows 'for every input' (looked for: loops, veiled, ifaces, maps, wideKeys, modest, calm, conditions, laid).
  DERIVED. THE GIVEN ROWS OF THIS SEAT. 7 by the template 'for every input the law returns true; each argument reads behind the call as it read before'; 0 by the template 'total and deterministic' (their statements: Qxb6600199aTotals.lean).
  GIVEN WITH THE SEED: the statements are not yours to turn. If you find one false, say at which input.
  Laid BY PROGRAM, IN A SANDBOX (cutbox-rows.mjs): the forced cells as the released guide's own fill.sh prints them over the translation ff8784cd1d71f4af… (all of the seat's roots in one cut). By AI agents, Wed Nov 11 2026. No macro, syntax, notation, axiom, sorry.
-/
import Derived.Test.Qxb6600199aChecked
import GoSem.Claim
import GoSem.ClaimJoined
import GoSem.ClaimMapViews
import Derived.JoinedTies
import Derived.KernelRfl
namespace Go.Proofs.Qxb6600199a
/- THE CELL 'sum', in the pinned program and in every row, IS THE sha256 OF THE DUMP (.gsa) THAT Qxb6600199aProg.lean LOADS. Nothing in Lean hashes anything: it is a label: what it is worth is what the hold of that sum in a sandbox is worth. -/
noncomputable def Try.pinned : Pinned := { name := "qxb6600199a", sum := "ff8784cd1d71f4af2b376620be5e5c5227f1bbce0c18432d9734984eaa4c4238", checked := Try.checked }
namespace Rows
def none {H : Type} : Left H := { results := [], args := [] }

/-- 'zzlaws_history_b1.FnShareAtMatchesLinearScan': WHATEVER THE INPUT: true; the input reads as it did. -/
def fnShareAtMatchesLinearScanSpec : ChangeSpec := { name := "fnShareAtMatchesLinearScan", fn := fun _ => fun
  | [d1, d2, d3, d4, d5] => { results := [.lit (.bool true)], args := [d1, d2, d3, d4, d5] }
  | _ => none }
def fnShareAtMatchesLinearScanRow : OpenClaim := { program := "qxb6600199a", sum := "ff8784cd1d71f4af2b376620be5e5c5227f1bbce0c18432d9734984eaa4c4238", func := "example.com/guarded-lease/guarded-lease/zzlaws_history_b1.FnShareAtMatchesLinearScan", spec := "fnShareAtMatchesLinearScan", apart := false }
def FnShareAtMatchesLinearScanSaid : Prop := fnShareAtMatchesLinearScanRow.holds Try.pinned (OpenSpec.ofChange fnShareAtMatchesLinearScanSpec)

/-- ITS FALSE NEIGHBOUR: 'it returns false'. Refute it at one input. -/
def fnShareAtMatchesLinearScanWrong : ChangeSpec := { name := "fnShareAtMatchesLinearScan", fn := fun _ => fun
  | [d1, d2, d3, d4, d5] => { results := [.lit (.bool false)], args := [d1, d2, d3, d4, d5] }
  | _ => none }
def FnShareAtMatchesLinearScanWrongFalsely : Prop := fnShareAtMatchesLinearScanRow.holds Try.pinned (OpenSpec.ofChange fnShareAtMatchesLinearScanWrong)

/-- 'zzlaws_history_b1.FnShareAtOrderedInSession': WHATEVER THE INPUT: true; the input reads as it did. -/
def fnShareAtOrderedInSessionSpec : ChangeSpec := { name := "fnShareAtOrderedInSession", fn := fun _ => fun
  | [d1, d2, d3] => { results := [.lit (.bool true)], args := [d1, d2, d3] }
  | _ => none }
def fnShareAtOrderedInSessionRow : OpenClaim := { program := "qxb6600199a", sum := "ff8784cd1d71f4af2b376620be5e5c5227f1bbce0c18432d9734984eaa4c4238", func := "example.com/guarded-lease/guarded-lease/zzlaws_history_b1.FnShareAtOrderedInSession", spec := "fnShareAtOrderedInSession", apart := false }
def FnShareAtOrderedInSessionSaid : Prop := fnShareAtOrderedInSessionRow.holds Try.pinned (OpenSpec.ofChange fnShareAtOrderedInSessionSpec)

/-- ITS FALSE NEIGHBOUR: 'it returns false'. Refute it at one input. -/
def fnShareAtOrderedInSessionWrong : ChangeSpec := { name := "fnShareAtOrderedInSession", fn := fun _ => fun
  | [d1, d2, d3] => { results := [.lit (.bool false)], args := [d1, d2, d3] }
  | _ => none }
def FnShareAtOrderedInSessionWrongFalsely : Prop := fnShareAtOrderedInSessionRow.holds Try.pinned (OpenSpec.ofChange fnShareAtOrderedInSessionWrong)

/-- 'zzlaws_history_b1.FnWithShareInsertsInOrder': WHATEVER THE INPUT: true; the input reads as it did. -/
def fnWithShareInsertsInOrderSpec : ChangeSpec := { name := "fnWithShareInsertsInOrder", fn := fun _ => fun
  | [d1, d2, d3, d4, d5, d6] => { results := [.lit (.bool true)], args := [d1, d2, d3, d4, d5, d6] }
  | _ => none }
def fnWithShareInsertsInOrderRow : OpenClaim := { program := "qxb6600199a", sum := "ff8784cd1d71f4af2b376620be5e5c5227f1bbce0c18432d9734984eaa4c4238", func := "example.com/guarded-lease/guarded-lease/zzlaws_history_b1.FnWithShareInsertsInOrder", spec := "fnWithShareInsertsInOrder", inPlace := ["internal/abi.NoEscape", "internal/bytealg.MakeNoZero"], apart := false }
def FnWithShareInsertsInOrderSaid : Prop := fnWithShareInsertsInOrderRow.holds Try.pinned (OpenSpec.ofChange fnWithShareInsertsInOrderSpec)

/-- ITS FALSE NEIGHBOUR: 'it returns false'. Refute it at one input. -/
def fnWithShareInsertsInOrderWrong : ChangeSpec := { name := "fnWithShareInsertsInOrder", fn := fun _ => fun
  | [d1, d2, d3, d4, d5, d6] => { results := [.lit (.bool false)], args := [d1, d2, d3, d4, d5, d6] }
  | _ => none }
def FnWithShareInsertsInOrderWrongFalsely : Prop := fnWithShareInsertsInOrderRow.holds Try.pinned (OpenSpec.ofChange fnWithShareInsertsInOrderWrong)

/-- 'zzlaws_history_b1.FnWithShareUndoneByWithoutShare': WHATEVER THE INPUT: true; the input reads as it did. -/
def fnWithShareUndoneByWithoutShareSpec : ChangeSpec := { name := "fnWithShareUndoneByWithoutShare", fn := fun _ => fun
  | [d1, d2, d3, d4, d5, d6] => { results := [.lit (.bool true)], args := [d1, d2, d3, d4, d5, d6] }
  | _ => none }
def fnWithShareUndoneByWithoutShareRow : OpenClaim := { program := "qxb6600199a", sum := "ff8784cd1d71f4af2b376620be5e5c5227f1bbce0c18432d9734984eaa4c4238", func := "example.com/guarded-lease/guarded-lease/zzlaws_history_b1.FnWithShareUndoneByWithoutShare", spec := "fnWithShareUndoneByWithoutShare", inPlace := ["internal/abi.NoEscape", "internal/bytealg.MakeNoZero"], apart := false }
def FnWithShareUndoneByWithoutShareSaid : Prop := fnWithShareUndoneByWithoutShareRow.holds Try.pinned (OpenSpec.ofChange fnWithShareUndoneByWithoutShareSpec)

/-- ITS FALSE NEIGHBOUR: 'it returns false'. Refute it at one input. -/
def fnWithShareUndoneByWithoutShareWrong : ChangeSpec := { name := "fnWithShareUndoneByWithoutShare", fn := fun _ => fun
  | [d1, d2, d3, d4, d5, d6] => { results := [.lit (.bool false)], args := [d1, d2, d3, d4, d5, d6] }
  | _ => none }
def FnWithShareUndoneByWithoutShareWrongFalsely : Prop := fnWithShareUndoneByWithoutShareRow.holds Try.pinned (OpenSpec.ofChange fnWithShareUndoneByWithoutShareWrong)

/-- 'zzlaws_history_b1.FnWithShareOrderFree': WHATEVER THE INPUT: true; the input reads as it did. -/
def fnWithShareOrderFreeSpec : ChangeSpec := { name := "fnWithShareOrderFree", fn := fun _ => fun
  | [d1, d2, d3, d4, d5, d6] => { results := [.lit (.bool true)], args := [d1, d2, d3, d4, d5, d6] }
  | _ => none }
def fnWithShareOrderFreeRow : OpenClaim := { program := "qxb6600199a", sum := "ff8784cd1d71f4af2b376620be5e5c5227f1bbce0c18432d9734984eaa4c4238", func := "example.com/guarded-lease/guarded-lease/zzlaws_history_b1.FnWithShareOrderFree", spec := "fnWithShareOrderFree", inPlace := ["internal/abi.NoEscape", "internal/bytealg.MakeNoZero"], apart := false }
def FnWithShareOrderFreeSaid : Prop := fnWithShareOrderFreeRow.holds Try.pinned (OpenSpec.ofChange fnWithShareOrderFreeSpec)

/-- ITS FALSE NEIGHBOUR: 'it returns false'. Refute it at one input. -/
def fnWithShareOrderFreeWrong : ChangeSpec := { name := "fnWithShareOrderFree", fn := fun _ => fun
  | [d1, d2, d3, d4, d5, d6] => { results := [.lit (.bool false)], args := [d1, d2, d3, d4, d5, d6] }
  | _ => none }
def FnWithShareOrderFreeWrongFalsely : Prop := fnWithShareOrderFreeRow.holds Try.pinned (OpenSpec.ofChange fnWithShareOrderFreeWrong)

/-- 'zzlaws_history_b1.FnStepSharedCaseTable': WHATEVER THE INPUT: true; the input reads as it did. -/
def fnStepSharedCaseTableSpec : ChangeSpec := { name := "fnStepSharedCaseTable", fn := fun _ => fun
  | [d1, d2, d3, d4, d5, d6, d7, d8, d9, d10, d11] => { results := [.lit (.bool true)], args := [d1, d2, d3, d4, d5, d6, d7, d8, d9, d10, d11] }
  | _ => none }
def fnStepSharedCaseTableRow : OpenClaim := { program := "qxb6600199a", sum := "ff8784cd1d71f4af2b376620be5e5c5227f1bbce0c18432d9734984eaa4c4238", func := "example.com/guarded-lease/guarded-lease/zzlaws_history_b1.FnStepSharedCaseTable", spec := "fnStepSharedCaseTable", inPlace := ["internal/abi.NoEscape", "internal/bytealg.MakeNoZero"], apart := false }
def FnStepSharedCaseTableSaid : Prop := fnStepSharedCaseTableRow.holds Try.pinned (OpenSpec.ofChange fnStepSharedCaseTableSpec)

/-- ITS FALSE NEIGHBOUR: 'it returns false'. Refute it at one input. -/
def fnStepSharedCaseTableWrong : ChangeSpec := { name := "fnStepSharedCaseTable", fn := fun _ => fun
  | [d1, d2, d3, d4, d5, d6, d7, d8, d9, d10, d11] => { results := [.lit (.bool false)], args := [d1, d2, d3, d4, d5, d6, d7, d8, d9, d10, d11] }
  | _ => none }
def FnStepSharedCaseTableWrongFalsely : Prop := fnStepSharedCaseTableRow.holds Try.pinned (OpenSpec.ofChange fnStepSharedCaseTableWrong)

/-- 'zzlaws_history_b1.FnStepSharedScriptInvariants': WHATEVER THE INPUT: true; the input reads as it did. -/
def fnStepSharedScriptInvariantsSpec : ChangeSpec := { name := "fnStepSharedScriptInvariants", fn := fun _ => fun
  | [d1, d2] => { results := [.lit (.bool true)], args := [d1, d2] }
  | _ => none }
def fnStepSharedScriptInvariantsRow : OpenClaim := { program := "qxb6600199a", sum := "ff8784cd1d71f4af2b376620be5e5c5227f1bbce0c18432d9734984eaa4c4238", func := "example.com/guarded-lease/guarded-lease/zzlaws_history_b1.FnStepSharedScriptInvariants", spec := "fnStepSharedScriptInvariants", inPlace := ["internal/abi.NoEscape", "internal/bytealg.MakeNoZero"], apart := false }
def FnStepSharedScriptInvariantsSaid : Prop := fnStepSharedScriptInvariantsRow.holds Try.pinned (OpenSpec.ofChange fnStepSharedScriptInvariantsSpec)

/-- ITS FALSE NEIGHBOUR: 'it returns false'. Refute it at one input. -/
def fnStepSharedScriptInvariantsWrong : ChangeSpec := { name := "fnStepSharedScriptInvariants", fn := fun _ => fun
  | [d1, d2] => { results := [.lit (.bool false)], args := [d1, d2] }
  | _ => none }
def FnStepSharedScriptInvariantsWrongFalsely : Prop := fnStepSharedScriptInvariantsRow.holds Try.pinned (OpenSpec.ofChange fnStepSharedScriptInvariantsWrong)

end Rows
end Go.Proofs.Qxb6600199a
