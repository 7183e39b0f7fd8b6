/-
  No cell of these rows narrows 'for every input' (looked for: loops, veiled, ifaces, maps, wideKeys, modest, calm, conditions, laid).
  DERIVED. THE GIVEN ROWS OF THIS SEAT. 3 by the template 'for every input the law returns true; each argument reads behind the call as it read before'; 0 by the template 'total and deterministic' (their statements: Qxb6600196aTotals.lean).
  GIVEN WITH THE SEED: the statements are not yours to turn. If you find one false, say at which input.
  Laid BY PROGRAM, IN A SANDBOX (cutbox-rows.mjs): the forced cells as the released guide's own fill.sh prints them over the translation b397a0a6371d61ab… (all of the seat's roots in one cut). By AI agents, Wed Nov 11 2026. No macro, syntax, notation, axiom, sorry.
-/
import Derived.Test.Qxb6600196aChecked
import GoSem.Claim
import GoSem.ClaimJoined
import GoSem.ClaimMapViews
import Derived.JoinedTies
import Derived.KernelRfl
namespace Go.Proofs.Qxb6600196a
/- THE CELL 'sum', in the pinned program and in every row, IS THE sha256 OF THE DUMP (.gsa) THAT Qxb6600196aProg.lean LOADS. Nothing in Lean hashes anything: it is a label: what it is worth is what the hold of that sum in a sandbox is worth. -/
noncomputable def Try.pinned : Pinned := { name := "qxb6600196a", sum := "b397a0a6371d61ab97c954a2fc0d3271bd8bdd9e2752f073954efbe0bb5d8de9", checked := Try.checked }
namespace Rows
def none {H : Type} : Left H := { results := [], args := [] }

/-- 'zzlaws_root_b1.FnWithoutIsExactRemoval': WHATEVER THE INPUT: true; the input reads as it did. -/
def fnWithoutIsExactRemovalSpec : ChangeSpec := { name := "fnWithoutIsExactRemoval", fn := fun _ => fun
  | [d1, d2] => { results := [.lit (.bool true)], args := [d1, d2] }
  | _ => none }
def fnWithoutIsExactRemovalRow : OpenClaim := { program := "qxb6600196a", sum := "b397a0a6371d61ab97c954a2fc0d3271bd8bdd9e2752f073954efbe0bb5d8de9", func := "example.com/ballotlog/ballotlog/zzlaws_root_b1.FnWithoutIsExactRemoval", spec := "fnWithoutIsExactRemoval", apart := false }
def FnWithoutIsExactRemovalSaid : Prop := fnWithoutIsExactRemovalRow.holds Try.pinned (OpenSpec.ofChange fnWithoutIsExactRemovalSpec)

/-- ITS FALSE NEIGHBOUR: 'it returns false'. Refute it at one input. -/
def fnWithoutIsExactRemovalWrong : ChangeSpec := { name := "fnWithoutIsExactRemoval", fn := fun _ => fun
  | [d1, d2] => { results := [.lit (.bool false)], args := [d1, d2] }
  | _ => none }
def FnWithoutIsExactRemovalWrongFalsely : Prop := fnWithoutIsExactRemovalRow.holds Try.pinned (OpenSpec.ofChange fnWithoutIsExactRemovalWrong)

/-- 'zzlaws_root_b1.FnWithoutRemovalsCommuteAndSettle': WHATEVER THE INPUT: true; the input reads as it did. -/
def fnWithoutRemovalsCommuteAndSettleSpec : ChangeSpec := { name := "fnWithoutRemovalsCommuteAndSettle", fn := fun _ => fun
  | [d1, d2, d3] => { results := [.lit (.bool true)], args := [d1, d2, d3] }
  | _ => none }
def fnWithoutRemovalsCommuteAndSettleRow : OpenClaim := { program := "qxb6600196a", sum := "b397a0a6371d61ab97c954a2fc0d3271bd8bdd9e2752f073954efbe0bb5d8de9", func := "example.com/ballotlog/ballotlog/zzlaws_root_b1.FnWithoutRemovalsCommuteAndSettle", spec := "fnWithoutRemovalsCommuteAndSettle", apart := false }
def FnWithoutRemovalsCommuteAndSettleSaid : Prop := fnWithoutRemovalsCommuteAndSettleRow.holds Try.pinned (OpenSpec.ofChange fnWithoutRemovalsCommuteAndSettleSpec)

/-- ITS FALSE NEIGHBOUR: 'it returns false'. Refute it at one input. -/
def fnWithoutRemovalsCommuteAndSettleWrong : ChangeSpec := { name := "fnWithoutRemovalsCommuteAndSettle", fn := fun _ => fun
  | [d1, d2, d3] => { results := [.lit (.bool false)], args := [d1, d2, d3] }
  | _ => none }
def FnWithoutRemovalsCommuteAndSettleWrongFalsely : Prop := fnWithoutRemovalsCommuteAndSettleRow.holds Try.pinned (OpenSpec.ofChange fnWithoutRemovalsCommuteAndSettleWrong)

/-- 'zzlaws_root_b1.FnWithoutSplitsOverConcatenation': WHATEVER THE INPUT: true; the input reads as it did. -/
def fnWithoutSplitsOverConcatenationSpec : ChangeSpec := { name := "fnWithoutSplitsOverConcatenation", fn := fun _ => fun
  | [d1, d2, d3] => { results := [.lit (.bool true)], args := [d1, d2, d3] }
  | _ => none }
def fnWithoutSplitsOverConcatenationRow : OpenClaim := { program := "qxb6600196a", sum := "b397a0a6371d61ab97c954a2fc0d3271bd8bdd9e2752f073954efbe0bb5d8de9", func := "example.com/ballotlog/ballotlog/zzlaws_root_b1.FnWithoutSplitsOverConcatenation", spec := "fnWithoutSplitsOverConcatenation", apart := false }
def FnWithoutSplitsOverConcatenationSaid : Prop := fnWithoutSplitsOverConcatenationRow.holds Try.pinned (OpenSpec.ofChange fnWithoutSplitsOverConcatenationSpec)

/-- ITS FALSE NEIGHBOUR: 'it returns false'. Refute it at one input. -/
def fnWithoutSplitsOverConcatenationWrong : ChangeSpec := { name := "fnWithoutSplitsOverConcatenation", fn := fun _ => fun
  | [d1, d2, d3] => { results := [.lit (.bool false)], args := [d1, d2, d3] }
  | _ => none }
def FnWithoutSplitsOverConcatenationWrongFalsely : Prop := fnWithoutSplitsOverConcatenationRow.holds Try.pinned (OpenSpec.ofChange fnWithoutSplitsOverConcatenationWrong)

end Rows
end Go.Proofs.Qxb6600196a
