/-
  No cell of these rows narrows 'for every input' (looked for: loops, veiled, ifaces, maps, wideKeys, modest, calm, conditions, laid).
  DERIVED. THE GIVEN ROWS OF THIS SEAT. 2 by the template 'for every input the law returns true; each argument reads behind the call as it read before'; 0 by the template 'total and deterministic' (their statements: Qxb6600213aTotals.lean).
  GIVEN WITH THE SEED: the statements are not yours to turn. If you find one false, say at which input.
  Laid BY PROGRAM, IN A SANDBOX (cutbox-rows.mjs): the forced cells as the released guide's own fill.sh prints them over the translation 33bdeab2a9c1c2cc… (all of the seat's roots in one cut). By AI agents, Wed Nov 11 2026. No macro, syntax, notation, axiom, sorry.
-/
import Derived.Test.Qxb6600213aChecked
import GoSem.Claim
import GoSem.ClaimJoined
import GoSem.ClaimMapViews
import Derived.JoinedTies
import Derived.KernelRfl
namespace Go.Proofs.Qxb6600213a
/- THE CELL 'sum', in the pinned program and in every row, IS THE sha256 OF THE DUMP (.gsa) THAT Qxb6600213aProg.lean LOADS. Nothing in Lean hashes anything: it is a label: what it is worth is what the hold of that sum in a sandbox is worth. -/
noncomputable def Try.pinned : Pinned := { name := "qxb6600213a", sum := "33bdeab2a9c1c2cc2db70e34f792260bd11758f510a2fa54bbf977c4f46daccc", checked := Try.checked }
namespace Rows
def none {H : Type} : Left H := { results := [], args := [] }

/-- 'zzlaws_pkg_confirm_b1.FnAppIDsAddAnswersFirstLine': WHATEVER THE INPUT: true; the input reads as it did. -/
def fnAppIDsAddAnswersFirstLineSpec : ChangeSpec := { name := "fnAppIDsAddAnswersFirstLine", fn := fun _ => fun
  | [d1, d2] => { results := [.lit (.bool true)], args := [d1, d2] }
  | _ => none }
def fnAppIDsAddAnswersFirstLineRow : OpenClaim := { program := "qxb6600213a", sum := "33bdeab2a9c1c2cc2db70e34f792260bd11758f510a2fa54bbf977c4f46daccc", func := "example.com/zhaomu/zhaomu/zzlaws_pkg_confirm_b1.FnAppIDsAddAnswersFirstLine", spec := "fnAppIDsAddAnswersFirstLine", apart := false }
def FnAppIDsAddAnswersFirstLineSaid : Prop := fnAppIDsAddAnswersFirstLineRow.holds Try.pinned (OpenSpec.ofChange fnAppIDsAddAnswersFirstLineSpec)

/-- ITS FALSE NEIGHBOUR: 'it returns false'. Refute it at one input. -/
def fnAppIDsAddAnswersFirstLineWrong : ChangeSpec := { name := "fnAppIDsAddAnswersFirstLine", fn := fun _ => fun
  | [d1, d2] => { results := [.lit (.bool false)], args := [d1, d2] }
  | _ => none }
def FnAppIDsAddAnswersFirstLineWrongFalsely : Prop := fnAppIDsAddAnswersFirstLineRow.holds Try.pinned (OpenSpec.ofChange fnAppIDsAddAnswersFirstLineWrong)

/-- 'zzlaws_pkg_confirm_b1.FnAppIDsAddHoldsDistinctFirstLines': WHATEVER THE INPUT: true; the input reads as it did. -/
def fnAppIDsAddHoldsDistinctFirstLinesSpec : ChangeSpec := { name := "fnAppIDsAddHoldsDistinctFirstLines", fn := fun _ => fun
  | [d1, d2, d3] => { results := [.lit (.bool true)], args := [d1, d2, d3] }
  | _ => none }
def fnAppIDsAddHoldsDistinctFirstLinesRow : OpenClaim := { program := "qxb6600213a", sum := "33bdeab2a9c1c2cc2db70e34f792260bd11758f510a2fa54bbf977c4f46daccc", func := "example.com/zhaomu/zhaomu/zzlaws_pkg_confirm_b1.FnAppIDsAddHoldsDistinctFirstLines", spec := "fnAppIDsAddHoldsDistinctFirstLines", apart := false }
def FnAppIDsAddHoldsDistinctFirstLinesSaid : Prop := fnAppIDsAddHoldsDistinctFirstLinesRow.holds Try.pinned (OpenSpec.ofChange fnAppIDsAddHoldsDistinctFirstLinesSpec)

/-- ITS FALSE NEIGHBOUR: 'it returns false'. Refute it at one input. -/
def fnAppIDsAddHoldsDistinctFirstLinesWrong : ChangeSpec := { name := "fnAppIDsAddHoldsDistinctFirstLines", fn := fun _ => fun
  | [d1, d2, d3] => { results := [.lit (.bool false)], args := [d1, d2, d3] }
  | _ => none }
def FnAppIDsAddHoldsDistinctFirstLinesWrongFalsely : Prop := fnAppIDsAddHoldsDistinctFirstLinesRow.holds Try.pinned (OpenSpec.ofChange fnAppIDsAddHoldsDistinctFirstLinesWrong)

end Rows
end Go.Proofs.Qxb6600213a
