/-
  DERIVED. GIVEN WITH THE SEED: THE CARDS: each row of Qxb6600155aDoorRows.lean that lists a variable, with what it lists TIED to the program's text (the seventh form; the later family's looks); each row that meets fmt, with fmt's text TOLD by the authors' own Lean function (tested against real Go, not proved from fmt's source: count such statements apart). THE CARD IS WHAT COUNTS. Prove the row's statement (the work); the ties are given (Qxb6600155aDoorTie.lean); close each card by the builder's one call (the guide's Derived/Test/ToyasCard.lean, 'card_holds'). Laid BY PROGRAM, IN A SANDBOX (cutbox-door.mjs). By AI agents, Wed Nov 11 2026. No macro, syntax, notation, axiom, sorry.
-/
import Derived.Test.Qxb6600155aDoorRows
import GoSem.ClaimSeven
namespace Go.Proofs.Qxb6600155aDoor
namespace Rows

/-- THE TIED CARD OF 'zzlaws_internal_wire_b1.FnVoteStringRoundTrips'. -/
def fnVoteStringRoundTripsCard : Claim7 := { stood := { row := fnVoteStringRoundTripsRow, standIns := [], harness := (true, "0cf29db0a61688626935d4b3603c70154ed6f7b98590eca89de62a92dabe92c7"), looks := false }, kinds := [], alts := [], laidByText := true, laidKinds := [.data, .data, .data], laidTests := true, laidLooks := .later }
def FnVoteStringRoundTripsCardSaid : Prop := Claim7.holds Tryd.pinned (.plain (OpenSpec.ofChange fnVoteStringRoundTripsSpec)) fnVoteStringRoundTripsCard

/-- THE TIED CARD OF 'zzlaws_internal_wire_b1.FnVoteStringInjective'. -/
def fnVoteStringInjectiveCard : Claim7 := { stood := { row := fnVoteStringInjectiveRow, standIns := [], harness := (true, "0cf29db0a61688626935d4b3603c70154ed6f7b98590eca89de62a92dabe92c7"), looks := false }, kinds := [], alts := [], laidByText := true, laidKinds := [.data, .data, .data], laidTests := true, laidLooks := .later }
def FnVoteStringInjectiveCardSaid : Prop := Claim7.holds Tryd.pinned (.plain (OpenSpec.ofChange fnVoteStringInjectiveSpec)) fnVoteStringInjectiveCard

/-- THE TIED CARD OF 'zzlaws_internal_wire_b1.FnOutcomeStringRoundTrips'. -/
def fnOutcomeStringRoundTripsCard : Claim7 := { stood := { row := fnOutcomeStringRoundTripsRow, standIns := [], harness := (true, "0cf29db0a61688626935d4b3603c70154ed6f7b98590eca89de62a92dabe92c7"), looks := false }, kinds := [], alts := [], laidByText := true, laidKinds := [.data, .data, .data], laidTests := true, laidLooks := .later }
def FnOutcomeStringRoundTripsCardSaid : Prop := Claim7.holds Tryd.pinned (.plain (OpenSpec.ofChange fnOutcomeStringRoundTripsSpec)) fnOutcomeStringRoundTripsCard

/-- THE TIED CARD OF 'zzlaws_internal_wire_b1.FnOutcomeStringInjective'. -/
def fnOutcomeStringInjectiveCard : Claim7 := { stood := { row := fnOutcomeStringInjectiveRow, standIns := [], harness := (true, "0cf29db0a61688626935d4b3603c70154ed6f7b98590eca89de62a92dabe92c7"), looks := false }, kinds := [], alts := [], laidByText := true, laidKinds := [.data, .data, .data], laidTests := true, laidLooks := .later }
def FnOutcomeStringInjectiveCardSaid : Prop := Claim7.holds Tryd.pinned (.plain (OpenSpec.ofChange fnOutcomeStringInjectiveSpec)) fnOutcomeStringInjectiveCard
end Rows
end Go.Proofs.Qxb6600155aDoor
