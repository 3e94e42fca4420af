/-
  DERIVED. GIVEN WITH THE SEED: THE CARDS: each row of Qxb6612236aDoorRows.lean that lists a variable, with what it lists TIED to the program's text (the seventh form; the later family's looks); each row that meets fmt, with fmt's text TOLD by the authors' own Lean function (tested against real Go, not proved from fmt's source: count such statements apart). THE CARD IS WHAT COUNTS. Prove the row's statement (the work); the ties are given (Qxb6612236aDoorTie.lean); close each card by the builder's one call (the guide's Derived/Test/ToyasCard.lean, 'card_holds'). Laid BY PROGRAM, IN A SANDBOX (cutbox-door.mjs). By AI agents, Wed Nov 11 2026. No macro, syntax, notation, axiom, sorry.
-/
import Derived.Test.Qxb6612236aDoorRows
import GoSem.ClaimSeven
namespace Go.Proofs.Qxb6612236aDoor
namespace Rows

/-- THE TIED CARD OF 'zzlaws_policy_b1.FnNewSessionIsFirstFreeName'. -/
def fnNewSessionIsFirstFreeNameCard : Claim7 := { stood := { row := fnNewSessionIsFirstFreeNameRow, standIns := [], harness := (true, "e12841c6182b8bd2cd5dc24693b4eb5e739156cbc05740335c7a6a0a11c4859a"), looks := false }, kinds := [], alts := [], laidByText := true, laidKinds := [.data, .data, .data], laidTests := true, laidLooks := .later }
def FnNewSessionIsFirstFreeNameCardSaid : Prop := Claim7.holds Tryd.pinned (.plain (OpenSpec.ofChange fnNewSessionIsFirstFreeNameSpec)) fnNewSessionIsFirstFreeNameCard

/-- THE TIED CARD OF 'zzlaws_policy_b1.FnNewSessionScriptOfThree'. -/
def fnNewSessionScriptOfThreeCard : Claim7 := { stood := { row := fnNewSessionScriptOfThreeRow, standIns := [], harness := (true, "e12841c6182b8bd2cd5dc24693b4eb5e739156cbc05740335c7a6a0a11c4859a"), looks := false }, kinds := [], alts := [], laidByText := true, laidKinds := [.data, .data, .data], laidTests := true, laidLooks := .later }
def FnNewSessionScriptOfThreeCardSaid : Prop := Claim7.holds Tryd.pinned (.plain (OpenSpec.ofChange fnNewSessionScriptOfThreeSpec)) fnNewSessionScriptOfThreeCard
end Rows
end Go.Proofs.Qxb6612236aDoor
