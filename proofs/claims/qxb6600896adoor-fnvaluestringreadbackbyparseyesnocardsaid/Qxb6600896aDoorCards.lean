/-
  DERIVED. GIVEN WITH THE SEED: THE CARDS: each row of Qxb6600896aDoorRows.lean that lists a variable, with what it lists TIED to the program's text (the seventh form; the later family's looks); each row that meets fmt, with fmt's text TOLD by the authors' own Lean function (tested against real Go, not proved from fmt's source: count such statements apart). THE CARD IS WHAT COUNTS. Prove the row's statement (the work); the ties are given (Qxb6600896aDoorTie.lean); close each card by the builder's one call (the guide's Derived/Test/ToyasCard.lean, 'card_holds'). Laid BY PROGRAM, IN A SANDBOX (cutbox-door.mjs). By AI agents, Wed Nov 11 2026. No macro, syntax, notation, axiom, sorry.
-/
import Derived.Test.Qxb6600896aDoorRows
import GoSem.ClaimSeven
namespace Go.Proofs.Qxb6600896aDoor
namespace Rows

/-- THE TIED CARD OF 'zzlaws_rulebook_b1.FnValueStringNumbersInjective'. -/
def fnValueStringNumbersInjectiveCard : Claim7 := { stood := { row := fnValueStringNumbersInjectiveRow, standIns := [], harness := (true, "889e2e6963e90dd6f4042e1c81e9e2871bee04b0d382b9f1f1e250dc53826b2c"), looks := false }, kinds := [], alts := [], laidByText := true, laidKinds := [.data, .data, .data], laidTests := true, laidLooks := .later }
def FnValueStringNumbersInjectiveCardSaid : Prop := Claim7.holds Tryd.pinned (.plain (OpenSpec.ofChange fnValueStringNumbersInjectiveSpec)) fnValueStringNumbersInjectiveCard

/-- THE TIED CARD OF 'zzlaws_rulebook_b1.FnValueStringReadBackByParseYesNo'. -/
def fnValueStringReadBackByParseYesNoCard : Claim7 := { stood := { row := fnValueStringReadBackByParseYesNoRow, standIns := [], harness := (true, "889e2e6963e90dd6f4042e1c81e9e2871bee04b0d382b9f1f1e250dc53826b2c"), looks := false }, kinds := [], alts := [], laidByText := true, laidKinds := [.data, .data, .data], laidTests := true, laidLooks := .later }
def FnValueStringReadBackByParseYesNoCardSaid : Prop := Claim7.holds Tryd.pinned (.plain (OpenSpec.ofChange fnValueStringReadBackByParseYesNoSpec)) fnValueStringReadBackByParseYesNoCard

/-- THE TIED CARD OF 'zzlaws_rulebook_b1.FnParseYesNoRoundTripsThroughString'. -/
def fnParseYesNoRoundTripsThroughStringCard : Claim7 := { stood := { row := fnParseYesNoRoundTripsThroughStringRow, standIns := [], harness := (true, "889e2e6963e90dd6f4042e1c81e9e2871bee04b0d382b9f1f1e250dc53826b2c"), looks := false }, kinds := [], alts := [], laidByText := true, laidKinds := [.data, .data, .data], laidTests := true, laidLooks := .later }
def FnParseYesNoRoundTripsThroughStringCardSaid : Prop := Claim7.holds Tryd.pinned (.plain (OpenSpec.ofChange fnParseYesNoRoundTripsThroughStringSpec)) fnParseYesNoRoundTripsThroughStringCard
end Rows
end Go.Proofs.Qxb6600896aDoor
