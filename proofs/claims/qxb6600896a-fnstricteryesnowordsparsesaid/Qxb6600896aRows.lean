/-
  No cell of these rows narrows 'for every input' (looked for: loops, veiled, ifaces, maps, wideKeys, modest, calm, conditions, laid).
  DERIVED. THE GIVEN ROWS OF THIS SEAT. 1 by the template 'for every input the law returns true; each argument reads behind the call as it read before'; 0 by the template 'total and deterministic' (their statements: Qxb6600896aTotals.lean).
  GIVEN WITH THE SEED: the statements are not yours to turn. If you find one false, say at which input.
  Laid BY PROGRAM, IN A SANDBOX (cutbox-rows.mjs): the forced cells as the released guide's own fill.sh prints them over the translation f337037de771166f… (all of the seat's roots in one cut). By AI agents, Wed Nov 11 2026. No macro, syntax, notation, axiom, sorry.
-/
import Derived.Test.Qxb6600896aChecked
import GoSem.Claim
import GoSem.ClaimJoined
import GoSem.ClaimMapViews
import Derived.JoinedTies
import Derived.KernelRfl
namespace Go.Proofs.Qxb6600896a
/- THE CELL 'sum', in the pinned program and in every row, IS THE sha256 OF THE DUMP (.gsa) THAT Qxb6600896aProg.lean LOADS. Nothing in Lean hashes anything: it is a label: what it is worth is what the hold of that sum in a sandbox is worth. -/
noncomputable def Try.pinned : Pinned := { name := "qxb6600896a", sum := "f337037de771166f96d2f7e7b31ed69ac41277cca0ea6284de0c8d8cbb67c287", checked := Try.checked }
namespace Rows
def none {H : Type} : Left H := { results := [], args := [] }

/-- 'zzlaws_rulebook_b1.FnStricterYesNoWordsParse': WHATEVER THE INPUT: true; the input reads as it did. -/
def fnStricterYesNoWordsParseSpec : ChangeSpec := { name := "fnStricterYesNoWordsParse", fn := fun _ => fun
  | [d1, d2, d3] => { results := [.lit (.bool true)], args := [d1, d2, d3] }
  | _ => none }
def fnStricterYesNoWordsParseRow : OpenClaim := { program := "qxb6600896a", sum := "f337037de771166f96d2f7e7b31ed69ac41277cca0ea6284de0c8d8cbb67c287", func := "example.com/holdwatch/holdwatch/zzlaws_rulebook_b1.FnStricterYesNoWordsParse", spec := "fnStricterYesNoWordsParse", apart := false }
def FnStricterYesNoWordsParseSaid : Prop := fnStricterYesNoWordsParseRow.holds Try.pinned (OpenSpec.ofChange fnStricterYesNoWordsParseSpec)

/-- ITS FALSE NEIGHBOUR: 'it returns false'. Refute it at one input. -/
def fnStricterYesNoWordsParseWrong : ChangeSpec := { name := "fnStricterYesNoWordsParse", fn := fun _ => fun
  | [d1, d2, d3] => { results := [.lit (.bool false)], args := [d1, d2, d3] }
  | _ => none }
def FnStricterYesNoWordsParseWrongFalsely : Prop := fnStricterYesNoWordsParseRow.holds Try.pinned (OpenSpec.ofChange fnStricterYesNoWordsParseWrong)

end Rows
end Go.Proofs.Qxb6600896a
