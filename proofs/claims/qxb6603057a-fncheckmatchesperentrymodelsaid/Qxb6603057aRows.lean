/-
  No cell of these rows narrows 'for every input' (looked for: loops, veiled, ifaces, maps, wideKeys, modest, calm, conditions, laid).
  DERIVED. THE GIVEN ROWS OF THIS SEAT. 3 by the template 'for every input the law returns true; each argument reads behind the call as it read before'; 0 by the template 'total and deterministic' (their statements: Qxb6603057aTotals.lean).
  GIVEN WITH THE SEED: the statements are not yours to turn. If you find one false, say at which input.
  Laid BY PROGRAM, IN A SANDBOX (cutbox-rows.mjs): the forced cells as the released guide's own fill.sh prints them over the translation 4b820699ac78ea69… (all of the seat's roots in one cut). By AI agents, Wed Nov 11 2026. No macro, syntax, notation, axiom, sorry.
-/
import Derived.Test.Qxb6603057aChecked
import GoSem.Claim
import GoSem.ClaimJoined
import GoSem.ClaimMapViews
import Derived.JoinedTies
import Derived.KernelRfl
namespace Go.Proofs.Qxb6603057a
/- THE CELL 'sum', in the pinned program and in every row, IS THE sha256 OF THE DUMP (.gsa) THAT Qxb6603057aProg.lean LOADS. Nothing in Lean hashes anything: it is a label: what it is worth is what the hold of that sum in a sandbox is worth. -/
noncomputable def Try.pinned : Pinned := { name := "qxb6603057a", sum := "4b820699ac78ea693fba9c8deb829558089980ac79c576a47dbf96daf38d5249", checked := Try.checked }
namespace Rows
def none {H : Type} : Left H := { results := [], args := [] }

/-- 'zzlaws_internal_audit_b1.FnCheckMatchesPerEntryModel': WHATEVER THE INPUT: true; the input reads as it did. -/
def fnCheckMatchesPerEntryModelSpec : ChangeSpec := { name := "fnCheckMatchesPerEntryModel", fn := fun _ => fun
  | [d1, d2, d3, d4, d5] => { results := [.lit (.bool true)], args := [d1, d2, d3, d4, d5] }
  | _ => none }
def fnCheckMatchesPerEntryModelRow : OpenClaim := { program := "qxb6603057a", sum := "4b820699ac78ea693fba9c8deb829558089980ac79c576a47dbf96daf38d5249", func := "example.com/onceward/onceward/zzlaws_internal_audit_b1.FnCheckMatchesPerEntryModel", spec := "fnCheckMatchesPerEntryModel", apart := false }
def FnCheckMatchesPerEntryModelSaid : Prop := fnCheckMatchesPerEntryModelRow.holds Try.pinned (OpenSpec.ofChange fnCheckMatchesPerEntryModelSpec)

/-- ITS FALSE NEIGHBOUR: 'it returns false'. Refute it at one input. -/
def fnCheckMatchesPerEntryModelWrong : ChangeSpec := { name := "fnCheckMatchesPerEntryModel", fn := fun _ => fun
  | [d1, d2, d3, d4, d5] => { results := [.lit (.bool false)], args := [d1, d2, d3, d4, d5] }
  | _ => none }
def FnCheckMatchesPerEntryModelWrongFalsely : Prop := fnCheckMatchesPerEntryModelRow.holds Try.pinned (OpenSpec.ofChange fnCheckMatchesPerEntryModelWrong)

/-- 'zzlaws_internal_audit_b1.FnCheckIgnoresJournalOrder': WHATEVER THE INPUT: true; the input reads as it did. -/
def fnCheckIgnoresJournalOrderSpec : ChangeSpec := { name := "fnCheckIgnoresJournalOrder", fn := fun _ => fun
  | [d1, d2, d3, d4, d5] => { results := [.lit (.bool true)], args := [d1, d2, d3, d4, d5] }
  | _ => none }
def fnCheckIgnoresJournalOrderRow : OpenClaim := { program := "qxb6603057a", sum := "4b820699ac78ea693fba9c8deb829558089980ac79c576a47dbf96daf38d5249", func := "example.com/onceward/onceward/zzlaws_internal_audit_b1.FnCheckIgnoresJournalOrder", spec := "fnCheckIgnoresJournalOrder", apart := false }
def FnCheckIgnoresJournalOrderSaid : Prop := fnCheckIgnoresJournalOrderRow.holds Try.pinned (OpenSpec.ofChange fnCheckIgnoresJournalOrderSpec)

/-- ITS FALSE NEIGHBOUR: 'it returns false'. Refute it at one input. -/
def fnCheckIgnoresJournalOrderWrong : ChangeSpec := { name := "fnCheckIgnoresJournalOrder", fn := fun _ => fun
  | [d1, d2, d3, d4, d5] => { results := [.lit (.bool false)], args := [d1, d2, d3, d4, d5] }
  | _ => none }
def FnCheckIgnoresJournalOrderWrongFalsely : Prop := fnCheckIgnoresJournalOrderRow.holds Try.pinned (OpenSpec.ofChange fnCheckIgnoresJournalOrderWrong)

/-- 'zzlaws_internal_audit_b1.FnCheckCountsBounded': WHATEVER THE INPUT: true; the input reads as it did. -/
def fnCheckCountsBoundedSpec : ChangeSpec := { name := "fnCheckCountsBounded", fn := fun _ => fun
  | [d1, d2, d3, d4, d5] => { results := [.lit (.bool true)], args := [d1, d2, d3, d4, d5] }
  | _ => none }
def fnCheckCountsBoundedRow : OpenClaim := { program := "qxb6603057a", sum := "4b820699ac78ea693fba9c8deb829558089980ac79c576a47dbf96daf38d5249", func := "example.com/onceward/onceward/zzlaws_internal_audit_b1.FnCheckCountsBounded", spec := "fnCheckCountsBounded", apart := false }
def FnCheckCountsBoundedSaid : Prop := fnCheckCountsBoundedRow.holds Try.pinned (OpenSpec.ofChange fnCheckCountsBoundedSpec)

/-- ITS FALSE NEIGHBOUR: 'it returns false'. Refute it at one input. -/
def fnCheckCountsBoundedWrong : ChangeSpec := { name := "fnCheckCountsBounded", fn := fun _ => fun
  | [d1, d2, d3, d4, d5] => { results := [.lit (.bool false)], args := [d1, d2, d3, d4, d5] }
  | _ => none }
def FnCheckCountsBoundedWrongFalsely : Prop := fnCheckCountsBoundedRow.holds Try.pinned (OpenSpec.ofChange fnCheckCountsBoundedWrong)

end Rows
end Go.Proofs.Qxb6603057a
