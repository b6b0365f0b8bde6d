/-
  No cell of these rows narrows 'for every input' (looked for: loops, veiled, ifaces, maps, wideKeys, modest, calm, conditions, laid).
  DERIVED. THE GIVEN ROWS OF THIS SEAT. 2 by the template 'for every input the law returns true; each argument reads behind the call as it read before'; 0 by the template 'total and deterministic' (their statements: Qxb6616038aTotals.lean).
  GIVEN WITH THE SEED: the statements are not yours to turn. If you find one false, say at which input.
  Laid BY PROGRAM, IN A SANDBOX (cutbox-rows.mjs): the forced cells as the released guide's own fill.sh prints them over the translation 0b41c80e5b5fa7a6… (all of the seat's roots in one cut). By AI agents, Wed Nov 11 2026. No macro, syntax, notation, axiom, sorry.
-/
import Derived.Test.Qxb6616038aChecked
import GoSem.Claim
import GoSem.ClaimJoined
import GoSem.ClaimMapViews
import Derived.JoinedTies
import Derived.KernelRfl
namespace Go.Proofs.Qxb6616038a
/- THE CELL 'sum', in the pinned program and in every row, IS THE sha256 OF THE DUMP (.gsa) THAT Qxb6616038aProg.lean LOADS. Nothing in Lean hashes anything: it is a label: what it is worth is what the hold of that sum in a sandbox is worth. -/
noncomputable def Try.pinned : Pinned := { name := "qxb6616038a", sum := "0b41c80e5b5fa7a6eb4e71e6f208e5211c8f2cd22f3c4a6c60c431ec8f29fb09", checked := Try.checked }
namespace Rows
def none {H : Type} : Left H := { results := [], args := [] }

/-- 'zzlaws_internal_ordering_b1.FnDueKeepsStampOrder': WHATEVER THE INPUT: true; the input reads as it did. -/
def fnDueKeepsStampOrderSpec : ChangeSpec := { name := "fnDueKeepsStampOrder", fn := fun _ => fun
  | [d1, d2, d3, d4, d5, d6, d7] => { results := [.lit (.bool true)], args := [d1, d2, d3, d4, d5, d6, d7] }
  | _ => none }
def fnDueKeepsStampOrderRow : OpenClaim := { program := "qxb6616038a", sum := "0b41c80e5b5fa7a6eb4e71e6f208e5211c8f2cd22f3c4a6c60c431ec8f29fb09", func := "example.com/ordinal/ordinal/zzlaws_internal_ordering_b1.FnDueKeepsStampOrder", spec := "fnDueKeepsStampOrder", apart := false }
def FnDueKeepsStampOrderSaid : Prop := fnDueKeepsStampOrderRow.holds Try.pinned (OpenSpec.ofChange fnDueKeepsStampOrderSpec)

/-- ITS FALSE NEIGHBOUR: 'it returns false'. Refute it at one input. -/
def fnDueKeepsStampOrderWrong : ChangeSpec := { name := "fnDueKeepsStampOrder", fn := fun _ => fun
  | [d1, d2, d3, d4, d5, d6, d7] => { results := [.lit (.bool false)], args := [d1, d2, d3, d4, d5, d6, d7] }
  | _ => none }
def FnDueKeepsStampOrderWrongFalsely : Prop := fnDueKeepsStampOrderRow.holds Try.pinned (OpenSpec.ofChange fnDueKeepsStampOrderWrong)

/-- 'zzlaws_internal_ordering_b1.FnBallotUnmovedByBallotlessParts': WHATEVER THE INPUT: true; the input reads as it did. -/
def fnBallotUnmovedByBallotlessPartsSpec : ChangeSpec := { name := "fnBallotUnmovedByBallotlessParts", fn := fun _ => fun
  | [d1, d2, d3, d4, d5, d6, d7, d8, d9, d10, d11] => { results := [.lit (.bool true)], args := [d1, d2, d3, d4, d5, d6, d7, d8, d9, d10, d11] }
  | _ => none }
def fnBallotUnmovedByBallotlessPartsRow : OpenClaim := { program := "qxb6616038a", sum := "0b41c80e5b5fa7a6eb4e71e6f208e5211c8f2cd22f3c4a6c60c431ec8f29fb09", func := "example.com/ordinal/ordinal/zzlaws_internal_ordering_b1.FnBallotUnmovedByBallotlessParts", spec := "fnBallotUnmovedByBallotlessParts", apart := false }
def FnBallotUnmovedByBallotlessPartsSaid : Prop := fnBallotUnmovedByBallotlessPartsRow.holds Try.pinned (OpenSpec.ofChange fnBallotUnmovedByBallotlessPartsSpec)

/-- ITS FALSE NEIGHBOUR: 'it returns false'. Refute it at one input. -/
def fnBallotUnmovedByBallotlessPartsWrong : ChangeSpec := { name := "fnBallotUnmovedByBallotlessParts", fn := fun _ => fun
  | [d1, d2, d3, d4, d5, d6, d7, d8, d9, d10, d11] => { results := [.lit (.bool false)], args := [d1, d2, d3, d4, d5, d6, d7, d8, d9, d10, d11] }
  | _ => none }
def FnBallotUnmovedByBallotlessPartsWrongFalsely : Prop := fnBallotUnmovedByBallotlessPartsRow.holds Try.pinned (OpenSpec.ofChange fnBallotUnmovedByBallotlessPartsWrong)

end Rows
end Go.Proofs.Qxb6616038a
