/-
  No cell of these rows narrows 'for every input' (looked for: loops, veiled, ifaces, maps, wideKeys, modest, calm, conditions, laid).
  DERIVED. THE GIVEN ROWS OF THIS SEAT. 2 by the template 'for every input the law returns true; each argument reads behind the call as it read before'; 0 by the template 'total and deterministic' (their statements: Qxb6615923aTotals.lean).
  GIVEN WITH THE SEED: the statements are not yours to turn. If you find one false, say at which input.
  Laid BY PROGRAM, IN A SANDBOX (cutbox-rows.mjs): the forced cells as the released guide's own fill.sh prints them over the translation e741801466e9a614… (all of the seat's roots in one cut). By AI agents, Wed Nov 11 2026. No macro, syntax, notation, axiom, sorry.
-/
import Derived.Test.Qxb6615923aChecked
import GoSem.Claim
import GoSem.ClaimJoined
import GoSem.ClaimMapViews
import Derived.JoinedTies
import Derived.KernelRfl
namespace Go.Proofs.Qxb6615923a
/- THE CELL 'sum', in the pinned program and in every row, IS THE sha256 OF THE DUMP (.gsa) THAT Qxb6615923aProg.lean LOADS. Nothing in Lean hashes anything: it is a label: what it is worth is what the hold of that sum in a sandbox is worth. -/
noncomputable def Try.pinned : Pinned := { name := "qxb6615923a", sum := "e741801466e9a614710eda841df50c8bfa6ed7ad11c07aefa4b951dfb32bffd1", checked := Try.checked }
namespace Rows
def none {H : Type} : Left H := { results := [], args := [] }

/-- 'zzlaws_root_b1.FnCsvOneMorePutInAnywhere': WHATEVER THE INPUT: true; the input reads as it did. -/
def fnCsvOneMorePutInAnywhereSpec : ChangeSpec := { name := "fnCsvOneMorePutInAnywhere", fn := fun _ => fun
  | [d1, d2, d3, d4] => { results := [.lit (.bool true)], args := [d1, d2, d3, d4] }
  | _ => none }
def fnCsvOneMorePutInAnywhereRow : OpenClaim := { program := "qxb6615923a", sum := "e741801466e9a614710eda841df50c8bfa6ed7ad11c07aefa4b951dfb32bffd1", func := "example.com/bundlewright/bundlewright/zzlaws_root_b1.FnCsvOneMorePutInAnywhere", spec := "fnCsvOneMorePutInAnywhere", apart := false }
def FnCsvOneMorePutInAnywhereSaid : Prop := fnCsvOneMorePutInAnywhereRow.holds Try.pinned (OpenSpec.ofChange fnCsvOneMorePutInAnywhereSpec)

/-- ITS FALSE NEIGHBOUR: 'it returns false'. Refute it at one input. -/
def fnCsvOneMorePutInAnywhereWrong : ChangeSpec := { name := "fnCsvOneMorePutInAnywhere", fn := fun _ => fun
  | [d1, d2, d3, d4] => { results := [.lit (.bool false)], args := [d1, d2, d3, d4] }
  | _ => none }
def FnCsvOneMorePutInAnywhereWrongFalsely : Prop := fnCsvOneMorePutInAnywhereRow.holds Try.pinned (OpenSpec.ofChange fnCsvOneMorePutInAnywhereWrong)

/-- 'zzlaws_root_b1.FnCsvFindsTheOneAtAnyCut': WHATEVER THE INPUT: true; the input reads as it did. -/
def fnCsvFindsTheOneAtAnyCutSpec : ChangeSpec := { name := "fnCsvFindsTheOneAtAnyCut", fn := fun _ => fun
  | [d1, d2, d3] => { results := [.lit (.bool true)], args := [d1, d2, d3] }
  | _ => none }
def fnCsvFindsTheOneAtAnyCutRow : OpenClaim := { program := "qxb6615923a", sum := "e741801466e9a614710eda841df50c8bfa6ed7ad11c07aefa4b951dfb32bffd1", func := "example.com/bundlewright/bundlewright/zzlaws_root_b1.FnCsvFindsTheOneAtAnyCut", spec := "fnCsvFindsTheOneAtAnyCut", apart := false }
def FnCsvFindsTheOneAtAnyCutSaid : Prop := fnCsvFindsTheOneAtAnyCutRow.holds Try.pinned (OpenSpec.ofChange fnCsvFindsTheOneAtAnyCutSpec)

/-- ITS FALSE NEIGHBOUR: 'it returns false'. Refute it at one input. -/
def fnCsvFindsTheOneAtAnyCutWrong : ChangeSpec := { name := "fnCsvFindsTheOneAtAnyCut", fn := fun _ => fun
  | [d1, d2, d3] => { results := [.lit (.bool false)], args := [d1, d2, d3] }
  | _ => none }
def FnCsvFindsTheOneAtAnyCutWrongFalsely : Prop := fnCsvFindsTheOneAtAnyCutRow.holds Try.pinned (OpenSpec.ofChange fnCsvFindsTheOneAtAnyCutWrong)

end Rows
end Go.Proofs.Qxb6615923a
