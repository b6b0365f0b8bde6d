/-
  No cell of these rows narrows 'for every input' (looked for: loops, veiled, ifaces, maps, wideKeys, modest, calm, conditions, laid).
  DERIVED. THE GIVEN ROWS OF THIS SEAT. 1 by the template 'for every input the law returns true; each argument reads behind the call as it read before'; 0 by the template 'total and deterministic' (their statements: Qxb6616023aTotals.lean).
  GIVEN WITH THE SEED: the statements are not yours to turn. If you find one false, say at which input.
  Laid BY PROGRAM, IN A SANDBOX (cutbox-rows.mjs): the forced cells as the released guide's own fill.sh prints them over the translation 801d264c66bd2133… (all of the seat's roots in one cut). By AI agents, Wed Nov 11 2026. No macro, syntax, notation, axiom, sorry.
-/
import Derived.Test.Qxb6616023aChecked
import GoSem.Claim
import GoSem.ClaimJoined
import GoSem.ClaimMapViews
import Derived.JoinedTies
import Derived.KernelRfl
namespace Go.Proofs.Qxb6616023a
/- THE CELL 'sum', in the pinned program and in every row, IS THE sha256 OF THE DUMP (.gsa) THAT Qxb6616023aProg.lean LOADS. Nothing in Lean hashes anything: it is a label: what it is worth is what the hold of that sum in a sandbox is worth. -/
noncomputable def Try.pinned : Pinned := { name := "qxb6616023a", sum := "801d264c66bd2133e4208e30e169f0dc1846a992ee29dfcf165c924ab2fb8825", checked := Try.checked }
namespace Rows
def none {H : Type} : Left H := { results := [], args := [] }

/-- 'zzlaws_internal_cve_b1.FnInNameCasePartner': WHATEVER THE INPUT: true; the input reads as it did. -/
def fnInNameCasePartnerSpec : ChangeSpec := { name := "fnInNameCasePartner", fn := fun _ => fun
  | [d] => { results := [.lit (.bool true)], args := [d] }
  | _ => none }
def fnInNameCasePartnerRow : OpenClaim := { program := "qxb6616023a", sum := "801d264c66bd2133e4208e30e169f0dc1846a992ee29dfcf165c924ab2fb8825", func := "example.com/strict-sandbox/strict-sandbox/zzlaws_internal_cve_b1.FnInNameCasePartner", spec := "fnInNameCasePartner", apart := false }
def FnInNameCasePartnerSaid : Prop := fnInNameCasePartnerRow.holds Try.pinned (OpenSpec.ofChange fnInNameCasePartnerSpec)

/-- ITS FALSE NEIGHBOUR: 'it returns false'. Refute it at one input. -/
def fnInNameCasePartnerWrong : ChangeSpec := { name := "fnInNameCasePartner", fn := fun _ => fun
  | [d] => { results := [.lit (.bool false)], args := [d] }
  | _ => none }
def FnInNameCasePartnerWrongFalsely : Prop := fnInNameCasePartnerRow.holds Try.pinned (OpenSpec.ofChange fnInNameCasePartnerWrong)

end Rows
end Go.Proofs.Qxb6616023a
