/-
  No cell of these rows narrows 'for every input' (looked for: loops, veiled, ifaces, maps, wideKeys, modest, calm, conditions, laid).
  DERIVED. THE GIVEN ROWS OF THIS SEAT. 1 by the template 'for every input the law returns true; each argument reads behind the call as it read before'; 0 by the template 'total and deterministic' (their statements: Qxb6614904aTotals.lean).
  GIVEN WITH THE SEED: the statements are not yours to turn. If you find one false, say at which input.
  Laid BY PROGRAM, IN A SANDBOX (cutbox-rows.mjs): the forced cells as the released guide's own fill.sh prints them over the translation ba73b04759b1e717… (all of the seat's roots in one cut). By AI agents, Wed Nov 11 2026. No macro, syntax, notation, axiom, sorry.
-/
import Derived.Test.Qxb6614904aChecked
import GoSem.Claim
import GoSem.ClaimJoined
import GoSem.ClaimMapViews
import Derived.JoinedTies
import Derived.KernelRfl
namespace Go.Proofs.Qxb6614904a
/- THE CELL 'sum', in the pinned program and in every row, IS THE sha256 OF THE DUMP (.gsa) THAT Qxb6614904aProg.lean LOADS. Nothing in Lean hashes anything: it is a label: what it is worth is what the hold of that sum in a sandbox is worth. -/
noncomputable def Try.pinned : Pinned := { name := "qxb6614904a", sum := "ba73b04759b1e717fcc9a4161e0c4eb6bd7c003456a8a298527e7a7c45a40a47", checked := Try.checked }
namespace Rows
def none {H : Type} : Left H := { results := [], args := [] }

/-- 'zzlaws_pkg_server_b1.FnCurrentShowsOnlyTheLastPublish': WHATEVER THE INPUT: true; the input reads as it did. -/
def fnCurrentShowsOnlyTheLastPublishSpec : ChangeSpec := { name := "fnCurrentShowsOnlyTheLastPublish", fn := fun _ => fun
  | [d1, d2, d3, d4, d5, d6] => { results := [.lit (.bool true)], args := [d1, d2, d3, d4, d5, d6] }
  | _ => none }
def fnCurrentShowsOnlyTheLastPublishRow : OpenClaim := { program := "qxb6614904a", sum := "ba73b04759b1e717fcc9a4161e0c4eb6bd7c003456a8a298527e7a7c45a40a47", func := "example.com/stratakv/stratakv/zzlaws_pkg_server_b1.FnCurrentShowsOnlyTheLastPublish", spec := "fnCurrentShowsOnlyTheLastPublish", inPlace := ["(*internal/sync.Mutex).Lock", "internal/race.Disable", "sync/atomic.CompareAndSwapInt32", "internal/race.Enable", "internal/race.Acquire", "(*internal/sync.Mutex).lockSlow", "internal/sync.runtime_canSpin", "internal/sync.runtime_doSpin", "internal/sync.throw", "internal/sync.runtime_nanotime", "internal/sync.runtime_SemacquireMutex", "sync/atomic.AddInt32", "(*internal/sync.Mutex).Unlock", "internal/race.ReleaseMerge", "(*internal/sync.Mutex).unlockSlow", "internal/sync.fatal", "internal/sync.runtime_Semrelease"], unfollowed := true, recurses := true, plainKeys := false, apart := false }
def FnCurrentShowsOnlyTheLastPublishSaid : Prop := fnCurrentShowsOnlyTheLastPublishRow.holds Try.pinned (OpenSpec.ofChange fnCurrentShowsOnlyTheLastPublishSpec)

/-- ITS FALSE NEIGHBOUR: 'it returns false'. Refute it at one input. -/
def fnCurrentShowsOnlyTheLastPublishWrong : ChangeSpec := { name := "fnCurrentShowsOnlyTheLastPublish", fn := fun _ => fun
  | [d1, d2, d3, d4, d5, d6] => { results := [.lit (.bool false)], args := [d1, d2, d3, d4, d5, d6] }
  | _ => none }
def FnCurrentShowsOnlyTheLastPublishWrongFalsely : Prop := fnCurrentShowsOnlyTheLastPublishRow.holds Try.pinned (OpenSpec.ofChange fnCurrentShowsOnlyTheLastPublishWrong)

end Rows
end Go.Proofs.Qxb6614904a
