/-
  No cell of these rows narrows 'for every input' (looked for: loops, veiled, ifaces, maps, wideKeys, modest, calm, conditions, laid).
  DERIVED. THE GIVEN ROWS OF THIS SEAT. 2 by the template 'for every input the law returns true; each argument reads behind the call as it read before'; 0 by the template 'total and deterministic' (their statements: Qxb6604592aTotals.lean).
  GIVEN WITH THE SEED: the statements are not yours to turn. If you find one false, say at which input.
  Laid BY PROGRAM, IN A SANDBOX (cutbox-rows.mjs): the forced cells as the released guide's own fill.sh prints them over the translation 4c9c351aef599354… (all of the seat's roots in one cut). By AI agents, Wed Nov 11 2026. No macro, syntax, notation, axiom, sorry.
-/
import Derived.Test.Qxb6604592aChecked
import GoSem.Claim
import GoSem.ClaimJoined
import GoSem.ClaimMapViews
import Derived.JoinedTies
import Derived.KernelRfl
namespace Go.Proofs.Qxb6604592a
/- THE CELL 'sum', in the pinned program and in every row, IS THE sha256 OF THE DUMP (.gsa) THAT Qxb6604592aProg.lean LOADS. Nothing in Lean hashes anything: it is a label: what it is worth is what the hold of that sum in a sandbox is worth. -/
noncomputable def Try.pinned : Pinned := { name := "qxb6604592a", sum := "4c9c351aef599354eeb41880f00de3162399947b977b64a1c2b04fe416802cf8", checked := Try.checked }
namespace Rows
def none {H : Type} : Left H := { results := [], args := [] }

/-- 'zzlaws_scenario_b1.FnTorrentsPutKeepsLastPerPath': WHATEVER THE INPUT: true; the input reads as it did. -/
def fnTorrentsPutKeepsLastPerPathSpec : ChangeSpec := { name := "fnTorrentsPutKeepsLastPerPath", fn := fun _ => fun
  | [d] => { results := [.lit (.bool true)], args := [d] }
  | _ => none }
def fnTorrentsPutKeepsLastPerPathRow : OpenClaim := { program := "qxb6604592a", sum := "4c9c351aef599354eeb41880f00de3162399947b977b64a1c2b04fe416802cf8", func := "example.com/swarmbench/swarmbench/zzlaws_scenario_b1.FnTorrentsPutKeepsLastPerPath", spec := "fnTorrentsPutKeepsLastPerPath", inPlace := ["(*internal/sync.Mutex).Lock", "internal/race.Disable", "sync/atomic.CompareAndSwapInt32", "internal/race.Enable", "internal/race.Acquire", "(*internal/sync.Mutex).lockSlow", "internal/sync.runtime_canSpin", "internal/sync.runtime_doSpin", "internal/sync.throw", "internal/sync.runtime_nanotime", "internal/sync.runtime_SemacquireMutex", "sync/atomic.AddInt32", "(*internal/sync.Mutex).Unlock", "internal/race.ReleaseMerge", "(*internal/sync.Mutex).unlockSlow", "internal/sync.fatal", "internal/sync.runtime_Semrelease"], apart := false }
def FnTorrentsPutKeepsLastPerPathSaid : Prop := fnTorrentsPutKeepsLastPerPathRow.holds Try.pinned (OpenSpec.ofChange fnTorrentsPutKeepsLastPerPathSpec)

/-- ITS FALSE NEIGHBOUR: 'it returns false'. Refute it at one input. -/
def fnTorrentsPutKeepsLastPerPathWrong : ChangeSpec := { name := "fnTorrentsPutKeepsLastPerPath", fn := fun _ => fun
  | [d] => { results := [.lit (.bool false)], args := [d] }
  | _ => none }
def FnTorrentsPutKeepsLastPerPathWrongFalsely : Prop := fnTorrentsPutKeepsLastPerPathRow.holds Try.pinned (OpenSpec.ofChange fnTorrentsPutKeepsLastPerPathWrong)

/-- 'zzlaws_scenario_b1.FnTorrentsPutOrderFree': WHATEVER THE INPUT: true; the input reads as it did. -/
def fnTorrentsPutOrderFreeSpec : ChangeSpec := { name := "fnTorrentsPutOrderFree", fn := fun _ => fun
  | [d] => { results := [.lit (.bool true)], args := [d] }
  | _ => none }
def fnTorrentsPutOrderFreeRow : OpenClaim := { program := "qxb6604592a", sum := "4c9c351aef599354eeb41880f00de3162399947b977b64a1c2b04fe416802cf8", func := "example.com/swarmbench/swarmbench/zzlaws_scenario_b1.FnTorrentsPutOrderFree", spec := "fnTorrentsPutOrderFree", inPlace := ["(*internal/sync.Mutex).Lock", "internal/race.Disable", "sync/atomic.CompareAndSwapInt32", "internal/race.Enable", "internal/race.Acquire", "(*internal/sync.Mutex).lockSlow", "internal/sync.runtime_canSpin", "internal/sync.runtime_doSpin", "internal/sync.throw", "internal/sync.runtime_nanotime", "internal/sync.runtime_SemacquireMutex", "sync/atomic.AddInt32", "(*internal/sync.Mutex).Unlock", "internal/race.ReleaseMerge", "(*internal/sync.Mutex).unlockSlow", "internal/sync.fatal", "internal/sync.runtime_Semrelease"], apart := false }
def FnTorrentsPutOrderFreeSaid : Prop := fnTorrentsPutOrderFreeRow.holds Try.pinned (OpenSpec.ofChange fnTorrentsPutOrderFreeSpec)

/-- ITS FALSE NEIGHBOUR: 'it returns false'. Refute it at one input. -/
def fnTorrentsPutOrderFreeWrong : ChangeSpec := { name := "fnTorrentsPutOrderFree", fn := fun _ => fun
  | [d] => { results := [.lit (.bool false)], args := [d] }
  | _ => none }
def FnTorrentsPutOrderFreeWrongFalsely : Prop := fnTorrentsPutOrderFreeRow.holds Try.pinned (OpenSpec.ofChange fnTorrentsPutOrderFreeWrong)

end Rows
end Go.Proofs.Qxb6604592a
