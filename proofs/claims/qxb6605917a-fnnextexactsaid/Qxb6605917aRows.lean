/-
  No cell of these rows narrows 'for every input' (looked for: loops, veiled, ifaces, maps, wideKeys, modest, calm, conditions, laid).
  DERIVED. THE GIVEN ROWS OF THIS SEAT. 2 by the template 'for every input the law returns true; each argument reads behind the call as it read before'; 0 by the template 'total and deterministic' (their statements: Qxb6605917aTotals.lean).
  GIVEN WITH THE SEED: the statements are not yours to turn. If you find one false, say at which input.
  Laid BY PROGRAM, IN A SANDBOX (cutbox-rows.mjs): the forced cells as the released guide's own fill.sh prints them over the translation beeb7f4ca8aea348… (all of the seat's roots in one cut). By AI agents, Wed Nov 11 2026. No macro, syntax, notation, axiom, sorry.
-/
import Derived.Test.Qxb6605917aChecked
import GoSem.Claim
import GoSem.ClaimJoined
import GoSem.ClaimMapViews
import Derived.JoinedTies
import Derived.KernelRfl
namespace Go.Proofs.Qxb6605917a
/- THE CELL 'sum', in the pinned program and in every row, IS THE sha256 OF THE DUMP (.gsa) THAT Qxb6605917aProg.lean LOADS. Nothing in Lean hashes anything: it is a label: what it is worth is what the hold of that sum in a sandbox is worth. -/
noncomputable def Try.pinned : Pinned := { name := "qxb6605917a", sum := "beeb7f4ca8aea34857f3cd34f85843b53891414e4c48d33ff7269073a8274ae9", checked := Try.checked }
namespace Rows
def none {H : Type} : Left H := { results := [], args := [] }

/-- 'zzlaws_internal_feeds_b1.FnNextExact': WHATEVER THE INPUT: true; the input reads as it did. -/
def fnNextExactSpec : ChangeSpec := { name := "fnNextExact", fn := fun _ => fun
  | [d1, d2, d3, d4] => { results := [.lit (.bool true)], args := [d1, d2, d3, d4] }
  | _ => none }
def fnNextExactRow : OpenClaim := { program := "qxb6605917a", sum := "beeb7f4ca8aea34857f3cd34f85843b53891414e4c48d33ff7269073a8274ae9", func := "example.com/newsflood/newsflood/zzlaws_internal_feeds_b1.FnNextExact", spec := "fnNextExact", inPlace := ["(*internal/sync.Mutex).Lock", "internal/race.Disable", "sync/atomic.CompareAndSwapInt32", "internal/race.Enable", "internal/race.Acquire", "(*internal/sync.Mutex).lockSlow", "internal/sync.runtime_canSpin", "internal/sync.runtime_doSpin", "internal/sync.throw", "internal/sync.runtime_nanotime", "internal/sync.runtime_SemacquireMutex", "sync/atomic.AddInt32", "(*internal/sync.Mutex).Unlock", "internal/race.ReleaseMerge", "(*internal/sync.Mutex).unlockSlow", "internal/sync.fatal", "internal/sync.runtime_Semrelease"], apart := false }
def FnNextExactSaid : Prop := fnNextExactRow.holds Try.pinned (OpenSpec.ofChange fnNextExactSpec)

/-- ITS FALSE NEIGHBOUR: 'it returns false'. Refute it at one input. -/
def fnNextExactWrong : ChangeSpec := { name := "fnNextExact", fn := fun _ => fun
  | [d1, d2, d3, d4] => { results := [.lit (.bool false)], args := [d1, d2, d3, d4] }
  | _ => none }
def FnNextExactWrongFalsely : Prop := fnNextExactRow.holds Try.pinned (OpenSpec.ofChange fnNextExactWrong)

/-- 'zzlaws_internal_feeds_b1.FnNextReachable': WHATEVER THE INPUT: true; the input reads as it did. -/
def fnNextReachableSpec : ChangeSpec := { name := "fnNextReachable", fn := fun _ => fun
  | [d1, d2, d3] => { results := [.lit (.bool true)], args := [d1, d2, d3] }
  | _ => none }
def fnNextReachableRow : OpenClaim := { program := "qxb6605917a", sum := "beeb7f4ca8aea34857f3cd34f85843b53891414e4c48d33ff7269073a8274ae9", func := "example.com/newsflood/newsflood/zzlaws_internal_feeds_b1.FnNextReachable", spec := "fnNextReachable", inPlace := ["(*internal/sync.Mutex).Lock", "internal/race.Disable", "sync/atomic.CompareAndSwapInt32", "internal/race.Enable", "internal/race.Acquire", "(*internal/sync.Mutex).lockSlow", "internal/sync.runtime_canSpin", "internal/sync.runtime_doSpin", "internal/sync.throw", "internal/sync.runtime_nanotime", "internal/sync.runtime_SemacquireMutex", "sync/atomic.AddInt32", "(*internal/sync.Mutex).Unlock", "internal/race.ReleaseMerge", "(*internal/sync.Mutex).unlockSlow", "internal/sync.fatal", "internal/sync.runtime_Semrelease"], apart := false }
def FnNextReachableSaid : Prop := fnNextReachableRow.holds Try.pinned (OpenSpec.ofChange fnNextReachableSpec)

/-- ITS FALSE NEIGHBOUR: 'it returns false'. Refute it at one input. -/
def fnNextReachableWrong : ChangeSpec := { name := "fnNextReachable", fn := fun _ => fun
  | [d1, d2, d3] => { results := [.lit (.bool false)], args := [d1, d2, d3] }
  | _ => none }
def FnNextReachableWrongFalsely : Prop := fnNextReachableRow.holds Try.pinned (OpenSpec.ofChange fnNextReachableWrong)

end Rows
end Go.Proofs.Qxb6605917a
