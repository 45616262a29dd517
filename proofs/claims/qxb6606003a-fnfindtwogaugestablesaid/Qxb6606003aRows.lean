/-
  No cell of these rows narrows 'for every input' (looked for: loops, veiled, ifaces, maps, wideKeys, modest, calm, conditions, laid).
  DERIVED. THE GIVEN ROWS OF THIS SEAT. 1 by the template 'for every input the law returns true; each argument reads behind the call as it read before'; 0 by the template 'total and deterministic' (their statements: Qxb6606003aTotals.lean).
  GIVEN WITH THE SEED: the statements are not yours to turn. If you find one false, say at which input.
  Laid BY PROGRAM, IN A SANDBOX (cutbox-rows.mjs): the forced cells as the released guide's own fill.sh prints them over the translation 45d011833568cb38… (all of the seat's roots in one cut). By AI agents, Wed Nov 11 2026. No macro, syntax, notation, axiom, sorry.
-/
import Derived.Test.Qxb6606003aChecked
import GoSem.Claim
import GoSem.ClaimJoined
import GoSem.ClaimMapViews
import Derived.JoinedTies
import Derived.KernelRfl
namespace Go.Proofs.Qxb6606003a
/- THE CELL 'sum', in the pinned program and in every row, IS THE sha256 OF THE DUMP (.gsa) THAT Qxb6606003aProg.lean LOADS. Nothing in Lean hashes anything: it is a label: what it is worth is what the hold of that sum in a sandbox is worth. -/
noncomputable def Try.pinned : Pinned := { name := "qxb6606003a", sum := "45d011833568cb38801634a71932116f0c954fcc13969372d0ae70e26eb9c42a", checked := Try.checked }
namespace Rows
def none {H : Type} : Left H := { results := [], args := [] }

/-- 'zzlaws_gauges_b1.FnFindTwoGaugesTable': WHATEVER THE INPUT: true; the input reads as it did. -/
def fnFindTwoGaugesTableSpec : ChangeSpec := { name := "fnFindTwoGaugesTable", fn := fun _ => fun
  | [d1, d2, d3, d4, d5, d6, d7] => { results := [.lit (.bool true)], args := [d1, d2, d3, d4, d5, d6, d7] }
  | _ => none }
def fnFindTwoGaugesTableRow : OpenClaim := { program := "qxb6606003a", sum := "45d011833568cb38801634a71932116f0c954fcc13969372d0ae70e26eb9c42a", func := "example.com/tallyline/tallyline/zzlaws_gauges_b1.FnFindTwoGaugesTable", spec := "fnFindTwoGaugesTable", inPlace := ["(*sync.RWMutex).RLock", "internal/race.Read", "internal/race.Disable", "sync/atomic.AddInt32", "sync.runtime_SemacquireRWMutexR", "internal/race.Enable", "internal/race.Acquire", "(*sync.RWMutex).RUnlock", "internal/race.ReleaseMerge", "(*sync.RWMutex).rUnlockSlow", "sync.fatal", "sync.runtime_Semrelease"], apart := false }
def FnFindTwoGaugesTableSaid : Prop := fnFindTwoGaugesTableRow.holds Try.pinned (OpenSpec.ofChange fnFindTwoGaugesTableSpec)

/-- ITS FALSE NEIGHBOUR: 'it returns false'. Refute it at one input. -/
def fnFindTwoGaugesTableWrong : ChangeSpec := { name := "fnFindTwoGaugesTable", fn := fun _ => fun
  | [d1, d2, d3, d4, d5, d6, d7] => { results := [.lit (.bool false)], args := [d1, d2, d3, d4, d5, d6, d7] }
  | _ => none }
def FnFindTwoGaugesTableWrongFalsely : Prop := fnFindTwoGaugesTableRow.holds Try.pinned (OpenSpec.ofChange fnFindTwoGaugesTableWrong)

end Rows
end Go.Proofs.Qxb6606003a
