/-
  No cell of these rows narrows 'for every input' (looked for: loops, veiled, ifaces, maps, wideKeys, modest, calm, conditions, laid).
  DERIVED. THE GIVEN ROWS OF THIS SEAT. 1 by the template 'for every input the law returns true; each argument reads behind the call as it read before'; 0 by the template 'total and deterministic' (their statements: Qxb6605919aTotals.lean).
  GIVEN WITH THE SEED: the statements are not yours to turn. If you find one false, say at which input.
  Laid BY PROGRAM, IN A SANDBOX (cutbox-rows.mjs): the forced cells as the released guide's own fill.sh prints them over the translation 32c478273cb42fbb… (all of the seat's roots in one cut). By AI agents, Wed Nov 11 2026. No macro, syntax, notation, axiom, sorry.
-/
import Derived.Test.Qxb6605919aChecked
import GoSem.Claim
import GoSem.ClaimJoined
import GoSem.ClaimMapViews
import Derived.JoinedTies
import Derived.KernelRfl
namespace Go.Proofs.Qxb6605919a
/- THE CELL 'sum', in the pinned program and in every row, IS THE sha256 OF THE DUMP (.gsa) THAT Qxb6605919aProg.lean LOADS. Nothing in Lean hashes anything: it is a label: what it is worth is what the hold of that sum in a sandbox is worth. -/
noncomputable def Try.pinned : Pinned := { name := "qxb6605919a", sum := "32c478273cb42fbb091a4e7e9317897cc48ed6671a72e526dd0395013d454ae8", checked := Try.checked }
namespace Rows
def none {H : Type} : Left H := { results := [], args := [] }

/-- 'zzlaws_root_b1.FnPartialMarkerCompletesTheMarker': WHATEVER THE INPUT: true; the input reads as it did. -/
def fnPartialMarkerCompletesTheMarkerSpec : ChangeSpec := { name := "fnPartialMarkerCompletesTheMarker", fn := fun _ => fun
  | [d1, d2] => { results := [.lit (.bool true)], args := [d1, d2] }
  | _ => none }
def fnPartialMarkerCompletesTheMarkerRow : OpenClaim := { program := "qxb6605919a", sum := "32c478273cb42fbb091a4e7e9317897cc48ed6671a72e526dd0395013d454ae8", func := "example.com/arboreal-assay/arboreal-assay/zzlaws_root_b1.FnPartialMarkerCompletesTheMarker", spec := "fnPartialMarkerCompletesTheMarker", apart := false }
def FnPartialMarkerCompletesTheMarkerSaid : Prop := fnPartialMarkerCompletesTheMarkerRow.holds Try.pinned (OpenSpec.ofChange fnPartialMarkerCompletesTheMarkerSpec)

/-- ITS FALSE NEIGHBOUR: 'it returns false'. Refute it at one input. -/
def fnPartialMarkerCompletesTheMarkerWrong : ChangeSpec := { name := "fnPartialMarkerCompletesTheMarker", fn := fun _ => fun
  | [d1, d2] => { results := [.lit (.bool false)], args := [d1, d2] }
  | _ => none }
def FnPartialMarkerCompletesTheMarkerWrongFalsely : Prop := fnPartialMarkerCompletesTheMarkerRow.holds Try.pinned (OpenSpec.ofChange fnPartialMarkerCompletesTheMarkerWrong)

end Rows
end Go.Proofs.Qxb6605919a
