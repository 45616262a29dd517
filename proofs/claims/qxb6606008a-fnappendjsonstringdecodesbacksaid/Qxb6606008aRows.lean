/-
  No cell of these rows narrows 'for every input' (looked for: loops, veiled, ifaces, maps, wideKeys, modest, calm, conditions, laid).
  DERIVED. THE GIVEN ROWS OF THIS SEAT. 3 by the template 'for every input the law returns true; each argument reads behind the call as it read before'; 0 by the template 'total and deterministic' (their statements: Qxb6606008aTotals.lean).
  GIVEN WITH THE SEED: the statements are not yours to turn. If you find one false, say at which input.
  Laid BY PROGRAM, IN A SANDBOX (cutbox-rows.mjs): the forced cells as the released guide's own fill.sh prints them over the translation 680919e024ad9267… (all of the seat's roots in one cut). By AI agents, Wed Nov 11 2026. No macro, syntax, notation, axiom, sorry.
-/
import Derived.Test.Qxb6606008aChecked
import GoSem.Claim
import GoSem.ClaimJoined
import GoSem.ClaimMapViews
import Derived.JoinedTies
import Derived.KernelRfl
namespace Go.Proofs.Qxb6606008a
/- THE CELL 'sum', in the pinned program and in every row, IS THE sha256 OF THE DUMP (.gsa) THAT Qxb6606008aProg.lean LOADS. Nothing in Lean hashes anything: it is a label: what it is worth is what the hold of that sum in a sandbox is worth. -/
noncomputable def Try.pinned : Pinned := { name := "qxb6606008a", sum := "680919e024ad9267e1d89b5bb81555883b788cd77aaf82c6606581b6b0fb13fb", checked := Try.checked }
namespace Rows
def none {H : Type} : Left H := { results := [], args := [] }

/-- 'zzlaws_pkg_snapshot_syntax_b1.FnMaxReplayedAffine': WHATEVER THE INPUT: true; the input reads as it did. -/
def fnMaxReplayedAffineSpec : ChangeSpec := { name := "fnMaxReplayedAffine", fn := fun _ => fun
  | [d1, d2] => { results := [.lit (.bool true)], args := [d1, d2] }
  | _ => none }
def fnMaxReplayedAffineRow : OpenClaim := { program := "qxb6606008a", sum := "680919e024ad9267e1d89b5bb81555883b788cd77aaf82c6606581b6b0fb13fb", func := "example.com/orphanwatch/orphanwatch/zzlaws_pkg_snapshot_syntax_b1.FnMaxReplayedAffine", spec := "fnMaxReplayedAffine", apart := false }
def FnMaxReplayedAffineSaid : Prop := fnMaxReplayedAffineRow.holds Try.pinned (OpenSpec.ofChange fnMaxReplayedAffineSpec)

/-- ITS FALSE NEIGHBOUR: 'it returns false'. Refute it at one input. -/
def fnMaxReplayedAffineWrong : ChangeSpec := { name := "fnMaxReplayedAffine", fn := fun _ => fun
  | [d1, d2] => { results := [.lit (.bool false)], args := [d1, d2] }
  | _ => none }
def FnMaxReplayedAffineWrongFalsely : Prop := fnMaxReplayedAffineRow.holds Try.pinned (OpenSpec.ofChange fnMaxReplayedAffineWrong)

/-- 'zzlaws_pkg_snapshot_syntax_b1.FnAppendJSONStringDecodesBack': WHATEVER THE INPUT: true; the input reads as it did. -/
def fnAppendJSONStringDecodesBackSpec : ChangeSpec := { name := "fnAppendJSONStringDecodesBack", fn := fun _ => fun
  | [d1, d2] => { results := [.lit (.bool true)], args := [d1, d2] }
  | _ => none }
def fnAppendJSONStringDecodesBackRow : OpenClaim := { program := "qxb6606008a", sum := "680919e024ad9267e1d89b5bb81555883b788cd77aaf82c6606581b6b0fb13fb", func := "example.com/orphanwatch/orphanwatch/zzlaws_pkg_snapshot_syntax_b1.FnAppendJSONStringDecodesBack", spec := "fnAppendJSONStringDecodesBack", apart := false }
def FnAppendJSONStringDecodesBackSaid : Prop := fnAppendJSONStringDecodesBackRow.holds Try.pinned (OpenSpec.ofChange fnAppendJSONStringDecodesBackSpec)

/-- ITS FALSE NEIGHBOUR: 'it returns false'. Refute it at one input. -/
def fnAppendJSONStringDecodesBackWrong : ChangeSpec := { name := "fnAppendJSONStringDecodesBack", fn := fun _ => fun
  | [d1, d2] => { results := [.lit (.bool false)], args := [d1, d2] }
  | _ => none }
def FnAppendJSONStringDecodesBackWrongFalsely : Prop := fnAppendJSONStringDecodesBackRow.holds Try.pinned (OpenSpec.ofChange fnAppendJSONStringDecodesBackWrong)

/-- 'zzlaws_pkg_snapshot_syntax_b1.FnAppendJSONStringByteWise': WHATEVER THE INPUT: true; the input reads as it did. -/
def fnAppendJSONStringByteWiseSpec : ChangeSpec := { name := "fnAppendJSONStringByteWise", fn := fun _ => fun
  | [d1, d2] => { results := [.lit (.bool true)], args := [d1, d2] }
  | _ => none }
def fnAppendJSONStringByteWiseRow : OpenClaim := { program := "qxb6606008a", sum := "680919e024ad9267e1d89b5bb81555883b788cd77aaf82c6606581b6b0fb13fb", func := "example.com/orphanwatch/orphanwatch/zzlaws_pkg_snapshot_syntax_b1.FnAppendJSONStringByteWise", spec := "fnAppendJSONStringByteWise", apart := false }
def FnAppendJSONStringByteWiseSaid : Prop := fnAppendJSONStringByteWiseRow.holds Try.pinned (OpenSpec.ofChange fnAppendJSONStringByteWiseSpec)

/-- ITS FALSE NEIGHBOUR: 'it returns false'. Refute it at one input. -/
def fnAppendJSONStringByteWiseWrong : ChangeSpec := { name := "fnAppendJSONStringByteWise", fn := fun _ => fun
  | [d1, d2] => { results := [.lit (.bool false)], args := [d1, d2] }
  | _ => none }
def FnAppendJSONStringByteWiseWrongFalsely : Prop := fnAppendJSONStringByteWiseRow.holds Try.pinned (OpenSpec.ofChange fnAppendJSONStringByteWiseWrong)

end Rows
end Go.Proofs.Qxb6606008a
