/-
  No cell of these rows narrows 'for every input' (looked for: loops, veiled, ifaces, maps, wideKeys, modest, calm, conditions, laid).
  DERIVED. THE GIVEN ROWS OF THIS SEAT. 4 by the template 'for every input the law returns true; each argument reads behind the call as it read before'; 0 by the template 'total and deterministic' (their statements: Qxb6608763aTotals.lean).
  GIVEN WITH THE SEED: the statements are not yours to turn. If you find one false, say at which input.
  Laid BY PROGRAM, IN A SANDBOX (cutbox-rows.mjs): the forced cells as the released guide's own fill.sh prints them over the translation 8ac0ea25f84022b9… (all of the seat's roots in one cut). By AI agents, Wed Nov 11 2026. No macro, syntax, notation, axiom, sorry.
-/
import Derived.Test.Qxb6608763aChecked
import GoSem.Claim
import GoSem.ClaimJoined
import GoSem.ClaimMapViews
import Derived.JoinedTies
import Derived.KernelRfl
namespace Go.Proofs.Qxb6608763a
/- THE CELL 'sum', in the pinned program and in every row, IS THE sha256 OF THE DUMP (.gsa) THAT Qxb6608763aProg.lean LOADS. Nothing in Lean hashes anything: it is a label: what it is worth is what the hold of that sum in a sandbox is worth. -/
noncomputable def Try.pinned : Pinned := { name := "qxb6608763a", sum := "8ac0ea25f84022b9a5aa055a7de55f1c7ad5fd1a80adaf55c73456be4346ca3d", checked := Try.checked }
namespace Rows
def none {H : Type} : Left H := { results := [], args := [] }

/-- 'zzlaws_root_b1.FnShuffleReplyAppendFieldsDecodes': WHATEVER THE INPUT: true; the input reads as it did. -/
def fnShuffleReplyAppendFieldsDecodesSpec : ChangeSpec := { name := "fnShuffleReplyAppendFieldsDecodes", fn := fun _ => fun
  | [d1, d2] => { results := [.lit (.bool true)], args := [d1, d2] }
  | _ => none }
def fnShuffleReplyAppendFieldsDecodesRow : OpenClaim := { program := "qxb6608763a", sum := "8ac0ea25f84022b9a5aa055a7de55f1c7ad5fd1a80adaf55c73456be4346ca3d", func := "example.com/bramblecast/bramblecast/zzlaws_root_b1.FnShuffleReplyAppendFieldsDecodes", spec := "fnShuffleReplyAppendFieldsDecodes", unfollowed := true, recurses := true, named := ["encoding/binary.BigEndian"], apart := false }
def FnShuffleReplyAppendFieldsDecodesSaid : Prop := fnShuffleReplyAppendFieldsDecodesRow.holds Try.pinned (OpenSpec.ofChange fnShuffleReplyAppendFieldsDecodesSpec)

/-- ITS FALSE NEIGHBOUR: 'it returns false'. Refute it at one input. -/
def fnShuffleReplyAppendFieldsDecodesWrong : ChangeSpec := { name := "fnShuffleReplyAppendFieldsDecodes", fn := fun _ => fun
  | [d1, d2] => { results := [.lit (.bool false)], args := [d1, d2] }
  | _ => none }
def FnShuffleReplyAppendFieldsDecodesWrongFalsely : Prop := fnShuffleReplyAppendFieldsDecodesRow.holds Try.pinned (OpenSpec.ofChange fnShuffleReplyAppendFieldsDecodesWrong)

/-- 'zzlaws_root_b1.FnShuffleReplyAppendFieldsCut': WHATEVER THE INPUT: true; the input reads as it did. -/
def fnShuffleReplyAppendFieldsCutSpec : ChangeSpec := { name := "fnShuffleReplyAppendFieldsCut", fn := fun _ => fun
  | [d1, d2, d3] => { results := [.lit (.bool true)], args := [d1, d2, d3] }
  | _ => none }
def fnShuffleReplyAppendFieldsCutRow : OpenClaim := { program := "qxb6608763a", sum := "8ac0ea25f84022b9a5aa055a7de55f1c7ad5fd1a80adaf55c73456be4346ca3d", func := "example.com/bramblecast/bramblecast/zzlaws_root_b1.FnShuffleReplyAppendFieldsCut", spec := "fnShuffleReplyAppendFieldsCut", unfollowed := true, recurses := true, named := ["encoding/binary.BigEndian"], apart := false }
def FnShuffleReplyAppendFieldsCutSaid : Prop := fnShuffleReplyAppendFieldsCutRow.holds Try.pinned (OpenSpec.ofChange fnShuffleReplyAppendFieldsCutSpec)

/-- ITS FALSE NEIGHBOUR: 'it returns false'. Refute it at one input. -/
def fnShuffleReplyAppendFieldsCutWrong : ChangeSpec := { name := "fnShuffleReplyAppendFieldsCut", fn := fun _ => fun
  | [d1, d2, d3] => { results := [.lit (.bool false)], args := [d1, d2, d3] }
  | _ => none }
def FnShuffleReplyAppendFieldsCutWrongFalsely : Prop := fnShuffleReplyAppendFieldsCutRow.holds Try.pinned (OpenSpec.ofChange fnShuffleReplyAppendFieldsCutWrong)

/-- 'zzlaws_root_b1.FnGraftAppendFieldsDecodes': WHATEVER THE INPUT: true; the input reads as it did. -/
def fnGraftAppendFieldsDecodesSpec : ChangeSpec := { name := "fnGraftAppendFieldsDecodes", fn := fun _ => fun
  | [d1, d2, d3, d4, d5] => { results := [.lit (.bool true)], args := [d1, d2, d3, d4, d5] }
  | _ => none }
def fnGraftAppendFieldsDecodesRow : OpenClaim := { program := "qxb6608763a", sum := "8ac0ea25f84022b9a5aa055a7de55f1c7ad5fd1a80adaf55c73456be4346ca3d", func := "example.com/bramblecast/bramblecast/zzlaws_root_b1.FnGraftAppendFieldsDecodes", spec := "fnGraftAppendFieldsDecodes", named := ["encoding/binary.BigEndian"], apart := false }
def FnGraftAppendFieldsDecodesSaid : Prop := fnGraftAppendFieldsDecodesRow.holds Try.pinned (OpenSpec.ofChange fnGraftAppendFieldsDecodesSpec)

/-- ITS FALSE NEIGHBOUR: 'it returns false'. Refute it at one input. -/
def fnGraftAppendFieldsDecodesWrong : ChangeSpec := { name := "fnGraftAppendFieldsDecodes", fn := fun _ => fun
  | [d1, d2, d3, d4, d5] => { results := [.lit (.bool false)], args := [d1, d2, d3, d4, d5] }
  | _ => none }
def FnGraftAppendFieldsDecodesWrongFalsely : Prop := fnGraftAppendFieldsDecodesRow.holds Try.pinned (OpenSpec.ofChange fnGraftAppendFieldsDecodesWrong)

/-- 'zzlaws_root_b1.FnGraftAppendFieldsAgrees': WHATEVER THE INPUT: true; the input reads as it did. -/
def fnGraftAppendFieldsAgreesSpec : ChangeSpec := { name := "fnGraftAppendFieldsAgrees", fn := fun _ => fun
  | [d1, d2, d3, d4, d5] => { results := [.lit (.bool true)], args := [d1, d2, d3, d4, d5] }
  | _ => none }
def fnGraftAppendFieldsAgreesRow : OpenClaim := { program := "qxb6608763a", sum := "8ac0ea25f84022b9a5aa055a7de55f1c7ad5fd1a80adaf55c73456be4346ca3d", func := "example.com/bramblecast/bramblecast/zzlaws_root_b1.FnGraftAppendFieldsAgrees", spec := "fnGraftAppendFieldsAgrees", unfollowed := true, recurses := true, named := ["encoding/binary.BigEndian"], apart := false }
def FnGraftAppendFieldsAgreesSaid : Prop := fnGraftAppendFieldsAgreesRow.holds Try.pinned (OpenSpec.ofChange fnGraftAppendFieldsAgreesSpec)

/-- ITS FALSE NEIGHBOUR: 'it returns false'. Refute it at one input. -/
def fnGraftAppendFieldsAgreesWrong : ChangeSpec := { name := "fnGraftAppendFieldsAgrees", fn := fun _ => fun
  | [d1, d2, d3, d4, d5] => { results := [.lit (.bool false)], args := [d1, d2, d3, d4, d5] }
  | _ => none }
def FnGraftAppendFieldsAgreesWrongFalsely : Prop := fnGraftAppendFieldsAgreesRow.holds Try.pinned (OpenSpec.ofChange fnGraftAppendFieldsAgreesWrong)

end Rows
end Go.Proofs.Qxb6608763a
