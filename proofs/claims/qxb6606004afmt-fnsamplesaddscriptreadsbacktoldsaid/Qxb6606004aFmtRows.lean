/-
  No cell of these rows narrows 'for every input' (looked for: loops, veiled, ifaces, maps, wideKeys, modest, calm, conditions, laid).
  DERIVED. THE GIVEN ROWS OF THIS SEAT. 3 by the template 'for every input the law returns true; each argument reads behind the call as it read before'; 0 by the template 'total and deterministic' (their statements: Qxb6606004aFmtTotals.lean).
  GIVEN WITH THE SEED: the statements are not yours to turn. If you find one false, say at which input.
  Laid BY PROGRAM, IN A SANDBOX (cutbox-rows.mjs): the forced cells as the released guide's own fill.sh prints them over the translation 0f63fa194fd99c5e… (all of the seat's roots in one cut). By AI agents, Wed Nov 11 2026. No macro, syntax, notation, axiom, sorry.
-/
import Derived.Test.Qxb6606004aFmtChecked
import GoSem.Claim
import GoSem.ClaimJoined
import GoSem.ClaimMapViews
import Derived.JoinedTies
import Derived.KernelRfl
namespace Go.Proofs.Qxb6606004aFmt
/- THE CELL 'sum', in the pinned program and in every row, IS THE sha256 OF THE DUMP (.gsa) THAT Qxb6606004aFmtProg.lean LOADS. Nothing in Lean hashes anything: it is a label: what it is worth is what the hold of that sum in a sandbox is worth. -/
noncomputable def Tryf.pinned : Pinned := { name := "qxb6606004afmt", sum := "0f63fa194fd99c5e07fa4644be2458f2d7c8c11bf4542c88fbffa0ff3563472b", checked := Tryf.checked }
namespace Rows
def none {H : Type} : Left H := { results := [], args := [] }

/-- 'zzlaws_internal_window_b1.FnArrivalsAddCountsOneMoreAtT': WHATEVER THE INPUT: true; the input reads as it did. -/
def fnArrivalsAddCountsOneMoreAtTSpec : ChangeSpec := { name := "fnArrivalsAddCountsOneMoreAtT", fn := fun _ => fun
  | [d1, d2, d3, d4] => { results := [.lit (.bool true)], args := [d1, d2, d3, d4] }
  | _ => none }
def fnArrivalsAddCountsOneMoreAtTRow : OpenClaim := { program := "qxb6606004afmt", sum := "0f63fa194fd99c5e07fa4644be2458f2d7c8c11bf4542c88fbffa0ff3563472b", func := "example.com/tidemark/tidemark/zzlaws_internal_window_b1.FnArrivalsAddCountsOneMoreAtT", spec := "fnArrivalsAddCountsOneMoreAtT", stops := ["fmt.Sprintf, its operands' methods called"], inPlace := ["fmt.Sprintf"], unfollowed := true, recurses := true, apart := false }
/-- NO THEOREM (fmt's text is open here; it may be false): for the released tool's asking of the row's closed facts alone. THE STATEMENT IS 'FnArrivalsAddCountsOneMoreAtTToldSaid' (Qxb6606004aFmtCards.lean). -/
def FnArrivalsAddCountsOneMoreAtTFormAsk : Prop := fnArrivalsAddCountsOneMoreAtTRow.holds Tryf.pinned (OpenSpec.ofChange fnArrivalsAddCountsOneMoreAtTSpec)

/-- ITS FALSE NEIGHBOUR: 'it returns false'. Refute it at one input. -/
def fnArrivalsAddCountsOneMoreAtTWrong : ChangeSpec := { name := "fnArrivalsAddCountsOneMoreAtT", fn := fun _ => fun
  | [d1, d2, d3, d4] => { results := [.lit (.bool false)], args := [d1, d2, d3, d4] }
  | _ => none }
def FnArrivalsAddCountsOneMoreAtTWrongFormAsk : Prop := fnArrivalsAddCountsOneMoreAtTRow.holds Tryf.pinned (OpenSpec.ofChange fnArrivalsAddCountsOneMoreAtTWrong)

/-- 'zzlaws_internal_window_b1.FnArrivalsAddScriptRecordsRunLengths': WHATEVER THE INPUT: true; the input reads as it did. -/
def fnArrivalsAddScriptRecordsRunLengthsSpec : ChangeSpec := { name := "fnArrivalsAddScriptRecordsRunLengths", fn := fun _ => fun
  | [d] => { results := [.lit (.bool true)], args := [d] }
  | _ => none }
def fnArrivalsAddScriptRecordsRunLengthsRow : OpenClaim := { program := "qxb6606004afmt", sum := "0f63fa194fd99c5e07fa4644be2458f2d7c8c11bf4542c88fbffa0ff3563472b", func := "example.com/tidemark/tidemark/zzlaws_internal_window_b1.FnArrivalsAddScriptRecordsRunLengths", spec := "fnArrivalsAddScriptRecordsRunLengths", stops := ["fmt.Sprintf, its operands' methods called"], inPlace := ["fmt.Sprintf"], unfollowed := true, recurses := true, apart := false }
/-- NO THEOREM (fmt's text is open here; it may be false): for the released tool's asking of the row's closed facts alone. THE STATEMENT IS 'FnArrivalsAddScriptRecordsRunLengthsToldSaid' (Qxb6606004aFmtCards.lean). -/
def FnArrivalsAddScriptRecordsRunLengthsFormAsk : Prop := fnArrivalsAddScriptRecordsRunLengthsRow.holds Tryf.pinned (OpenSpec.ofChange fnArrivalsAddScriptRecordsRunLengthsSpec)

/-- ITS FALSE NEIGHBOUR: 'it returns false'. Refute it at one input. -/
def fnArrivalsAddScriptRecordsRunLengthsWrong : ChangeSpec := { name := "fnArrivalsAddScriptRecordsRunLengths", fn := fun _ => fun
  | [d] => { results := [.lit (.bool false)], args := [d] }
  | _ => none }
def FnArrivalsAddScriptRecordsRunLengthsWrongFormAsk : Prop := fnArrivalsAddScriptRecordsRunLengthsRow.holds Tryf.pinned (OpenSpec.ofChange fnArrivalsAddScriptRecordsRunLengthsWrong)

/-- 'zzlaws_internal_window_b1.FnSamplesAddScriptReadsBack': WHATEVER THE INPUT: true; the input reads as it did. -/
def fnSamplesAddScriptReadsBackSpec : ChangeSpec := { name := "fnSamplesAddScriptReadsBack", fn := fun _ => fun
  | [d1, d2] => { results := [.lit (.bool true)], args := [d1, d2] }
  | _ => none }
def fnSamplesAddScriptReadsBackRow : OpenClaim := { program := "qxb6606004afmt", sum := "0f63fa194fd99c5e07fa4644be2458f2d7c8c11bf4542c88fbffa0ff3563472b", func := "example.com/tidemark/tidemark/zzlaws_internal_window_b1.FnSamplesAddScriptReadsBack", spec := "fnSamplesAddScriptReadsBack", stops := ["fmt.Sprintf, its operands' methods called"], inPlace := ["fmt.Sprintf"], unfollowed := true, recurses := true, apart := false }
/-- NO THEOREM (fmt's text is open here; it may be false): for the released tool's asking of the row's closed facts alone. THE STATEMENT IS 'FnSamplesAddScriptReadsBackToldSaid' (Qxb6606004aFmtCards.lean). -/
def FnSamplesAddScriptReadsBackFormAsk : Prop := fnSamplesAddScriptReadsBackRow.holds Tryf.pinned (OpenSpec.ofChange fnSamplesAddScriptReadsBackSpec)

/-- ITS FALSE NEIGHBOUR: 'it returns false'. Refute it at one input. -/
def fnSamplesAddScriptReadsBackWrong : ChangeSpec := { name := "fnSamplesAddScriptReadsBack", fn := fun _ => fun
  | [d1, d2] => { results := [.lit (.bool false)], args := [d1, d2] }
  | _ => none }
def FnSamplesAddScriptReadsBackWrongFormAsk : Prop := fnSamplesAddScriptReadsBackRow.holds Tryf.pinned (OpenSpec.ofChange fnSamplesAddScriptReadsBackWrong)

end Rows
end Go.Proofs.Qxb6606004aFmt
