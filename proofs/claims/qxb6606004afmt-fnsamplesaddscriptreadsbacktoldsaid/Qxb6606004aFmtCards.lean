/-
  DERIVED. GIVEN WITH THE SEED: THE CARDS: each row of Qxb6606004aFmtRows.lean that lists a variable, with what it lists TIED to the program's text (the seventh form; the later family's looks); each row that meets fmt, with fmt's text TOLD by the authors' own Lean function (tested against real Go, not proved from fmt's source: count such statements apart). THE CARD IS WHAT COUNTS. Prove the row's statement (the work); the ties are given (Qxb6606004aFmtTie.lean); close each card by the builder's one call (the guide's Derived/Test/ToyasCard.lean, 'card_holds'). Laid BY PROGRAM, IN A SANDBOX (cutbox-door.mjs). By AI agents, Wed Nov 11 2026. No macro, syntax, notation, axiom, sorry.
-/
import Derived.Test.Qxb6606004aFmtRows
import GoSem.ClaimSeven
namespace Go.Proofs.Qxb6606004aFmt
namespace Rows

/-- THE TOLD CARD OF 'zzlaws_internal_window_b1.FnArrivalsAddCountsOneMoreAtT'. -/
def fnArrivalsAddCountsOneMoreAtTCard : Claim7 := { stood := { row := fnArrivalsAddCountsOneMoreAtTRow, standIns := [], harness := (true, "b353abdb619083bf03abb117a7fcfd169d4757ad42f91e624e0a2c796f3b3ce4"), looks := false }, told := true, goes := false }
def FnArrivalsAddCountsOneMoreAtTToldSaid : Prop := Claim7.holds Tryf.pinned (.plain (OpenSpec.ofChange fnArrivalsAddCountsOneMoreAtTSpec)) fnArrivalsAddCountsOneMoreAtTCard
/-- ITS FALSE NEIGHBOUR. Refute it at one input. -/
def FnArrivalsAddCountsOneMoreAtTToldWrongFalsely : Prop := Claim7.holds Tryf.pinned (.plain (OpenSpec.ofChange fnArrivalsAddCountsOneMoreAtTWrong)) fnArrivalsAddCountsOneMoreAtTCard

/-- THE TOLD CARD OF 'zzlaws_internal_window_b1.FnArrivalsAddScriptRecordsRunLengths'. -/
def fnArrivalsAddScriptRecordsRunLengthsCard : Claim7 := { stood := { row := fnArrivalsAddScriptRecordsRunLengthsRow, standIns := [], harness := (true, "b353abdb619083bf03abb117a7fcfd169d4757ad42f91e624e0a2c796f3b3ce4"), looks := false }, told := true, goes := false }
def FnArrivalsAddScriptRecordsRunLengthsToldSaid : Prop := Claim7.holds Tryf.pinned (.plain (OpenSpec.ofChange fnArrivalsAddScriptRecordsRunLengthsSpec)) fnArrivalsAddScriptRecordsRunLengthsCard
/-- ITS FALSE NEIGHBOUR. Refute it at one input. -/
def FnArrivalsAddScriptRecordsRunLengthsToldWrongFalsely : Prop := Claim7.holds Tryf.pinned (.plain (OpenSpec.ofChange fnArrivalsAddScriptRecordsRunLengthsWrong)) fnArrivalsAddScriptRecordsRunLengthsCard

/-- THE TOLD CARD OF 'zzlaws_internal_window_b1.FnSamplesAddScriptReadsBack'. -/
def fnSamplesAddScriptReadsBackCard : Claim7 := { stood := { row := fnSamplesAddScriptReadsBackRow, standIns := [], harness := (true, "b353abdb619083bf03abb117a7fcfd169d4757ad42f91e624e0a2c796f3b3ce4"), looks := false }, told := true, goes := false }
def FnSamplesAddScriptReadsBackToldSaid : Prop := Claim7.holds Tryf.pinned (.plain (OpenSpec.ofChange fnSamplesAddScriptReadsBackSpec)) fnSamplesAddScriptReadsBackCard
/-- ITS FALSE NEIGHBOUR. Refute it at one input. -/
def FnSamplesAddScriptReadsBackToldWrongFalsely : Prop := Claim7.holds Tryf.pinned (.plain (OpenSpec.ofChange fnSamplesAddScriptReadsBackWrong)) fnSamplesAddScriptReadsBackCard
end Rows
end Go.Proofs.Qxb6606004aFmt
