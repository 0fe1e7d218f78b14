/-
  DERIVED. GIVEN WITH THE SEED: THE CARDS: each row of Qxb6614206aFmtRows.lean that lists a variable, with what it lists TIED to the program's text (the seventh form; the later family's looks); each row that meets fmt, with fmt's text TOLD by the authors' own Lean function (tested against real Go, not proved from fmt's source: count such statements apart). THE CARD IS WHAT COUNTS. Prove the row's statement (the work); the ties are given (Qxb6614206aFmtTie.lean); close each card by the builder's one call (the guide's Derived/Test/ToyasCard.lean, 'card_holds'). Laid BY PROGRAM, IN A SANDBOX (cutbox-door.mjs). By AI agents, Wed Nov 11 2026. No macro, syntax, notation, axiom, sorry.
-/
import Derived.Test.Qxb6614206aFmtRows
import GoSem.ClaimSeven
namespace Go.Proofs.Qxb6614206aFmt
namespace Rows

/-- THE TOLD CARD OF 'zzlaws_protocol_b1.FnCheckAgreesWithModel'. -/
def fnCheckAgreesWithModelCard : Claim7 := { stood := { row := fnCheckAgreesWithModelRow, standIns := [], harness := (true, "14fbc441a12bba90baac3ca7c6bc00b02c43e67f4b1c59f5a00b763c18d71f2d"), looks := false }, told := true, goes := false }
def FnCheckAgreesWithModelToldSaid : Prop := Claim7.holds Tryf.pinned (.plain (OpenSpec.ofChange fnCheckAgreesWithModelSpec)) fnCheckAgreesWithModelCard
/-- ITS FALSE NEIGHBOUR. Refute it at one input. -/
def FnCheckAgreesWithModelToldWrongFalsely : Prop := Claim7.holds Tryf.pinned (.plain (OpenSpec.ofChange fnCheckAgreesWithModelWrong)) fnCheckAgreesWithModelCard

/-- THE TOLD CARD OF 'zzlaws_protocol_b1.FnCheckReversedEdgeRefusedParallelNeutral'. -/
def fnCheckReversedEdgeRefusedParallelNeutralCard : Claim7 := { stood := { row := fnCheckReversedEdgeRefusedParallelNeutralRow, standIns := [], harness := (true, "14fbc441a12bba90baac3ca7c6bc00b02c43e67f4b1c59f5a00b763c18d71f2d"), looks := false }, told := true, goes := false }
def FnCheckReversedEdgeRefusedParallelNeutralToldSaid : Prop := Claim7.holds Tryf.pinned (.plain (OpenSpec.ofChange fnCheckReversedEdgeRefusedParallelNeutralSpec)) fnCheckReversedEdgeRefusedParallelNeutralCard
/-- ITS FALSE NEIGHBOUR. Refute it at one input. -/
def FnCheckReversedEdgeRefusedParallelNeutralToldWrongFalsely : Prop := Claim7.holds Tryf.pinned (.plain (OpenSpec.ofChange fnCheckReversedEdgeRefusedParallelNeutralWrong)) fnCheckReversedEdgeRefusedParallelNeutralCard
end Rows
end Go.Proofs.Qxb6614206aFmt
