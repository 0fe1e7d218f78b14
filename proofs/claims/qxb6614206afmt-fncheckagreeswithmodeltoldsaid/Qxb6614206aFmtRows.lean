/-
  No cell of these rows narrows 'for every input' (looked for: loops, veiled, ifaces, maps, wideKeys, modest, calm, conditions, laid).
  DERIVED. THE GIVEN ROWS OF THIS SEAT. 2 by the template 'for every input the law returns true; each argument reads behind the call as it read before'; 0 by the template 'total and deterministic' (their statements: Qxb6614206aFmtTotals.lean).
  GIVEN WITH THE SEED: the statements are not yours to turn. If you find one false, say at which input.
  Laid BY PROGRAM, IN A SANDBOX (cutbox-rows.mjs): the forced cells as the released guide's own fill.sh prints them over the translation 94ce02e665f42084… (all of the seat's roots in one cut). By AI agents, Wed Nov 11 2026. No macro, syntax, notation, axiom, sorry.
-/
import Derived.Test.Qxb6614206aFmtChecked
import GoSem.Claim
import GoSem.ClaimJoined
import GoSem.ClaimMapViews
import Derived.JoinedTies
import Derived.KernelRfl
namespace Go.Proofs.Qxb6614206aFmt
/- THE CELL 'sum', in the pinned program and in every row, IS THE sha256 OF THE DUMP (.gsa) THAT Qxb6614206aFmtProg.lean LOADS. Nothing in Lean hashes anything: it is a label: what it is worth is what the hold of that sum in a sandbox is worth. -/
noncomputable def Tryf.pinned : Pinned := { name := "qxb6614206afmt", sum := "94ce02e665f420840e996168a78f37d336809f3008397f3515dde0319ad15a66", checked := Tryf.checked }
namespace Rows
def none {H : Type} : Left H := { results := [], args := [] }

/-- 'zzlaws_protocol_b1.FnCheckAgreesWithModel': WHATEVER THE INPUT: true; the input reads as it did. -/
def fnCheckAgreesWithModelSpec : ChangeSpec := { name := "fnCheckAgreesWithModel", fn := fun _ => fun
  | [d1, d2] => { results := [.lit (.bool true)], args := [d1, d2] }
  | _ => none }
def fnCheckAgreesWithModelRow : OpenClaim := { program := "qxb6614206afmt", sum := "94ce02e665f420840e996168a78f37d336809f3008397f3515dde0319ad15a66", func := "example.com/gna/gna/zzlaws_protocol_b1.FnCheckAgreesWithModel", spec := "fnCheckAgreesWithModel", stops := ["fmt.errorf"], inPlace := ["fmt.errorf"], apart := false }
/-- NO THEOREM (fmt's text is open here; it may be false): for the released tool's asking of the row's closed facts alone. THE STATEMENT IS 'FnCheckAgreesWithModelToldSaid' (Qxb6614206aFmtCards.lean). -/
def FnCheckAgreesWithModelFormAsk : Prop := fnCheckAgreesWithModelRow.holds Tryf.pinned (OpenSpec.ofChange fnCheckAgreesWithModelSpec)

/-- ITS FALSE NEIGHBOUR: 'it returns false'. Refute it at one input. -/
def fnCheckAgreesWithModelWrong : ChangeSpec := { name := "fnCheckAgreesWithModel", fn := fun _ => fun
  | [d1, d2] => { results := [.lit (.bool false)], args := [d1, d2] }
  | _ => none }
def FnCheckAgreesWithModelWrongFormAsk : Prop := fnCheckAgreesWithModelRow.holds Tryf.pinned (OpenSpec.ofChange fnCheckAgreesWithModelWrong)

/-- 'zzlaws_protocol_b1.FnCheckReversedEdgeRefusedParallelNeutral': WHATEVER THE INPUT: true; the input reads as it did. -/
def fnCheckReversedEdgeRefusedParallelNeutralSpec : ChangeSpec := { name := "fnCheckReversedEdgeRefusedParallelNeutral", fn := fun _ => fun
  | [d1, d2, d3] => { results := [.lit (.bool true)], args := [d1, d2, d3] }
  | _ => none }
def fnCheckReversedEdgeRefusedParallelNeutralRow : OpenClaim := { program := "qxb6614206afmt", sum := "94ce02e665f420840e996168a78f37d336809f3008397f3515dde0319ad15a66", func := "example.com/gna/gna/zzlaws_protocol_b1.FnCheckReversedEdgeRefusedParallelNeutral", spec := "fnCheckReversedEdgeRefusedParallelNeutral", stops := ["fmt.errorf"], inPlace := ["fmt.errorf"], apart := false }
/-- NO THEOREM (fmt's text is open here; it may be false): for the released tool's asking of the row's closed facts alone. THE STATEMENT IS 'FnCheckReversedEdgeRefusedParallelNeutralToldSaid' (Qxb6614206aFmtCards.lean). -/
def FnCheckReversedEdgeRefusedParallelNeutralFormAsk : Prop := fnCheckReversedEdgeRefusedParallelNeutralRow.holds Tryf.pinned (OpenSpec.ofChange fnCheckReversedEdgeRefusedParallelNeutralSpec)

/-- ITS FALSE NEIGHBOUR: 'it returns false'. Refute it at one input. -/
def fnCheckReversedEdgeRefusedParallelNeutralWrong : ChangeSpec := { name := "fnCheckReversedEdgeRefusedParallelNeutral", fn := fun _ => fun
  | [d1, d2, d3] => { results := [.lit (.bool false)], args := [d1, d2, d3] }
  | _ => none }
def FnCheckReversedEdgeRefusedParallelNeutralWrongFormAsk : Prop := fnCheckReversedEdgeRefusedParallelNeutralRow.holds Tryf.pinned (OpenSpec.ofChange fnCheckReversedEdgeRefusedParallelNeutralWrong)

end Rows
end Go.Proofs.Qxb6614206aFmt
