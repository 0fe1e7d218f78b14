/-
  No cell of these rows narrows 'for every input' (looked for: loops, veiled, ifaces, maps, wideKeys, modest, calm, conditions, laid).
  DERIVED. THE GIVEN ROWS OF THIS SEAT. 2 by the template 'for every input the law returns true; each argument reads behind the call as it read before'; 0 by the template 'total and deterministic' (their statements: Qxb6614206aTotals.lean).
  GIVEN WITH THE SEED: the statements are not yours to turn. If you find one false, say at which input.
  Laid BY PROGRAM, IN A SANDBOX (cutbox-rows.mjs): the forced cells as the released guide's own fill.sh prints them over the translation 7f213cde5139a711… (all of the seat's roots in one cut). By AI agents, Wed Nov 11 2026. No macro, syntax, notation, axiom, sorry.
-/
import Derived.Test.Qxb6614206aChecked
import GoSem.Claim
import GoSem.ClaimJoined
import GoSem.ClaimMapViews
import Derived.JoinedTies
import Derived.KernelRfl
namespace Go.Proofs.Qxb6614206a
/- THE CELL 'sum', in the pinned program and in every row, IS THE sha256 OF THE DUMP (.gsa) THAT Qxb6614206aProg.lean LOADS. Nothing in Lean hashes anything: it is a label: what it is worth is what the hold of that sum in a sandbox is worth. -/
noncomputable def Try.pinned : Pinned := { name := "qxb6614206a", sum := "7f213cde5139a7118b4724ae8689dfed64e29c8646ffabcbda30625ade0f1cd6", checked := Try.checked }
namespace Rows
def none {H : Type} : Left H := { results := [], args := [] }

/-- 'zzlaws_protocol_b1.FnOutgoingInsertAnywhere': WHATEVER THE INPUT: true; the input reads as it did. -/
def fnOutgoingInsertAnywhereSpec : ChangeSpec := { name := "fnOutgoingInsertAnywhere", fn := fun _ => fun
  | [d1, d2, d3, d4, d5, d6, d7] => { results := [.lit (.bool true)], args := [d1, d2, d3, d4, d5, d6, d7] }
  | _ => none }
def fnOutgoingInsertAnywhereRow : OpenClaim := { program := "qxb6614206a", sum := "7f213cde5139a7118b4724ae8689dfed64e29c8646ffabcbda30625ade0f1cd6", func := "example.com/gna/gna/zzlaws_protocol_b1.FnOutgoingInsertAnywhere", spec := "fnOutgoingInsertAnywhere", apart := false }
def FnOutgoingInsertAnywhereSaid : Prop := fnOutgoingInsertAnywhereRow.holds Try.pinned (OpenSpec.ofChange fnOutgoingInsertAnywhereSpec)

/-- ITS FALSE NEIGHBOUR: 'it returns false'. Refute it at one input. -/
def fnOutgoingInsertAnywhereWrong : ChangeSpec := { name := "fnOutgoingInsertAnywhere", fn := fun _ => fun
  | [d1, d2, d3, d4, d5, d6, d7] => { results := [.lit (.bool false)], args := [d1, d2, d3, d4, d5, d6, d7] }
  | _ => none }
def FnOutgoingInsertAnywhereWrongFalsely : Prop := fnOutgoingInsertAnywhereRow.holds Try.pinned (OpenSpec.ofChange fnOutgoingInsertAnywhereWrong)

/-- 'zzlaws_protocol_b1.FnOutgoingSplitAndPlace': WHATEVER THE INPUT: true; the input reads as it did. -/
def fnOutgoingSplitAndPlaceSpec : ChangeSpec := { name := "fnOutgoingSplitAndPlace", fn := fun _ => fun
  | [d1, d2, d3, d4] => { results := [.lit (.bool true)], args := [d1, d2, d3, d4] }
  | _ => none }
def fnOutgoingSplitAndPlaceRow : OpenClaim := { program := "qxb6614206a", sum := "7f213cde5139a7118b4724ae8689dfed64e29c8646ffabcbda30625ade0f1cd6", func := "example.com/gna/gna/zzlaws_protocol_b1.FnOutgoingSplitAndPlace", spec := "fnOutgoingSplitAndPlace", apart := false }
def FnOutgoingSplitAndPlaceSaid : Prop := fnOutgoingSplitAndPlaceRow.holds Try.pinned (OpenSpec.ofChange fnOutgoingSplitAndPlaceSpec)

/-- ITS FALSE NEIGHBOUR: 'it returns false'. Refute it at one input. -/
def fnOutgoingSplitAndPlaceWrong : ChangeSpec := { name := "fnOutgoingSplitAndPlace", fn := fun _ => fun
  | [d1, d2, d3, d4] => { results := [.lit (.bool false)], args := [d1, d2, d3, d4] }
  | _ => none }
def FnOutgoingSplitAndPlaceWrongFalsely : Prop := fnOutgoingSplitAndPlaceRow.holds Try.pinned (OpenSpec.ofChange fnOutgoingSplitAndPlaceWrong)

end Rows
end Go.Proofs.Qxb6614206a
