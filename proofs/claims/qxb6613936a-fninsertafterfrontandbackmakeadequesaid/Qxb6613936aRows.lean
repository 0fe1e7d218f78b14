/-
  No cell of these rows narrows 'for every input' (looked for: loops, veiled, ifaces, maps, wideKeys, modest, calm, conditions, laid).
  DERIVED. THE GIVEN ROWS OF THIS SEAT. 2 by the template 'for every input the law returns true; each argument reads behind the call as it read before'; 0 by the template 'total and deterministic' (their statements: Qxb6613936aTotals.lean).
  GIVEN WITH THE SEED: the statements are not yours to turn. If you find one false, say at which input.
  Laid BY PROGRAM, IN A SANDBOX (cutbox-rows.mjs): the forced cells as the released guide's own fill.sh prints them over the translation 942ebe97a5ce2ad0… (all of the seat's roots in one cut). By AI agents, Wed Nov 11 2026. No macro, syntax, notation, axiom, sorry.
-/
import Derived.Test.Qxb6613936aChecked
import GoSem.Claim
import GoSem.ClaimJoined
import GoSem.ClaimMapViews
import Derived.JoinedTies
import Derived.KernelRfl
namespace Go.Proofs.Qxb6613936a
/- THE CELL 'sum', in the pinned program and in every row, IS THE sha256 OF THE DUMP (.gsa) THAT Qxb6613936aProg.lean LOADS. Nothing in Lean hashes anything: it is a label: what it is worth is what the hold of that sum in a sandbox is worth. -/
noncomputable def Try.pinned : Pinned := { name := "qxb6613936a", sum := "942ebe97a5ce2ad03fd8a7edf6ec2f9463e0e6703f74471652e4da1cab8ded77", checked := Try.checked }
namespace Rows
def none {H : Type} : Left H := { results := [], args := [] }

/-- 'zzlaws_root_b1.FnInsertAfterAgreesWithSliceInsert': WHATEVER THE INPUT: true; the input reads as it did. -/
def fnInsertAfterAgreesWithSliceInsertSpec : ChangeSpec := { name := "fnInsertAfterAgreesWithSliceInsert", fn := fun _ => fun
  | [d] => { results := [.lit (.bool true)], args := [d] }
  | _ => none }
def fnInsertAfterAgreesWithSliceInsertRow : OpenClaim := { program := "qxb6613936a", sum := "942ebe97a5ce2ad03fd8a7edf6ec2f9463e0e6703f74471652e4da1cab8ded77", func := "example.com/foldtx/foldtx/zzlaws_root_b1.FnInsertAfterAgreesWithSliceInsert", spec := "fnInsertAfterAgreesWithSliceInsert", apart := false }
def FnInsertAfterAgreesWithSliceInsertSaid : Prop := fnInsertAfterAgreesWithSliceInsertRow.holds Try.pinned (OpenSpec.ofChange fnInsertAfterAgreesWithSliceInsertSpec)

/-- ITS FALSE NEIGHBOUR: 'it returns false'. Refute it at one input. -/
def fnInsertAfterAgreesWithSliceInsertWrong : ChangeSpec := { name := "fnInsertAfterAgreesWithSliceInsert", fn := fun _ => fun
  | [d] => { results := [.lit (.bool false)], args := [d] }
  | _ => none }
def FnInsertAfterAgreesWithSliceInsertWrongFalsely : Prop := fnInsertAfterAgreesWithSliceInsertRow.holds Try.pinned (OpenSpec.ofChange fnInsertAfterAgreesWithSliceInsertWrong)

/-- 'zzlaws_root_b1.FnInsertAfterFrontAndBackMakeADeque': WHATEVER THE INPUT: true; the input reads as it did. -/
def fnInsertAfterFrontAndBackMakeADequeSpec : ChangeSpec := { name := "fnInsertAfterFrontAndBackMakeADeque", fn := fun _ => fun
  | [d] => { results := [.lit (.bool true)], args := [d] }
  | _ => none }
def fnInsertAfterFrontAndBackMakeADequeRow : OpenClaim := { program := "qxb6613936a", sum := "942ebe97a5ce2ad03fd8a7edf6ec2f9463e0e6703f74471652e4da1cab8ded77", func := "example.com/foldtx/foldtx/zzlaws_root_b1.FnInsertAfterFrontAndBackMakeADeque", spec := "fnInsertAfterFrontAndBackMakeADeque", apart := false }
def FnInsertAfterFrontAndBackMakeADequeSaid : Prop := fnInsertAfterFrontAndBackMakeADequeRow.holds Try.pinned (OpenSpec.ofChange fnInsertAfterFrontAndBackMakeADequeSpec)

/-- ITS FALSE NEIGHBOUR: 'it returns false'. Refute it at one input. -/
def fnInsertAfterFrontAndBackMakeADequeWrong : ChangeSpec := { name := "fnInsertAfterFrontAndBackMakeADeque", fn := fun _ => fun
  | [d] => { results := [.lit (.bool false)], args := [d] }
  | _ => none }
def FnInsertAfterFrontAndBackMakeADequeWrongFalsely : Prop := fnInsertAfterFrontAndBackMakeADequeRow.holds Try.pinned (OpenSpec.ofChange fnInsertAfterFrontAndBackMakeADequeWrong)

end Rows
end Go.Proofs.Qxb6613936a
