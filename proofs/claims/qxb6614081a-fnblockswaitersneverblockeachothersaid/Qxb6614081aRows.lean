/-
  No cell of these rows narrows 'for every input' (looked for: loops, veiled, ifaces, maps, wideKeys, modest, calm, conditions, laid).
  DERIVED. THE GIVEN ROWS OF THIS SEAT. 1 by the template 'for every input the law returns true; each argument reads behind the call as it read before'; 0 by the template 'total and deterministic' (their statements: Qxb6614081aTotals.lean).
  GIVEN WITH THE SEED: the statements are not yours to turn. If you find one false, say at which input.
  Laid BY PROGRAM, IN A SANDBOX (cutbox-rows.mjs): the forced cells as the released guide's own fill.sh prints them over the translation 7a9b772423550175… (all of the seat's roots in one cut). By AI agents, Wed Nov 11 2026. No macro, syntax, notation, axiom, sorry.
-/
import Derived.Test.Qxb6614081aChecked
import GoSem.Claim
import GoSem.ClaimJoined
import GoSem.ClaimMapViews
import Derived.JoinedTies
import Derived.KernelRfl
namespace Go.Proofs.Qxb6614081a
/- THE CELL 'sum', in the pinned program and in every row, IS THE sha256 OF THE DUMP (.gsa) THAT Qxb6614081aProg.lean LOADS. Nothing in Lean hashes anything: it is a label: what it is worth is what the hold of that sum in a sandbox is worth. -/
noncomputable def Try.pinned : Pinned := { name := "qxb6614081a", sum := "7a9b772423550175a96e96efbf01065cf90ce9f2e91a65a557b4a7b21c62ce23", checked := Try.checked }
namespace Rows
def none {H : Type} : Left H := { results := [], args := [] }

/-- 'zzlaws_lock_b1.FnBlocksWaitersNeverBlockEachOther': WHATEVER THE INPUT: true; the input reads as it did. -/
def fnBlocksWaitersNeverBlockEachOtherSpec : ChangeSpec := { name := "fnBlocksWaitersNeverBlockEachOther", fn := fun _ => fun
  | [d1, d2, d3, d4, d5, d6] => { results := [.lit (.bool true)], args := [d1, d2, d3, d4, d5, d6] }
  | _ => none }
def fnBlocksWaitersNeverBlockEachOtherRow : OpenClaim := { program := "qxb6614081a", sum := "7a9b772423550175a96e96efbf01065cf90ce9f2e91a65a557b4a7b21c62ce23", func := "example.com/chronoshard/chronoshard/zzlaws_lock_b1.FnBlocksWaitersNeverBlockEachOther", spec := "fnBlocksWaitersNeverBlockEachOther", apart := false }
def FnBlocksWaitersNeverBlockEachOtherSaid : Prop := fnBlocksWaitersNeverBlockEachOtherRow.holds Try.pinned (OpenSpec.ofChange fnBlocksWaitersNeverBlockEachOtherSpec)

/-- ITS FALSE NEIGHBOUR: 'it returns false'. Refute it at one input. -/
def fnBlocksWaitersNeverBlockEachOtherWrong : ChangeSpec := { name := "fnBlocksWaitersNeverBlockEachOther", fn := fun _ => fun
  | [d1, d2, d3, d4, d5, d6] => { results := [.lit (.bool false)], args := [d1, d2, d3, d4, d5, d6] }
  | _ => none }
def FnBlocksWaitersNeverBlockEachOtherWrongFalsely : Prop := fnBlocksWaitersNeverBlockEachOtherRow.holds Try.pinned (OpenSpec.ofChange fnBlocksWaitersNeverBlockEachOtherWrong)

end Rows
end Go.Proofs.Qxb6614081a
