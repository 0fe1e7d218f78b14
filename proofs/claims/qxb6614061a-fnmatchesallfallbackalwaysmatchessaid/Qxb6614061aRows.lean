/-
  No cell of these rows narrows 'for every input' (looked for: loops, veiled, ifaces, maps, wideKeys, modest, calm, conditions, laid).
  DERIVED. THE GIVEN ROWS OF THIS SEAT. 2 by the template 'for every input the law returns true; each argument reads behind the call as it read before'; 0 by the template 'total and deterministic' (their statements: Qxb6614061aTotals.lean).
  GIVEN WITH THE SEED: the statements are not yours to turn. If you find one false, say at which input.
  Laid BY PROGRAM, IN A SANDBOX (cutbox-rows.mjs): the forced cells as the released guide's own fill.sh prints them over the translation 3ce68e2cf714f6c6… (all of the seat's roots in one cut). By AI agents, Wed Nov 11 2026. No macro, syntax, notation, axiom, sorry.
-/
import Derived.Test.Qxb6614061aChecked
import GoSem.Claim
import GoSem.ClaimJoined
import GoSem.ClaimMapViews
import Derived.JoinedTies
import Derived.KernelRfl
namespace Go.Proofs.Qxb6614061a
/- THE CELL 'sum', in the pinned program and in every row, IS THE sha256 OF THE DUMP (.gsa) THAT Qxb6614061aProg.lean LOADS. Nothing in Lean hashes anything: it is a label: what it is worth is what the hold of that sum in a sandbox is worth. -/
noncomputable def Try.pinned : Pinned := { name := "qxb6614061a", sum := "3ce68e2cf714f6c617fb30e0fc3d6fb45ed2693d99eca1a3945b975f244f1c2d", checked := Try.checked }
namespace Rows
def none {H : Type} : Left H := { results := [], args := [] }

/-- 'zzlaws_mf2_b1.FnMatchesAllFallbackAlwaysMatches': WHATEVER THE INPUT: true; the input reads as it did. -/
def fnMatchesAllFallbackAlwaysMatchesSpec : ChangeSpec := { name := "fnMatchesAllFallbackAlwaysMatches", fn := fun _ => fun
  | [d1, d2, d3] => { results := [.lit (.bool true)], args := [d1, d2, d3] }
  | _ => none }
def fnMatchesAllFallbackAlwaysMatchesRow : OpenClaim := { program := "qxb6614061a", sum := "3ce68e2cf714f6c617fb30e0fc3d6fb45ed2693d99eca1a3945b975f244f1c2d", func := "example.com/catloom/catloom/zzlaws_mf2_b1.FnMatchesAllFallbackAlwaysMatches", spec := "fnMatchesAllFallbackAlwaysMatches", apart := false }
def FnMatchesAllFallbackAlwaysMatchesSaid : Prop := fnMatchesAllFallbackAlwaysMatchesRow.holds Try.pinned (OpenSpec.ofChange fnMatchesAllFallbackAlwaysMatchesSpec)

/-- ITS FALSE NEIGHBOUR: 'it returns false'. Refute it at one input. -/
def fnMatchesAllFallbackAlwaysMatchesWrong : ChangeSpec := { name := "fnMatchesAllFallbackAlwaysMatches", fn := fun _ => fun
  | [d1, d2, d3] => { results := [.lit (.bool false)], args := [d1, d2, d3] }
  | _ => none }
def FnMatchesAllFallbackAlwaysMatchesWrongFalsely : Prop := fnMatchesAllFallbackAlwaysMatchesRow.holds Try.pinned (OpenSpec.ofChange fnMatchesAllFallbackAlwaysMatchesWrong)

/-- 'zzlaws_mf2_b1.FnParserAtSplitsAtAnyCut': WHATEVER THE INPUT: true; the input reads as it did. -/
def fnParserAtSplitsAtAnyCutSpec : ChangeSpec := { name := "fnParserAtSplitsAtAnyCut", fn := fun _ => fun
  | [d1, d2, d3, d4] => { results := [.lit (.bool true)], args := [d1, d2, d3, d4] }
  | _ => none }
def fnParserAtSplitsAtAnyCutRow : OpenClaim := { program := "qxb6614061a", sum := "3ce68e2cf714f6c617fb30e0fc3d6fb45ed2693d99eca1a3945b975f244f1c2d", func := "example.com/catloom/catloom/zzlaws_mf2_b1.FnParserAtSplitsAtAnyCut", spec := "fnParserAtSplitsAtAnyCut", apart := false }
def FnParserAtSplitsAtAnyCutSaid : Prop := fnParserAtSplitsAtAnyCutRow.holds Try.pinned (OpenSpec.ofChange fnParserAtSplitsAtAnyCutSpec)

/-- ITS FALSE NEIGHBOUR: 'it returns false'. Refute it at one input. -/
def fnParserAtSplitsAtAnyCutWrong : ChangeSpec := { name := "fnParserAtSplitsAtAnyCut", fn := fun _ => fun
  | [d1, d2, d3, d4] => { results := [.lit (.bool false)], args := [d1, d2, d3, d4] }
  | _ => none }
def FnParserAtSplitsAtAnyCutWrongFalsely : Prop := fnParserAtSplitsAtAnyCutRow.holds Try.pinned (OpenSpec.ofChange fnParserAtSplitsAtAnyCutWrong)

end Rows
end Go.Proofs.Qxb6614061a
