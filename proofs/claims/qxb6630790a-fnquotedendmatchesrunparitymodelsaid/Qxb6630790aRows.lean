/-
  No cell of these rows narrows 'for every input' (looked for: loops, veiled, ifaces, maps, wideKeys, modest, calm, conditions, laid).
  DERIVED. THE GIVEN ROWS OF THIS SEAT. 2 by the template 'for every input the law returns true; each argument reads behind the call as it read before'; 0 by the template 'total and deterministic' (their statements: Qxb6630790aTotals.lean).
  GIVEN WITH THE SEED: the statements are not yours to turn. If you find one false, say at which input.
  Laid BY PROGRAM, IN A SANDBOX (cutbox-rows.mjs): the forced cells as the released guide's own fill.sh prints them over the translation 17aaf70da7845704… (all of the seat's roots in one cut). By AI agents, Wed Nov 11 2026. No macro, syntax, notation, axiom, sorry.
-/
import Derived.Test.Qxb6630790aChecked
import GoSem.Claim
import GoSem.ClaimJoined
import GoSem.ClaimMapViews
import Derived.JoinedTies
import Derived.KernelRfl
namespace Go.Proofs.Qxb6630790a
/- THE CELL 'sum', in the pinned program and in every row, IS THE sha256 OF THE DUMP (.gsa) THAT Qxb6630790aProg.lean LOADS. Nothing in Lean hashes anything: it is a label: what it is worth is what the hold of that sum in a sandbox is worth. -/
noncomputable def Try.pinned : Pinned := { name := "qxb6630790a", sum := "17aaf70da7845704c8e00b3c1fb6bbbe4ce46f95c49d4687ee714468361b25dd", checked := Try.checked }
namespace Rows
def none {H : Type} : Left H := { results := [], args := [] }

/-- 'zzlaws_root_b1.FnQuotedEndMatchesRunParityModel': WHATEVER THE INPUT: true; the input reads as it did. -/
def fnQuotedEndMatchesRunParityModelSpec : ChangeSpec := { name := "fnQuotedEndMatchesRunParityModel", fn := fun _ => fun
  | [d1, d2, d3] => { results := [.lit (.bool true)], args := [d1, d2, d3] }
  | _ => none }
def fnQuotedEndMatchesRunParityModelRow : OpenClaim := { program := "qxb6630790a", sum := "17aaf70da7845704c8e00b3c1fb6bbbe4ce46f95c49d4687ee714468361b25dd", func := "example.com/layerwright/layerwright/zzlaws_root_b1.FnQuotedEndMatchesRunParityModel", spec := "fnQuotedEndMatchesRunParityModel", apart := false }
def FnQuotedEndMatchesRunParityModelSaid : Prop := fnQuotedEndMatchesRunParityModelRow.holds Try.pinned (OpenSpec.ofChange fnQuotedEndMatchesRunParityModelSpec)

/-- ITS FALSE NEIGHBOUR: 'it returns false'. Refute it at one input. -/
def fnQuotedEndMatchesRunParityModelWrong : ChangeSpec := { name := "fnQuotedEndMatchesRunParityModel", fn := fun _ => fun
  | [d1, d2, d3] => { results := [.lit (.bool false)], args := [d1, d2, d3] }
  | _ => none }
def FnQuotedEndMatchesRunParityModelWrongFalsely : Prop := fnQuotedEndMatchesRunParityModelRow.holds Try.pinned (OpenSpec.ofChange fnQuotedEndMatchesRunParityModelWrong)

/-- 'zzlaws_root_b1.FnQuotedEndLocalToItsLiteral': WHATEVER THE INPUT: true; the input reads as it did. -/
def fnQuotedEndLocalToItsLiteralSpec : ChangeSpec := { name := "fnQuotedEndLocalToItsLiteral", fn := fun _ => fun
  | [d1, d2, d3, d4, d5] => { results := [.lit (.bool true)], args := [d1, d2, d3, d4, d5] }
  | _ => none }
def fnQuotedEndLocalToItsLiteralRow : OpenClaim := { program := "qxb6630790a", sum := "17aaf70da7845704c8e00b3c1fb6bbbe4ce46f95c49d4687ee714468361b25dd", func := "example.com/layerwright/layerwright/zzlaws_root_b1.FnQuotedEndLocalToItsLiteral", spec := "fnQuotedEndLocalToItsLiteral", apart := false }
def FnQuotedEndLocalToItsLiteralSaid : Prop := fnQuotedEndLocalToItsLiteralRow.holds Try.pinned (OpenSpec.ofChange fnQuotedEndLocalToItsLiteralSpec)

/-- ITS FALSE NEIGHBOUR: 'it returns false'. Refute it at one input. -/
def fnQuotedEndLocalToItsLiteralWrong : ChangeSpec := { name := "fnQuotedEndLocalToItsLiteral", fn := fun _ => fun
  | [d1, d2, d3, d4, d5] => { results := [.lit (.bool false)], args := [d1, d2, d3, d4, d5] }
  | _ => none }
def FnQuotedEndLocalToItsLiteralWrongFalsely : Prop := fnQuotedEndLocalToItsLiteralRow.holds Try.pinned (OpenSpec.ofChange fnQuotedEndLocalToItsLiteralWrong)

end Rows
end Go.Proofs.Qxb6630790a
