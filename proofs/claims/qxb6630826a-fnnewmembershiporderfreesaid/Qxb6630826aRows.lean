/-
  No cell of these rows narrows 'for every input' (looked for: loops, veiled, ifaces, maps, wideKeys, modest, calm, conditions, laid).
  DERIVED. THE GIVEN ROWS OF THIS SEAT. 2 by the template 'for every input the law returns true; each argument reads behind the call as it read before'; 0 by the template 'total and deterministic' (their statements: Qxb6630826aTotals.lean).
  GIVEN WITH THE SEED: the statements are not yours to turn. If you find one false, say at which input.
  Laid BY PROGRAM, IN A SANDBOX (cutbox-rows.mjs): the forced cells as the released guide's own fill.sh prints them over the translation 204dbb5d768dd0a3… (all of the seat's roots in one cut). By AI agents, Wed Nov 11 2026. No macro, syntax, notation, axiom, sorry.
-/
import Derived.Test.Qxb6630826aChecked
import GoSem.Claim
import GoSem.ClaimJoined
import GoSem.ClaimMapViews
import Derived.JoinedTies
import Derived.KernelRfl
namespace Go.Proofs.Qxb6630826a
/- THE CELL 'sum', in the pinned program and in every row, IS THE sha256 OF THE DUMP (.gsa) THAT Qxb6630826aProg.lean LOADS. Nothing in Lean hashes anything: it is a label: what it is worth is what the hold of that sum in a sandbox is worth. -/
noncomputable def Try.pinned : Pinned := { name := "qxb6630826a", sum := "204dbb5d768dd0a39f6a59d86ca3e1b684d2546bdcc78db7b87fae1625308f68", checked := Try.checked }
namespace Rows
def none {H : Type} : Left H := { results := [], args := [] }

/-- 'zzlaws_pkg_cluster_b1.FnNewMembershipIsRankPlacement': WHATEVER THE INPUT: true; the input reads as it did. -/
def fnNewMembershipIsRankPlacementSpec : ChangeSpec := { name := "fnNewMembershipIsRankPlacement", fn := fun _ => fun
  | [d] => { results := [.lit (.bool true)], args := [d] }
  | _ => none }
def fnNewMembershipIsRankPlacementRow : OpenClaim := { program := "qxb6630826a", sum := "204dbb5d768dd0a39f6a59d86ca3e1b684d2546bdcc78db7b87fae1625308f68", func := "example.com/hardset/hardset/zzlaws_pkg_cluster_b1.FnNewMembershipIsRankPlacement", spec := "fnNewMembershipIsRankPlacement", unfollowed := true, recurses := true, apart := false }
def FnNewMembershipIsRankPlacementSaid : Prop := fnNewMembershipIsRankPlacementRow.holds Try.pinned (OpenSpec.ofChange fnNewMembershipIsRankPlacementSpec)

/-- ITS FALSE NEIGHBOUR: 'it returns false'. Refute it at one input. -/
def fnNewMembershipIsRankPlacementWrong : ChangeSpec := { name := "fnNewMembershipIsRankPlacement", fn := fun _ => fun
  | [d] => { results := [.lit (.bool false)], args := [d] }
  | _ => none }
def FnNewMembershipIsRankPlacementWrongFalsely : Prop := fnNewMembershipIsRankPlacementRow.holds Try.pinned (OpenSpec.ofChange fnNewMembershipIsRankPlacementWrong)

/-- 'zzlaws_pkg_cluster_b1.FnNewMembershipOrderFree': WHATEVER THE INPUT: true; the input reads as it did. -/
def fnNewMembershipOrderFreeSpec : ChangeSpec := { name := "fnNewMembershipOrderFree", fn := fun _ => fun
  | [d1, d2] => { results := [.lit (.bool true)], args := [d1, d2] }
  | _ => none }
def fnNewMembershipOrderFreeRow : OpenClaim := { program := "qxb6630826a", sum := "204dbb5d768dd0a39f6a59d86ca3e1b684d2546bdcc78db7b87fae1625308f68", func := "example.com/hardset/hardset/zzlaws_pkg_cluster_b1.FnNewMembershipOrderFree", spec := "fnNewMembershipOrderFree", unfollowed := true, recurses := true, apart := false }
def FnNewMembershipOrderFreeSaid : Prop := fnNewMembershipOrderFreeRow.holds Try.pinned (OpenSpec.ofChange fnNewMembershipOrderFreeSpec)

/-- ITS FALSE NEIGHBOUR: 'it returns false'. Refute it at one input. -/
def fnNewMembershipOrderFreeWrong : ChangeSpec := { name := "fnNewMembershipOrderFree", fn := fun _ => fun
  | [d1, d2] => { results := [.lit (.bool false)], args := [d1, d2] }
  | _ => none }
def FnNewMembershipOrderFreeWrongFalsely : Prop := fnNewMembershipOrderFreeRow.holds Try.pinned (OpenSpec.ofChange fnNewMembershipOrderFreeWrong)

end Rows
end Go.Proofs.Qxb6630826a
