/-
  No cell of these rows narrows 'for every input' (looked for: loops, veiled, ifaces, maps, wideKeys, modest, calm, conditions, laid).
  DERIVED. THE GIVEN ROWS OF THIS SEAT. 2 by the template 'for every input the law returns true; each argument reads behind the call as it read before'; 0 by the template 'total and deterministic' (their statements: Qxb6630730aTotals.lean).
  GIVEN WITH THE SEED: the statements are not yours to turn. If you find one false, say at which input.
  Laid BY PROGRAM, IN A SANDBOX (cutbox-rows.mjs): the forced cells as the released guide's own fill.sh prints them over the translation 4cc7dfcc10496dfe… (all of the seat's roots in one cut). By AI agents, Wed Nov 11 2026. No macro, syntax, notation, axiom, sorry.
-/
import Derived.Test.Qxb6630730aChecked
import GoSem.Claim
import GoSem.ClaimJoined
import GoSem.ClaimMapViews
import Derived.JoinedTies
import Derived.KernelRfl
namespace Go.Proofs.Qxb6630730a
/- THE CELL 'sum', in the pinned program and in every row, IS THE sha256 OF THE DUMP (.gsa) THAT Qxb6630730aProg.lean LOADS. Nothing in Lean hashes anything: it is a label: what it is worth is what the hold of that sum in a sandbox is worth. -/
noncomputable def Try.pinned : Pinned := { name := "qxb6630730a", sum := "4cc7dfcc10496dfef16c17b71eaed965984210180692fe93757cef6f3d291cf7", checked := Try.checked }
namespace Rows
def none {H : Type} : Left H := { results := [], args := [] }

/-- 'zzlaws_internal_txn_b1.FnSeesSplitActive': WHATEVER THE INPUT: true; the input reads as it did. -/
def fnSeesSplitActiveSpec : ChangeSpec := { name := "fnSeesSplitActive", fn := fun _ => fun
  | [d1, d2, d3, d4, d5, d6] => { results := [.lit (.bool true)], args := [d1, d2, d3, d4, d5, d6] }
  | _ => none }
def fnSeesSplitActiveRow : OpenClaim := { program := "qxb6630730a", sum := "4cc7dfcc10496dfef16c17b71eaed965984210180692fe93757cef6f3d291cf7", func := "example.com/palimpsest/palimpsest/zzlaws_internal_txn_b1.FnSeesSplitActive", spec := "fnSeesSplitActive", apart := false }
def FnSeesSplitActiveSaid : Prop := fnSeesSplitActiveRow.holds Try.pinned (OpenSpec.ofChange fnSeesSplitActiveSpec)

/-- ITS FALSE NEIGHBOUR: 'it returns false'. Refute it at one input. -/
def fnSeesSplitActiveWrong : ChangeSpec := { name := "fnSeesSplitActive", fn := fun _ => fun
  | [d1, d2, d3, d4, d5, d6] => { results := [.lit (.bool false)], args := [d1, d2, d3, d4, d5, d6] }
  | _ => none }
def FnSeesSplitActiveWrongFalsely : Prop := fnSeesSplitActiveRow.holds Try.pinned (OpenSpec.ofChange fnSeesSplitActiveWrong)

/-- 'zzlaws_internal_txn_b1.FnSeesAfterCommit': WHATEVER THE INPUT: true; the input reads as it did. -/
def fnSeesAfterCommitSpec : ChangeSpec := { name := "fnSeesAfterCommit", fn := fun _ => fun
  | [d1, d2, d3, d4, d5, d6] => { results := [.lit (.bool true)], args := [d1, d2, d3, d4, d5, d6] }
  | _ => none }
def fnSeesAfterCommitRow : OpenClaim := { program := "qxb6630730a", sum := "4cc7dfcc10496dfef16c17b71eaed965984210180692fe93757cef6f3d291cf7", func := "example.com/palimpsest/palimpsest/zzlaws_internal_txn_b1.FnSeesAfterCommit", spec := "fnSeesAfterCommit", apart := false }
def FnSeesAfterCommitSaid : Prop := fnSeesAfterCommitRow.holds Try.pinned (OpenSpec.ofChange fnSeesAfterCommitSpec)

/-- ITS FALSE NEIGHBOUR: 'it returns false'. Refute it at one input. -/
def fnSeesAfterCommitWrong : ChangeSpec := { name := "fnSeesAfterCommit", fn := fun _ => fun
  | [d1, d2, d3, d4, d5, d6] => { results := [.lit (.bool false)], args := [d1, d2, d3, d4, d5, d6] }
  | _ => none }
def FnSeesAfterCommitWrongFalsely : Prop := fnSeesAfterCommitRow.holds Try.pinned (OpenSpec.ofChange fnSeesAfterCommitWrong)

end Rows
end Go.Proofs.Qxb6630730a
