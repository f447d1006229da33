/-
  No cell of these rows narrows 'for every input' (looked for: loops, veiled, ifaces, maps, wideKeys, modest, calm, conditions, laid).
  DERIVED. THE GIVEN ROWS OF THIS SEAT. 2 by the template 'for every input the law returns true; each argument reads behind the call as it read before'; 0 by the template 'total and deterministic' (their statements: Qxb6630759aTotals.lean).
  GIVEN WITH THE SEED: the statements are not yours to turn. If you find one false, say at which input.
  Laid BY PROGRAM, IN A SANDBOX (cutbox-rows.mjs): the forced cells as the released guide's own fill.sh prints them over the translation 511356df2970d875… (all of the seat's roots in one cut). By AI agents, Wed Nov 11 2026. No macro, syntax, notation, axiom, sorry.
-/
import Derived.Test.Qxb6630759aChecked
import GoSem.Claim
import GoSem.ClaimJoined
import GoSem.ClaimMapViews
import Derived.JoinedTies
import Derived.KernelRfl
namespace Go.Proofs.Qxb6630759a
/- THE CELL 'sum', in the pinned program and in every row, IS THE sha256 OF THE DUMP (.gsa) THAT Qxb6630759aProg.lean LOADS. Nothing in Lean hashes anything: it is a label: what it is worth is what the hold of that sum in a sandbox is worth. -/
noncomputable def Try.pinned : Pinned := { name := "qxb6630759a", sum := "511356df2970d875452fee03abcde2e2b3e49342b5d4efbfbc46a192a2260200", checked := Try.checked }
namespace Rows
def none {H : Type} : Left H := { results := [], args := [] }

/-- 'zzlaws_internal_trace_b1.FnAppsRankOfFirstAppearance': WHATEVER THE INPUT: true; the input reads as it did. -/
def fnAppsRankOfFirstAppearanceSpec : ChangeSpec := { name := "fnAppsRankOfFirstAppearance", fn := fun _ => fun
  | [d1, d2] => { results := [.lit (.bool true)], args := [d1, d2] }
  | _ => none }
def fnAppsRankOfFirstAppearanceRow : OpenClaim := { program := "qxb6630759a", sum := "511356df2970d875452fee03abcde2e2b3e49342b5d4efbfbc46a192a2260200", func := "example.com/gatepool/gatepool/zzlaws_internal_trace_b1.FnAppsRankOfFirstAppearance", spec := "fnAppsRankOfFirstAppearance", apart := false }
def FnAppsRankOfFirstAppearanceSaid : Prop := fnAppsRankOfFirstAppearanceRow.holds Try.pinned (OpenSpec.ofChange fnAppsRankOfFirstAppearanceSpec)

/-- ITS FALSE NEIGHBOUR: 'it returns false'. Refute it at one input. -/
def fnAppsRankOfFirstAppearanceWrong : ChangeSpec := { name := "fnAppsRankOfFirstAppearance", fn := fun _ => fun
  | [d1, d2] => { results := [.lit (.bool false)], args := [d1, d2] }
  | _ => none }
def FnAppsRankOfFirstAppearanceWrongFalsely : Prop := fnAppsRankOfFirstAppearanceRow.holds Try.pinned (OpenSpec.ofChange fnAppsRankOfFirstAppearanceWrong)

/-- 'zzlaws_internal_trace_b1.FnAppsPrefixAgrees': WHATEVER THE INPUT: true; the input reads as it did. -/
def fnAppsPrefixAgreesSpec : ChangeSpec := { name := "fnAppsPrefixAgrees", fn := fun _ => fun
  | [d1, d2, d3] => { results := [.lit (.bool true)], args := [d1, d2, d3] }
  | _ => none }
def fnAppsPrefixAgreesRow : OpenClaim := { program := "qxb6630759a", sum := "511356df2970d875452fee03abcde2e2b3e49342b5d4efbfbc46a192a2260200", func := "example.com/gatepool/gatepool/zzlaws_internal_trace_b1.FnAppsPrefixAgrees", spec := "fnAppsPrefixAgrees", apart := false }
def FnAppsPrefixAgreesSaid : Prop := fnAppsPrefixAgreesRow.holds Try.pinned (OpenSpec.ofChange fnAppsPrefixAgreesSpec)

/-- ITS FALSE NEIGHBOUR: 'it returns false'. Refute it at one input. -/
def fnAppsPrefixAgreesWrong : ChangeSpec := { name := "fnAppsPrefixAgrees", fn := fun _ => fun
  | [d1, d2, d3] => { results := [.lit (.bool false)], args := [d1, d2, d3] }
  | _ => none }
def FnAppsPrefixAgreesWrongFalsely : Prop := fnAppsPrefixAgreesRow.holds Try.pinned (OpenSpec.ofChange fnAppsPrefixAgreesWrong)

end Rows
end Go.Proofs.Qxb6630759a
