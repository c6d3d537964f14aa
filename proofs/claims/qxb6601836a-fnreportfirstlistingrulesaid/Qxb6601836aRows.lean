/-
  No cell of these rows narrows 'for every input' (looked for: loops, veiled, ifaces, maps, wideKeys, modest, calm, conditions, laid).
  DERIVED. THE GIVEN ROWS OF THIS SEAT. 3 by the template 'for every input the law returns true; each argument reads behind the call as it read before'; 0 by the template 'total and deterministic' (their statements: Qxb6601836aTotals.lean).
  GIVEN WITH THE SEED: the statements are not yours to turn. If you find one false, say at which input.
  Laid BY PROGRAM, IN A SANDBOX (cutbox-rows.mjs): the forced cells as the released guide's own fill.sh prints them over the translation 29df8659969ffeaa… (all of the seat's roots in one cut). By AI agents, Wed Nov 11 2026. No macro, syntax, notation, axiom, sorry.
-/
import Derived.Test.Qxb6601836aChecked
import GoSem.Claim
import GoSem.ClaimJoined
import GoSem.ClaimMapViews
import Derived.JoinedTies
import Derived.KernelRfl
namespace Go.Proofs.Qxb6601836a
/- THE CELL 'sum', in the pinned program and in every row, IS THE sha256 OF THE DUMP (.gsa) THAT Qxb6601836aProg.lean LOADS. Nothing in Lean hashes anything: it is a label: what it is worth is what the hold of that sum in a sandbox is worth. -/
noncomputable def Try.pinned : Pinned := { name := "qxb6601836a", sum := "29df8659969ffeaa9e960a49f9c39a84ca58bfecab34967def456624dc4903ef", checked := Try.checked }
namespace Rows
def none {H : Type} : Left H := { results := [], args := [] }

/-- 'zzlaws_pkg_plan_b1.FnReportFirstListingRule': WHATEVER THE INPUT: true; the input reads as it did. -/
def fnReportFirstListingRuleSpec : ChangeSpec := { name := "fnReportFirstListingRule", fn := fun _ => fun
  | [d1, d2, d3, d4] => { results := [.lit (.bool true)], args := [d1, d2, d3, d4] }
  | _ => none }
def fnReportFirstListingRuleRow : OpenClaim := { program := "qxb6601836a", sum := "29df8659969ffeaa9e960a49f9c39a84ca58bfecab34967def456624dc4903ef", func := "example.com/vestwright/vestwright/zzlaws_pkg_plan_b1.FnReportFirstListingRule", spec := "fnReportFirstListingRule", apart := false }
def FnReportFirstListingRuleSaid : Prop := fnReportFirstListingRuleRow.holds Try.pinned (OpenSpec.ofChange fnReportFirstListingRuleSpec)

/-- ITS FALSE NEIGHBOUR: 'it returns false'. Refute it at one input. -/
def fnReportFirstListingRuleWrong : ChangeSpec := { name := "fnReportFirstListingRule", fn := fun _ => fun
  | [d1, d2, d3, d4] => { results := [.lit (.bool false)], args := [d1, d2, d3, d4] }
  | _ => none }
def FnReportFirstListingRuleWrongFalsely : Prop := fnReportFirstListingRuleRow.holds Try.pinned (OpenSpec.ofChange fnReportFirstListingRuleWrong)

/-- 'zzlaws_pkg_plan_b1.FnReportSplitsOverConcatenation': WHATEVER THE INPUT: true; the input reads as it did. -/
def fnReportSplitsOverConcatenationSpec : ChangeSpec := { name := "fnReportSplitsOverConcatenation", fn := fun _ => fun
  | [d1, d2, d3] => { results := [.lit (.bool true)], args := [d1, d2, d3] }
  | _ => none }
def fnReportSplitsOverConcatenationRow : OpenClaim := { program := "qxb6601836a", sum := "29df8659969ffeaa9e960a49f9c39a84ca58bfecab34967def456624dc4903ef", func := "example.com/vestwright/vestwright/zzlaws_pkg_plan_b1.FnReportSplitsOverConcatenation", spec := "fnReportSplitsOverConcatenation", apart := false }
def FnReportSplitsOverConcatenationSaid : Prop := fnReportSplitsOverConcatenationRow.holds Try.pinned (OpenSpec.ofChange fnReportSplitsOverConcatenationSpec)

/-- ITS FALSE NEIGHBOUR: 'it returns false'. Refute it at one input. -/
def fnReportSplitsOverConcatenationWrong : ChangeSpec := { name := "fnReportSplitsOverConcatenation", fn := fun _ => fun
  | [d1, d2, d3] => { results := [.lit (.bool false)], args := [d1, d2, d3] }
  | _ => none }
def FnReportSplitsOverConcatenationWrongFalsely : Prop := fnReportSplitsOverConcatenationRow.holds Try.pinned (OpenSpec.ofChange fnReportSplitsOverConcatenationWrong)

/-- 'zzlaws_pkg_plan_b1.FnReportIgnoresOrderOfKinds': WHATEVER THE INPUT: true; the input reads as it did. -/
def fnReportIgnoresOrderOfKindsSpec : ChangeSpec := { name := "fnReportIgnoresOrderOfKinds", fn := fun _ => fun
  | [d1, d2] => { results := [.lit (.bool true)], args := [d1, d2] }
  | _ => none }
def fnReportIgnoresOrderOfKindsRow : OpenClaim := { program := "qxb6601836a", sum := "29df8659969ffeaa9e960a49f9c39a84ca58bfecab34967def456624dc4903ef", func := "example.com/vestwright/vestwright/zzlaws_pkg_plan_b1.FnReportIgnoresOrderOfKinds", spec := "fnReportIgnoresOrderOfKinds", apart := false }
def FnReportIgnoresOrderOfKindsSaid : Prop := fnReportIgnoresOrderOfKindsRow.holds Try.pinned (OpenSpec.ofChange fnReportIgnoresOrderOfKindsSpec)

/-- ITS FALSE NEIGHBOUR: 'it returns false'. Refute it at one input. -/
def fnReportIgnoresOrderOfKindsWrong : ChangeSpec := { name := "fnReportIgnoresOrderOfKinds", fn := fun _ => fun
  | [d1, d2] => { results := [.lit (.bool false)], args := [d1, d2] }
  | _ => none }
def FnReportIgnoresOrderOfKindsWrongFalsely : Prop := fnReportIgnoresOrderOfKindsRow.holds Try.pinned (OpenSpec.ofChange fnReportIgnoresOrderOfKindsWrong)

end Rows
end Go.Proofs.Qxb6601836a
