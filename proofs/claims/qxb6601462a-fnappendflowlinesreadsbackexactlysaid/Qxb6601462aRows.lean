/-
  No cell of these rows narrows 'for every input' (looked for: loops, veiled, ifaces, maps, wideKeys, modest, calm, conditions, laid).
  DERIVED. THE GIVEN ROWS OF THIS SEAT. 2 by the template 'for every input the law returns true; each argument reads behind the call as it read before'; 0 by the template 'total and deterministic' (their statements: Qxb6601462aTotals.lean).
  GIVEN WITH THE SEED: the statements are not yours to turn. If you find one false, say at which input.
  Laid BY PROGRAM, IN A SANDBOX (cutbox-rows.mjs): the forced cells as the released guide's own fill.sh prints them over the translation 898a3c04a4803c39… (all of the seat's roots in one cut). By AI agents, Wed Nov 11 2026. No macro, syntax, notation, axiom, sorry.
-/
import Derived.Test.Qxb6601462aChecked
import GoSem.Claim
import GoSem.ClaimJoined
import GoSem.ClaimMapViews
import Derived.JoinedTies
import Derived.KernelRfl
namespace Go.Proofs.Qxb6601462a
/- THE CELL 'sum', in the pinned program and in every row, IS THE sha256 OF THE DUMP (.gsa) THAT Qxb6601462aProg.lean LOADS. Nothing in Lean hashes anything: it is a label: what it is worth is what the hold of that sum in a sandbox is worth. -/
noncomputable def Try.pinned : Pinned := { name := "qxb6601462a", sum := "898a3c04a4803c3933457fb4bd51a80aa6c38e27cca36c6289bf19aa77eb4b18", checked := Try.checked }
namespace Rows
def none {H : Type} : Left H := { results := [], args := [] }

/-- 'zzlaws_root_b1.FnAppendFlowLinesReadsBackExactly': WHATEVER THE INPUT: true; the input reads as it did. -/
def fnAppendFlowLinesReadsBackExactlySpec : ChangeSpec := { name := "fnAppendFlowLinesReadsBackExactly", fn := fun _ => fun
  | [d1, d2, d3, d4] => { results := [.lit (.bool true)], args := [d1, d2, d3, d4] }
  | _ => none }
def fnAppendFlowLinesReadsBackExactlyRow : OpenClaim := { program := "qxb6601462a", sum := "898a3c04a4803c3933457fb4bd51a80aa6c38e27cca36c6289bf19aa77eb4b18", func := "example.com/hoopoe/hoopoe/zzlaws_root_b1.FnAppendFlowLinesReadsBackExactly", spec := "fnAppendFlowLinesReadsBackExactly", apart := false }
def FnAppendFlowLinesReadsBackExactlySaid : Prop := fnAppendFlowLinesReadsBackExactlyRow.holds Try.pinned (OpenSpec.ofChange fnAppendFlowLinesReadsBackExactlySpec)

/-- ITS FALSE NEIGHBOUR: 'it returns false'. Refute it at one input. -/
def fnAppendFlowLinesReadsBackExactlyWrong : ChangeSpec := { name := "fnAppendFlowLinesReadsBackExactly", fn := fun _ => fun
  | [d1, d2, d3, d4] => { results := [.lit (.bool false)], args := [d1, d2, d3, d4] }
  | _ => none }
def FnAppendFlowLinesReadsBackExactlyWrongFalsely : Prop := fnAppendFlowLinesReadsBackExactlyRow.holds Try.pinned (OpenSpec.ofChange fnAppendFlowLinesReadsBackExactlyWrong)

/-- 'zzlaws_root_b1.FnDetectEncodingKnowsItsOwnStart': WHATEVER THE INPUT: true; the input reads as it did. -/
def fnDetectEncodingKnowsItsOwnStartSpec : ChangeSpec := { name := "fnDetectEncodingKnowsItsOwnStart", fn := fun _ => fun
  | [d1, d2, d3, d4, d5] => { results := [.lit (.bool true)], args := [d1, d2, d3, d4, d5] }
  | _ => none }
def fnDetectEncodingKnowsItsOwnStartRow : OpenClaim := { program := "qxb6601462a", sum := "898a3c04a4803c3933457fb4bd51a80aa6c38e27cca36c6289bf19aa77eb4b18", func := "example.com/hoopoe/hoopoe/zzlaws_root_b1.FnDetectEncodingKnowsItsOwnStart", spec := "fnDetectEncodingKnowsItsOwnStart", apart := false }
def FnDetectEncodingKnowsItsOwnStartSaid : Prop := fnDetectEncodingKnowsItsOwnStartRow.holds Try.pinned (OpenSpec.ofChange fnDetectEncodingKnowsItsOwnStartSpec)

/-- ITS FALSE NEIGHBOUR: 'it returns false'. Refute it at one input. -/
def fnDetectEncodingKnowsItsOwnStartWrong : ChangeSpec := { name := "fnDetectEncodingKnowsItsOwnStart", fn := fun _ => fun
  | [d1, d2, d3, d4, d5] => { results := [.lit (.bool false)], args := [d1, d2, d3, d4, d5] }
  | _ => none }
def FnDetectEncodingKnowsItsOwnStartWrongFalsely : Prop := fnDetectEncodingKnowsItsOwnStartRow.holds Try.pinned (OpenSpec.ofChange fnDetectEncodingKnowsItsOwnStartWrong)

end Rows
end Go.Proofs.Qxb6601462a
