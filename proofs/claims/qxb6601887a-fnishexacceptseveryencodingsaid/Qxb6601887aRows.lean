/-
  No cell of these rows narrows 'for every input' (looked for: loops, veiled, ifaces, maps, wideKeys, modest, calm, conditions, laid).
  DERIVED. THE GIVEN ROWS OF THIS SEAT. 3 by the template 'for every input the law returns true; each argument reads behind the call as it read before'; 0 by the template 'total and deterministic' (their statements: Qxb6601887aTotals.lean).
  GIVEN WITH THE SEED: the statements are not yours to turn. If you find one false, say at which input.
  Laid BY PROGRAM, IN A SANDBOX (cutbox-rows.mjs): the forced cells as the released guide's own fill.sh prints them over the translation caa791f8a1bda0e2… (all of the seat's roots in one cut). By AI agents, Wed Nov 11 2026. No macro, syntax, notation, axiom, sorry.
-/
import Derived.Test.Qxb6601887aChecked
import GoSem.Claim
import GoSem.ClaimJoined
import GoSem.ClaimMapViews
import Derived.JoinedTies
import Derived.KernelRfl
namespace Go.Proofs.Qxb6601887a
/- THE CELL 'sum', in the pinned program and in every row, IS THE sha256 OF THE DUMP (.gsa) THAT Qxb6601887aProg.lean LOADS. Nothing in Lean hashes anything: it is a label: what it is worth is what the hold of that sum in a sandbox is worth. -/
noncomputable def Try.pinned : Pinned := { name := "qxb6601887a", sum := "caa791f8a1bda0e2ff73d2d903e1996a44c15ce7c94bf6cb5ee89dbe4d796061", checked := Try.checked }
namespace Rows
def none {H : Type} : Left H := { results := [], args := [] }

/-- 'zzlaws_api_b1.FnIsHexMatchesAlphabet': WHATEVER THE INPUT: true; the input reads as it did. -/
def fnIsHexMatchesAlphabetSpec : ChangeSpec := { name := "fnIsHexMatchesAlphabet", fn := fun _ => fun
  | [d] => { results := [.lit (.bool true)], args := [d] }
  | _ => none }
def fnIsHexMatchesAlphabetRow : OpenClaim := { program := "qxb6601887a", sum := "caa791f8a1bda0e2ff73d2d903e1996a44c15ce7c94bf6cb5ee89dbe4d796061", func := "example.com/callbackd/callbackd/zzlaws_api_b1.FnIsHexMatchesAlphabet", spec := "fnIsHexMatchesAlphabet", apart := false }
def FnIsHexMatchesAlphabetSaid : Prop := fnIsHexMatchesAlphabetRow.holds Try.pinned (OpenSpec.ofChange fnIsHexMatchesAlphabetSpec)

/-- ITS FALSE NEIGHBOUR: 'it returns false'. Refute it at one input. -/
def fnIsHexMatchesAlphabetWrong : ChangeSpec := { name := "fnIsHexMatchesAlphabet", fn := fun _ => fun
  | [d] => { results := [.lit (.bool false)], args := [d] }
  | _ => none }
def FnIsHexMatchesAlphabetWrongFalsely : Prop := fnIsHexMatchesAlphabetRow.holds Try.pinned (OpenSpec.ofChange fnIsHexMatchesAlphabetWrong)

/-- 'zzlaws_api_b1.FnIsHexOfConcatenation': WHATEVER THE INPUT: true; the input reads as it did. -/
def fnIsHexOfConcatenationSpec : ChangeSpec := { name := "fnIsHexOfConcatenation", fn := fun _ => fun
  | [d1, d2] => { results := [.lit (.bool true)], args := [d1, d2] }
  | _ => none }
def fnIsHexOfConcatenationRow : OpenClaim := { program := "qxb6601887a", sum := "caa791f8a1bda0e2ff73d2d903e1996a44c15ce7c94bf6cb5ee89dbe4d796061", func := "example.com/callbackd/callbackd/zzlaws_api_b1.FnIsHexOfConcatenation", spec := "fnIsHexOfConcatenation", apart := false }
def FnIsHexOfConcatenationSaid : Prop := fnIsHexOfConcatenationRow.holds Try.pinned (OpenSpec.ofChange fnIsHexOfConcatenationSpec)

/-- ITS FALSE NEIGHBOUR: 'it returns false'. Refute it at one input. -/
def fnIsHexOfConcatenationWrong : ChangeSpec := { name := "fnIsHexOfConcatenation", fn := fun _ => fun
  | [d1, d2] => { results := [.lit (.bool false)], args := [d1, d2] }
  | _ => none }
def FnIsHexOfConcatenationWrongFalsely : Prop := fnIsHexOfConcatenationRow.holds Try.pinned (OpenSpec.ofChange fnIsHexOfConcatenationWrong)

/-- 'zzlaws_api_b1.FnIsHexAcceptsEveryEncoding': WHATEVER THE INPUT: true; the input reads as it did. -/
def fnIsHexAcceptsEveryEncodingSpec : ChangeSpec := { name := "fnIsHexAcceptsEveryEncoding", fn := fun _ => fun
  | [d1, d2] => { results := [.lit (.bool true)], args := [d1, d2] }
  | _ => none }
def fnIsHexAcceptsEveryEncodingRow : OpenClaim := { program := "qxb6601887a", sum := "caa791f8a1bda0e2ff73d2d903e1996a44c15ce7c94bf6cb5ee89dbe4d796061", func := "example.com/callbackd/callbackd/zzlaws_api_b1.FnIsHexAcceptsEveryEncoding", spec := "fnIsHexAcceptsEveryEncoding", apart := false }
def FnIsHexAcceptsEveryEncodingSaid : Prop := fnIsHexAcceptsEveryEncodingRow.holds Try.pinned (OpenSpec.ofChange fnIsHexAcceptsEveryEncodingSpec)

/-- ITS FALSE NEIGHBOUR: 'it returns false'. Refute it at one input. -/
def fnIsHexAcceptsEveryEncodingWrong : ChangeSpec := { name := "fnIsHexAcceptsEveryEncoding", fn := fun _ => fun
  | [d1, d2] => { results := [.lit (.bool false)], args := [d1, d2] }
  | _ => none }
def FnIsHexAcceptsEveryEncodingWrongFalsely : Prop := fnIsHexAcceptsEveryEncodingRow.holds Try.pinned (OpenSpec.ofChange fnIsHexAcceptsEveryEncodingWrong)

end Rows
end Go.Proofs.Qxb6601887a
