/-
  No cell of these rows narrows 'for every input' (looked for: loops, veiled, ifaces, maps, wideKeys, modest, calm, conditions, laid).
  DERIVED. THE GIVEN ROWS OF THIS SEAT. 2 by the template 'for every input the law returns true; each argument reads behind the call as it read before'; 0 by the template 'total and deterministic' (their statements: Qxb6630472aTotals.lean).
  GIVEN WITH THE SEED: the statements are not yours to turn. If you find one false, say at which input.
  Laid BY PROGRAM, IN A SANDBOX (cutbox-rows.mjs): the forced cells as the released guide's own fill.sh prints them over the translation 58b026e13ea89eb9… (all of the seat's roots in one cut). By AI agents, Wed Nov 11 2026. No macro, syntax, notation, axiom, sorry.
-/
import Derived.Test.Qxb6630472aChecked
import GoSem.Claim
import GoSem.ClaimJoined
import GoSem.ClaimMapViews
import Derived.JoinedTies
import Derived.KernelRfl
namespace Go.Proofs.Qxb6630472a
/- THE CELL 'sum', in the pinned program and in every row, IS THE sha256 OF THE DUMP (.gsa) THAT Qxb6630472aProg.lean LOADS. Nothing in Lean hashes anything: it is a label: what it is worth is what the hold of that sum in a sandbox is worth. -/
noncomputable def Try.pinned : Pinned := { name := "qxb6630472a", sum := "58b026e13ea89eb911fb83b2f35e193a6bb4986a4b5303d2966c36001dc3b805", checked := Try.checked }
namespace Rows
def none {H : Type} : Left H := { results := [], args := [] }

/-- 'zzlaws_internal_number_b1.FnDigitsIsPaddedDecimal': WHATEVER THE INPUT: true; the input reads as it did. -/
def fnDigitsIsPaddedDecimalSpec : ChangeSpec := { name := "fnDigitsIsPaddedDecimal", fn := fun _ => fun
  | [d] => { results := [.lit (.bool true)], args := [d] }
  | _ => none }
def fnDigitsIsPaddedDecimalRow : OpenClaim := { program := "qxb6630472a", sum := "58b026e13ea89eb911fb83b2f35e193a6bb4986a4b5303d2966c36001dc3b805", func := "example.com/vestwright/vestwright/zzlaws_internal_number_b1.FnDigitsIsPaddedDecimal", spec := "fnDigitsIsPaddedDecimal", apart := false }
def FnDigitsIsPaddedDecimalSaid : Prop := fnDigitsIsPaddedDecimalRow.holds Try.pinned (OpenSpec.ofChange fnDigitsIsPaddedDecimalSpec)

/-- ITS FALSE NEIGHBOUR: 'it returns false'. Refute it at one input. -/
def fnDigitsIsPaddedDecimalWrong : ChangeSpec := { name := "fnDigitsIsPaddedDecimal", fn := fun _ => fun
  | [d] => { results := [.lit (.bool false)], args := [d] }
  | _ => none }
def FnDigitsIsPaddedDecimalWrongFalsely : Prop := fnDigitsIsPaddedDecimalRow.holds Try.pinned (OpenSpec.ofChange fnDigitsIsPaddedDecimalWrong)

/-- 'zzlaws_internal_number_b1.FnDigitsConcat': WHATEVER THE INPUT: true; the input reads as it did. -/
def fnDigitsConcatSpec : ChangeSpec := { name := "fnDigitsConcat", fn := fun _ => fun
  | [d1, d2] => { results := [.lit (.bool true)], args := [d1, d2] }
  | _ => none }
def fnDigitsConcatRow : OpenClaim := { program := "qxb6630472a", sum := "58b026e13ea89eb911fb83b2f35e193a6bb4986a4b5303d2966c36001dc3b805", func := "example.com/vestwright/vestwright/zzlaws_internal_number_b1.FnDigitsConcat", spec := "fnDigitsConcat", apart := false }
def FnDigitsConcatSaid : Prop := fnDigitsConcatRow.holds Try.pinned (OpenSpec.ofChange fnDigitsConcatSpec)

/-- ITS FALSE NEIGHBOUR: 'it returns false'. Refute it at one input. -/
def fnDigitsConcatWrong : ChangeSpec := { name := "fnDigitsConcat", fn := fun _ => fun
  | [d1, d2] => { results := [.lit (.bool false)], args := [d1, d2] }
  | _ => none }
def FnDigitsConcatWrongFalsely : Prop := fnDigitsConcatRow.holds Try.pinned (OpenSpec.ofChange fnDigitsConcatWrong)

end Rows
end Go.Proofs.Qxb6630472a
