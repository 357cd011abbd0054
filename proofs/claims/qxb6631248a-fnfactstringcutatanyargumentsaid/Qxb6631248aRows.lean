/-
  NARROWER THAN 'FOR EVERY INPUT', by the rows' own cells (each row's printed sentence says how): FnFactStringCutAtAnyArgument: loops · FnFactStringWritesArgumentsAsTerms: loops.
  DERIVED. THE GIVEN ROWS OF THIS SEAT. 2 by the template 'for every input the law returns true; each argument reads behind the call as it read before'; 0 by the template 'total and deterministic' (their statements: Qxb6631248aTotals.lean).
  GIVEN WITH THE SEED: the statements are not yours to turn. If you find one false, say at which input.
  Laid BY PROGRAM, IN A SANDBOX (cutbox-rows.mjs): the forced cells as the released guide's own fill.sh prints them over the translation 69238fd0882db684… (all of the seat's roots in one cut). By AI agents, Wed Nov 11 2026. No macro, syntax, notation, axiom, sorry.
-/
import Derived.Test.Qxb6631248aChecked
import GoSem.Claim
import GoSem.ClaimJoined
import GoSem.ClaimMapViews
import Derived.JoinedTies
import Derived.KernelRfl
namespace Go.Proofs.Qxb6631248a
/- THE CELL 'sum', in the pinned program and in every row, IS THE sha256 OF THE DUMP (.gsa) THAT Qxb6631248aProg.lean LOADS. Nothing in Lean hashes anything: it is a label: what it is worth is what the hold of that sum in a sandbox is worth. -/
noncomputable def Try.pinned : Pinned := { name := "qxb6631248a", sum := "69238fd0882db68427f206031d57d9781b33ec46501b952986493cde515d5172", checked := Try.checked }
namespace Rows
def none {H : Type} : Left H := { results := [], args := [] }

/-- 'zzlaws_root_b1.FnFactStringCutAtAnyArgument': WHATEVER THE INPUT: true; the input reads as it did. -/
def fnFactStringCutAtAnyArgumentSpec : ChangeSpec := { name := "fnFactStringCutAtAnyArgument", fn := fun _ => fun
  | [d1, d2, d3, d4] => { results := [.lit (.bool true)], args := [d1, d2, d3, d4] }
  | _ => none }
def fnFactStringCutAtAnyArgumentRow : OpenClaim := { program := "qxb6631248a", sum := "69238fd0882db68427f206031d57d9781b33ec46501b952986493cde515d5172", func := "example.com/leafcutter/leafcutter/zzlaws_root_b1.FnFactStringCutAtAnyArgument", spec := "fnFactStringCutAtAnyArgument", inPlace := ["internal/abi.NoEscape"], recurses := true, loops := true, apart := false }
def FnFactStringCutAtAnyArgumentSaid : Prop := fnFactStringCutAtAnyArgumentRow.holds Try.pinned (OpenSpec.ofChange fnFactStringCutAtAnyArgumentSpec)

/-- ITS FALSE NEIGHBOUR: 'it returns false'. Refute it at one input. -/
def fnFactStringCutAtAnyArgumentWrong : ChangeSpec := { name := "fnFactStringCutAtAnyArgument", fn := fun _ => fun
  | [d1, d2, d3, d4] => { results := [.lit (.bool false)], args := [d1, d2, d3, d4] }
  | _ => none }
def FnFactStringCutAtAnyArgumentWrongFalsely : Prop := fnFactStringCutAtAnyArgumentRow.holds Try.pinned (OpenSpec.ofChange fnFactStringCutAtAnyArgumentWrong)

/-- 'zzlaws_root_b1.FnFactStringWritesArgumentsAsTerms': WHATEVER THE INPUT: true; the input reads as it did. -/
def fnFactStringWritesArgumentsAsTermsSpec : ChangeSpec := { name := "fnFactStringWritesArgumentsAsTerms", fn := fun _ => fun
  | [d1, d2, d3] => { results := [.lit (.bool true)], args := [d1, d2, d3] }
  | _ => none }
def fnFactStringWritesArgumentsAsTermsRow : OpenClaim := { program := "qxb6631248a", sum := "69238fd0882db68427f206031d57d9781b33ec46501b952986493cde515d5172", func := "example.com/leafcutter/leafcutter/zzlaws_root_b1.FnFactStringWritesArgumentsAsTerms", spec := "fnFactStringWritesArgumentsAsTerms", inPlace := ["internal/abi.NoEscape"], recurses := true, loops := true, apart := false }
def FnFactStringWritesArgumentsAsTermsSaid : Prop := fnFactStringWritesArgumentsAsTermsRow.holds Try.pinned (OpenSpec.ofChange fnFactStringWritesArgumentsAsTermsSpec)

/-- ITS FALSE NEIGHBOUR: 'it returns false'. Refute it at one input. -/
def fnFactStringWritesArgumentsAsTermsWrong : ChangeSpec := { name := "fnFactStringWritesArgumentsAsTerms", fn := fun _ => fun
  | [d1, d2, d3] => { results := [.lit (.bool false)], args := [d1, d2, d3] }
  | _ => none }
def FnFactStringWritesArgumentsAsTermsWrongFalsely : Prop := fnFactStringWritesArgumentsAsTermsRow.holds Try.pinned (OpenSpec.ofChange fnFactStringWritesArgumentsAsTermsWrong)

end Rows
end Go.Proofs.Qxb6631248a
