/-
  No cell of these rows narrows 'for every input' (looked for: loops, veiled, ifaces, maps, wideKeys, modest, calm, conditions, laid).
  DERIVED. THE GIVEN ROWS OF THIS SEAT. 2 by the template 'for every input the law returns true; each argument reads behind the call as it read before'; 0 by the template 'total and deterministic' (their statements: Qxb6630518aFmtTotals.lean).
  GIVEN WITH THE SEED: the statements are not yours to turn. If you find one false, say at which input.
  Laid BY PROGRAM, IN A SANDBOX (cutbox-rows.mjs): the forced cells as the released guide's own fill.sh prints them over the translation 632f15379e7bd404… (all of the seat's roots in one cut). By AI agents, Wed Nov 11 2026. No macro, syntax, notation, axiom, sorry.
-/
import Derived.Test.Qxb6630518aFmtChecked
import GoSem.Claim
import GoSem.ClaimJoined
import GoSem.ClaimMapViews
import Derived.JoinedTies
import Derived.KernelRfl
namespace Go.Proofs.Qxb6630518aFmt
/- THE CELL 'sum', in the pinned program and in every row, IS THE sha256 OF THE DUMP (.gsa) THAT Qxb6630518aFmtProg.lean LOADS. Nothing in Lean hashes anything: it is a label: what it is worth is what the hold of that sum in a sandbox is worth. -/
noncomputable def Tryf.pinned : Pinned := { name := "qxb6630518afmt", sum := "632f15379e7bd4042273e5131554738820d769d665a0ec3949bac2e230fe628f", checked := Tryf.checked }
namespace Rows
def none {H : Type} : Left H := { results := [], args := [] }

/-- 'zzlaws_pkg_peerwire_b1.FnUnpackBitsExact': WHATEVER THE INPUT: true; the input reads as it did. -/
def fnUnpackBitsExactSpec : ChangeSpec := { name := "fnUnpackBitsExact", fn := fun _ => fun
  | [d1, d2] => { results := [.lit (.bool true)], args := [d1, d2] }
  | _ => none }
def fnUnpackBitsExactRow : OpenClaim := { program := "qxb6630518afmt", sum := "632f15379e7bd4042273e5131554738820d769d665a0ec3949bac2e230fe628f", func := "example.com/swarmwire/swarmwire/zzlaws_pkg_peerwire_b1.FnUnpackBitsExact", spec := "fnUnpackBitsExact", stops := ["fmt.errorf"], inPlace := ["fmt.errorf"], apart := false }
/-- NO THEOREM (fmt's text is open here; it may be false): for the released tool's asking of the row's closed facts alone. THE STATEMENT IS 'FnUnpackBitsExactToldSaid' (Qxb6630518aFmtCards.lean). -/
def FnUnpackBitsExactFormAsk : Prop := fnUnpackBitsExactRow.holds Tryf.pinned (OpenSpec.ofChange fnUnpackBitsExactSpec)

/-- ITS FALSE NEIGHBOUR: 'it returns false'. Refute it at one input. -/
def fnUnpackBitsExactWrong : ChangeSpec := { name := "fnUnpackBitsExact", fn := fun _ => fun
  | [d1, d2] => { results := [.lit (.bool false)], args := [d1, d2] }
  | _ => none }
def FnUnpackBitsExactWrongFormAsk : Prop := fnUnpackBitsExactRow.holds Tryf.pinned (OpenSpec.ofChange fnUnpackBitsExactWrong)

/-- 'zzlaws_pkg_peerwire_b1.FnUnpackBitsJoinAtAnyCut': WHATEVER THE INPUT: true; the input reads as it did. -/
def fnUnpackBitsJoinAtAnyCutSpec : ChangeSpec := { name := "fnUnpackBitsJoinAtAnyCut", fn := fun _ => fun
  | [d1, d2] => { results := [.lit (.bool true)], args := [d1, d2] }
  | _ => none }
def fnUnpackBitsJoinAtAnyCutRow : OpenClaim := { program := "qxb6630518afmt", sum := "632f15379e7bd4042273e5131554738820d769d665a0ec3949bac2e230fe628f", func := "example.com/swarmwire/swarmwire/zzlaws_pkg_peerwire_b1.FnUnpackBitsJoinAtAnyCut", spec := "fnUnpackBitsJoinAtAnyCut", stops := ["fmt.errorf"], inPlace := ["fmt.errorf"], apart := false }
/-- NO THEOREM (fmt's text is open here; it may be false): for the released tool's asking of the row's closed facts alone. THE STATEMENT IS 'FnUnpackBitsJoinAtAnyCutToldSaid' (Qxb6630518aFmtCards.lean). -/
def FnUnpackBitsJoinAtAnyCutFormAsk : Prop := fnUnpackBitsJoinAtAnyCutRow.holds Tryf.pinned (OpenSpec.ofChange fnUnpackBitsJoinAtAnyCutSpec)

/-- ITS FALSE NEIGHBOUR: 'it returns false'. Refute it at one input. -/
def fnUnpackBitsJoinAtAnyCutWrong : ChangeSpec := { name := "fnUnpackBitsJoinAtAnyCut", fn := fun _ => fun
  | [d1, d2] => { results := [.lit (.bool false)], args := [d1, d2] }
  | _ => none }
def FnUnpackBitsJoinAtAnyCutWrongFormAsk : Prop := fnUnpackBitsJoinAtAnyCutRow.holds Tryf.pinned (OpenSpec.ofChange fnUnpackBitsJoinAtAnyCutWrong)

end Rows
end Go.Proofs.Qxb6630518aFmt
