/-
  NARROWER THAN 'FOR EVERY INPUT', by the rows' own cells (each row's printed sentence says how): FnFlowsOnlyOwnEntryCounts: maps · FnFlowsCreatingMattersExactlyForOnce: maps.
  DERIVED. THE GIVEN ROWS OF THIS SEAT. 2 by the template 'for every input the law returns true; each argument reads behind the call as it read before'; 0 by the template 'total and deterministic' (their statements: Qxb6631220aTotals.lean).
  GIVEN WITH THE SEED: the statements are not yours to turn. If you find one false, say at which input.
  Laid BY PROGRAM, IN A SANDBOX (cutbox-rows.mjs): the forced cells as the released guide's own fill.sh prints them over the translation a16a4edc3e5f287e… (all of the seat's roots in one cut). By AI agents, Wed Nov 11 2026. No macro, syntax, notation, axiom, sorry.
-/
import Derived.Test.Qxb6631220aChecked
import GoSem.Claim
import GoSem.ClaimJoined
import GoSem.ClaimMapViews
import Derived.JoinedTies
import Derived.KernelRfl
namespace Go.Proofs.Qxb6631220a
/- THE CELL 'sum', in the pinned program and in every row, IS THE sha256 OF THE DUMP (.gsa) THAT Qxb6631220aProg.lean LOADS. Nothing in Lean hashes anything: it is a label: what it is worth is what the hold of that sum in a sandbox is worth. -/
noncomputable def Try.pinned : Pinned := { name := "qxb6631220a", sum := "a16a4edc3e5f287e9595706cc6c45702bb09d3e569e25c50ddf60827f827bb3e", checked := Try.checked }
namespace Rows
def none {H : Type} : Left H := { results := [], args := [] }

/-- 'zzlaws_internal_policy_b1.FnFlowsOnlyOwnEntryCounts': WHATEVER THE INPUT: true; the input reads as it did. -/
def fnFlowsOnlyOwnEntryCountsSpec : ChangeSpec := { name := "fnFlowsOnlyOwnEntryCounts", fn := fun _ => fun
  | [d1, d2, d3] => { results := [.lit (.bool true)], args := [d1, d2, d3] }
  | _ => none }
def fnFlowsOnlyOwnEntryCountsRow : OpenClaim := { program := "qxb6631220a", sum := "a16a4edc3e5f287e9595706cc6c45702bb09d3e569e25c50ddf60827f827bb3e", func := "example.com/syncline/syncline/zzlaws_internal_policy_b1.FnFlowsOnlyOwnEntryCounts", spec := "fnFlowsOnlyOwnEntryCounts", maps := true, apart := false }
def FnFlowsOnlyOwnEntryCountsSaid : Prop := fnFlowsOnlyOwnEntryCountsRow.holds Try.pinned (OpenSpec.ofChange fnFlowsOnlyOwnEntryCountsSpec)

/-- ITS FALSE NEIGHBOUR: 'it returns false'. Refute it at one input. -/
def fnFlowsOnlyOwnEntryCountsWrong : ChangeSpec := { name := "fnFlowsOnlyOwnEntryCounts", fn := fun _ => fun
  | [d1, d2, d3] => { results := [.lit (.bool false)], args := [d1, d2, d3] }
  | _ => none }
def FnFlowsOnlyOwnEntryCountsWrongFalsely : Prop := fnFlowsOnlyOwnEntryCountsRow.holds Try.pinned (OpenSpec.ofChange fnFlowsOnlyOwnEntryCountsWrong)

/-- 'zzlaws_internal_policy_b1.FnFlowsCreatingMattersExactlyForOnce': WHATEVER THE INPUT: true; the input reads as it did. -/
def fnFlowsCreatingMattersExactlyForOnceSpec : ChangeSpec := { name := "fnFlowsCreatingMattersExactlyForOnce", fn := fun _ => fun
  | [d1, d2] => { results := [.lit (.bool true)], args := [d1, d2] }
  | _ => none }
def fnFlowsCreatingMattersExactlyForOnceRow : OpenClaim := { program := "qxb6631220a", sum := "a16a4edc3e5f287e9595706cc6c45702bb09d3e569e25c50ddf60827f827bb3e", func := "example.com/syncline/syncline/zzlaws_internal_policy_b1.FnFlowsCreatingMattersExactlyForOnce", spec := "fnFlowsCreatingMattersExactlyForOnce", maps := true, apart := false }
def FnFlowsCreatingMattersExactlyForOnceSaid : Prop := fnFlowsCreatingMattersExactlyForOnceRow.holds Try.pinned (OpenSpec.ofChange fnFlowsCreatingMattersExactlyForOnceSpec)

/-- ITS FALSE NEIGHBOUR: 'it returns false'. Refute it at one input. -/
def fnFlowsCreatingMattersExactlyForOnceWrong : ChangeSpec := { name := "fnFlowsCreatingMattersExactlyForOnce", fn := fun _ => fun
  | [d1, d2] => { results := [.lit (.bool false)], args := [d1, d2] }
  | _ => none }
def FnFlowsCreatingMattersExactlyForOnceWrongFalsely : Prop := fnFlowsCreatingMattersExactlyForOnceRow.holds Try.pinned (OpenSpec.ofChange fnFlowsCreatingMattersExactlyForOnceWrong)

end Rows
end Go.Proofs.Qxb6631220a
