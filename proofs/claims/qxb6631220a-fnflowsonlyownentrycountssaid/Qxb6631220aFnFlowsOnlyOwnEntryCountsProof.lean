/-
  THE PROOF OF 'Rows.FnFlowsOnlyOwnEntryCountsSaid'. The frame after the guide's skeleton for a law and its worked rows over a map that came in (MapsetInProofs); the walk is the prover's (Qxb6631220aWalks).
-/
import Derived.Test.Qxb6631220aRows
import Derived.WalkKit
import Derived.ProofKit
import Derived.OpenShut
import Derived.ShutString
import Derived.ChangeOld
import Derived.Below
import Derived.Test.Qxb6631220aWalks
namespace Go.Proofs.Qxb6631220a.fnFlowsOnlyOwnEntryCounts
open Go.ChangeShapes Go.WideShapes Go.ChangeAt Go.RowKit Go.WideElems
open Go.ChangeMaps (open_string shut_string shut_map_nil)
set_option linter.unusedVariables false

theorem own : ownKnob Try.prog.godebug = none := by kernel_rfl
theorem laidOut : laidOutB Try.prog = true := by kernel_rfl

/-- WHAT THE WALK IS TOLD OF THE MAP THAT CAME IN: what a look-up at the key gives, and its length. -/
def IsMap (w : World) (r : Option Nat) (a : ByteArray) : Prop :=
  ∃ (v : ByteArray) (ok : Bool) (n : Nat), v.size ≤ maxLen ∧ n ≤ maxLen ∧ Looks w r a v ok ∧ ∀ ty, (Builtin.len_ #[23] ty #[.map r]).run Try.prog w = .ok (.int .i64 n) w

theorem isMap_nil (w : World) (a : ByteArray) (ha : a.size ≤ maxLen) : IsMap w none a :=
  ⟨⟨#[]⟩, false, 0, Nat.zero_le _, Nat.zero_le _, ⟨Maps.look_nil true law9 Try.underlying23 (zero25 w) (key_str a ha), Maps.look_nil false law9 Try.underlying23 (zero25 w) (key_str a ha), fun _ => rfl⟩, fun ty => Maps.len_nil Try.underlying23 ty⟩
theorem isMap_own {H : Type} {w : World} {b n : Nat} {D : DataW H} (h : w.ownsMap Try.prog 9 (plainElem Try.prog 25) b n D) (hn : n ≤ maxLen) (a : ByteArray) (ha : a.size ≤ maxLen) : IsMap w (some b) a := by
  obtain ⟨v, ok, hv, _, _, L⟩ := looks_of h a ha
  exact ⟨v, ok, Maps.size D, hv, Nat.le_trans h.size_le hn, L, fun ty => h.len Try.underlying23 ty⟩

/-- THE WALK: the Go text returns true, and writes nothing that was there. -/
theorem walk (r : Option Nat) (a : ByteArray) (c : Bool) (w : World) (ha : a.size ≤ maxLen) (hr : IsMap w r a) :
    Calls Try.prog 3 #[.map r, .string a, .bool c] w fun e w' => e = .returned (.bool true) ∧ Below w.heap.size w w' := by
  obtain ⟨v, ok, n, hv, hn, L, hlen⟩ := hr
  by_cases h : 65536 < n ∨ 65536 < a.size
  · exact own_far r a c n w ha hn h hlen
  · cases ok with
    | true => exact own_yes r a v c n w (by omega) hv (by omega) L hlen
    | false => exact own_no r a v c n w (by omega) (by omega) L hlen

set_option maxRecDepth 100000 in
theorem lifted (os : Os) (started : os.Started) (H : Type) (enc : TypeId × Value → H) :
    ReturnsInHanded {} Try.checked os 3 .any (Rows.fnFlowsOnlyOwnEntryCountsSpec.pre6 enc Try.prog Try.f3 Rows.fnFlowsOnlyOwnEntryCountsRow.domain false) (Rows.fnFlowsOnlyOwnEntryCountsSpec.post enc Try.prog Try.f3 false true false false) := by
  refine returnsInHanded_of_change (C := Try.checked) own started (by kernel_rfl) Try.func3
    (ChangeSpec.witness6 (enc := enc) (C := Try.checked) false ⟨#[], #[.map none, .string ⟨#[]⟩, .bool false], []⟩ 8 (by kernel_rfl) (by kernel_rfl) (by kernel_rfl) (by kernel_rfl)) ?_
  intro W base args ds gs before hval0 hW hcnd _
  have hval : ∀ (j : Nat) t v, Try.f3.params[j]? = some t → args[j]? = some v → Value.okWide Try.prog W .any base t v := hval0
  have hW' := hW
  obtain ⟨p, q, hA0, hV, rfl, hfz, hnd⟩ := hW
  have hA : DataW.TrodAll enc Try.prog W 0 (fun _ => true) true Try.f3.params.toList args.toList ds p := hA0
  rw [Try.params3] at hA hval
  obtain ⟨v0, vs0, d0, ds0, p0, q0, hargs, rfl, rfl, h0, r0⟩ := trodAll_cons hA
  obtain ⟨v1, vs1, d1, ds1, p1, q1, rfl, rfl, rfl, h1, r1⟩ := trodAll_cons r0
  obtain ⟨v2, vs2, d2, ds2, p2, q2, rfl, rfl, rfl, h2, r2⟩ := trodAll_cons r1
  obtain ⟨rfl, rfl, rfl⟩ := trodAll_nil r2
  obtain rfl : args = #[v0, v1, v2] := by cases args; simp_all
  obtain ⟨rfl, rfl⟩ := trodVars_none hV
  obtain ⟨a, rfl, rfl, rfl, wa⟩ := open_string Try.underlying9 (hval 1 9 v1 rfl rfl) h1
  obtain ⟨c, rfl, rfl, rfl⟩ := open_bool Try.underlying4 (hval 2 4 v2 rfl rfl) h2
  obtain ⟨m0, rfl⟩ := okWide_map Try.underlying23 (hval 0 23 v0 rfl rfl)
  have k0 := h0
  have lt0 : ∀ x ∈ p0, x.block < W.heap.size := by obtain ⟨m, hm⟩ := k0; exact DataW.trod_lt m _ _ _ hm
  obtain ⟨fuel, hf⟩ := h0
  have hM : IsMap W m0 a := by
    rcases open_map Try.underlying23 hf with ⟨hcs, hx⟩ | ⟨bm, es, clock, m, rfl, hcs, hb, _, F, hx⟩
    · simp [Value.cells] at hcs
      subst hcs
      exact isMap_nil W a wa
    · simp [Value.cells] at hcs
      subst hcs
      exact isMap_own (World.ownsMap_of_fit (R := plainElem Try.prog 25) hb F (fun x _ z hz => elemAt_plainElem_string Try.underlying25 hz)) F.size a wa
  clear hA0 hval0
  refine (walk m0 a c W wa hM).mono fun e W' ⟨he, bel⟩ => ?_
  subst he
  exact ⟨_, rfl, _, _, _, [], _, [], hW', trodAll_mk1 (shut_bool Try.underlying4 _), (trodAll_cons_mk (Below.trod laidOut (by kernel_rfl) (of_decide_eq_true (by kernel_rfl)) k0 bel lt0) (trodAll_cons_mk (shut_string Try.underlying9 wa) (trodAll_cons_mk (shut_bool Try.underlying4 c) trodAll_mk0))), rfl, bel.frame _, fun h => by cases h⟩

theorem over : Rows.fnFlowsOnlyOwnEntryCountsRow.holds Try.pinned (OpenSpec.ofChange Rows.fnFlowsOnlyOwnEntryCountsSpec) :=
  OpenClaim.holds_of_wide 3 Try.f3 rfl rfl rfl rfl rfl rfl rfl ⟨rfl, rfl, rfl, rfl, rfl⟩ rfl rfl rfl rfl rfl (by kernel_rfl) Try.func3 (by kernel_rfl)
    (of_decide_eq_true (by kernel_rfl)) (by unfold Func.isWrapper; first | (rw [if_pos (by decide +kernel)]; kernel_rfl) | (rw [if_neg (by decide +kernel)]; exact ⟨rfl, rfl⟩))
    (fun os started H enc _ => lifted os started H enc)

/-- THE STATEMENT -/
theorem proved : Rows.FnFlowsOnlyOwnEntryCountsSaid := over
#print axioms proved
end Go.Proofs.Qxb6631220a.fnFlowsOnlyOwnEntryCounts
