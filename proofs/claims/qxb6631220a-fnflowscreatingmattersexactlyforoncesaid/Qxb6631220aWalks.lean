/-
  THE WALKS OVER Modes.Of (6), Modes.Flows (5) AND THE TWO LAWS (3, 4). What a look-up in a map gives is handed to the walk as run equations.
-/
import Derived.Test.Qxb6631220aProg
import Derived.Maps.OwnSet
import Derived.Maps.StringElems
import Derived.WalkKit
import Derived.WalkSpells
namespace Go.Proofs.Qxb6631220a
open Go.RowKit Go.Maps

theorem law9 : Keyed Try.prog 9 := string_keyed Try.underlying9
theorem zero25 (w : World) : (zeroValue 25).run Try.prog w = .ok (.string ⟨#[]⟩) w := by kernel_rfl

/-- 'sync' and 'once', as bytes. -/
def sync : List UInt8 := [115, 121, 110, 99]
def once : List UInt8 := [111, 110, 99, 101]
/-- Does an attribute of this mode flow? -/
def fl (mode : List UInt8) (c : Bool) : Bool := if mode == sync then true else if mode == once then c else false

/-- IN THE WORLD w THE MAP r HOLDS, AT THE KEY a, v (ok), or nothing (v is then the empty string). -/
structure Looks (w : World) (r : Option Nat) (a v : ByteArray) (ok : Bool) : Prop where
  two : (Instr.lookup 23 (.map r) (.string a) true).run Try.prog w = .ok (.tuple #[.string v, .bool ok]) w
  one : (Instr.lookup 23 (.map r) (.string a) false).run Try.prog w = .ok (.string v) w
  nothing : ok = false → v = ⟨#[]⟩

/-- The mode of an attribute. -/
def modeOf (v : ByteArray) (ok : Bool) : List UInt8 := if ok then v.toList else sync

set_option maxHeartbeats 400000 in
theorem of_yes (r : Option Nat) (a v : ByteArray) (w : World) (h : Looks w r a v true) :
    Calls Try.prog 6 #[.map r, .string a] w fun e w' => e = .returned (.string v) ∧ w' = w := by
  have h2 := h.two
  clear h
  go_enter Try.func6, Try.ntmps6
  go_wp2
  go_ret
  exact ⟨rfl, rfl⟩
set_option maxHeartbeats 400000 in
theorem of_no (r : Option Nat) (a v : ByteArray) (w : World) (h : Looks w r a v false) :
    Calls Try.prog 6 #[.map r, .string a] w fun e w' => e = .returned (.string ⟨#[115, 121, 110, 99]⟩) ∧ w' = w := by
  have h2 := h.two
  clear h
  go_enter Try.func6, Try.ntmps6
  go_wp2
  go_ret
  exact ⟨rfl, rfl⟩

theorem ret_bool {a b : Bool} (h : a = b) : Ending.returned (.bool a) = .returned (.bool b) := by rw [h]

set_option maxHeartbeats 400000 in
theorem flows_yes (r : Option Nat) (a v : ByteArray) (c : Bool) (w : World) (h : Looks w r a v true) :
    Calls Try.prog 5 #[.map r, .string a, .bool c] w fun e w' => e = .returned (.bool (fl v.toList c)) ∧ w' = w := by
  have O : Hid (Calls Try.prog 6 #[.map r, .string a] w fun e w' => e = .returned (.string v) ∧ w' = w) := of_yes r a v w h
  clear h
  go_enter Try.func5, Try.ntmps5
  go_wp2_with (go_at_call 6; refine O.out.mono ?_; rintro e w' ⟨rfl, hw'⟩; subst w')
  · have h1 : (v.toList == [115, 121, 110, 99]) = true := by assumption
    go_ret
    exact ⟨ret_bool (by unfold fl sync; rw [if_pos h1]), rfl⟩
  · have h1 : (v.toList == [115, 121, 110, 99]) = false := by assumption
    have h2 : (v.toList == [111, 110, 99, 101]) = true := by assumption
    go_ret
    exact ⟨ret_bool (by unfold fl sync once; rw [h1, h2]; rfl), rfl⟩
  · have h1 : (v.toList == [115, 121, 110, 99]) = false := by assumption
    have h2 : (v.toList == [111, 110, 99, 101]) = false := by assumption
    go_ret
    exact ⟨ret_bool (by unfold fl sync once; rw [h1, h2]; rfl), rfl⟩
set_option maxHeartbeats 400000 in
theorem flows_no (r : Option Nat) (a v : ByteArray) (c : Bool) (w : World) (h : Looks w r a v false) :
    Calls Try.prog 5 #[.map r, .string a, .bool c] w fun e w' => e = .returned (.bool true) ∧ w' = w := by
  have O : Hid (Calls Try.prog 6 #[.map r, .string a] w fun e w' => e = .returned (.string ⟨#[115, 121, 110, 99]⟩) ∧ w' = w) := of_no r a v w h
  clear h
  go_enter Try.func5, Try.ntmps5
  go_wp2_with (go_at_call 6; refine O.out.mono ?_; rintro e w' ⟨rfl, hw'⟩; subst w')
  go_ret
  exact ⟨rfl, rfl⟩

/-! ### The maps that the laws themselves make -/
theorem plain_str (v : ByteArray) (hv : v.size ≤ maxLen) : plainElem (H := Unit) Try.prog 25 (.string v) = some (.lit (.string v.data.toList), []) := plainElem_string Try.underlying25 hv
theorem key_str (a : ByteArray) (ha : a.size ≤ maxLen) : keyOf Try.prog 9 (.string a) = some (.string a.data.toList) := by
  exact WideMaps.keyOf_string_mk Try.underlying9 ha
theorem bytes_ext {a b : ByteArray} (h : a.data.toList = b.data.toList) : a = b := by
  cases a; cases b; simp at h; rw [h]
theorem looks_of {H : Type} {w : World} {b n : Nat} {D : DataW H} (h : w.ownsMap Try.prog 9 (plainElem Try.prog 25) b n D) (a : ByteArray) (ha : a.size ≤ maxLen) :
    ∃ v ok, v.size ≤ maxLen ∧ (D.atKey (.string a.data.toList) (.lit (.string []))) = .lit (.string v.data.toList) ∧ ok = Maps.has D (.string a.data.toList) ∧ Looks w (some b) a v ok := by
  have hz : plainElem (H := H) Try.prog 25 (.string ⟨#[]⟩) = some (.lit (.string []), []) := plainElem_string Try.underlying25 (Nat.zero_le _)
  obtain ⟨v1, ps1, r1, e1⟩ := h.look_ok law9 Try.underlying23 (zero25 w) hz (key_str a ha)
  obtain ⟨s1, rfl, q1, l1⟩ := plainElem_string_inv Try.underlying25 e1
  obtain ⟨v2, ps2, r2, e2⟩ := h.lookup law9 Try.underlying23 (zero25 w) hz (key_str a ha)
  obtain ⟨s2, rfl, q2, l2⟩ := plainElem_string_inv Try.underlying25 e2
  simp only [Prod.mk.injEq] at q1 q2
  have e12 : s2 = s1 := by
    have := q2.1.symm.trans q1.1
    simp only [DataW.lit.injEq, Lit.string.injEq] at this
    exact bytes_ext this
  subst e12
  refine ⟨s2, _, l1, q1.1, rfl, r1, r2, fun hno => ?_⟩
  have := q1.1
  rw [Maps.atKey_of_not_has hno] at this
  simp only [DataW.lit.injEq, Lit.string.injEq] at this
  exact bytes_ext this.symm

/-- The empty map that the law makes: nothing is named. -/
theorem looks_made (w : World) (a : ByteArray) (ha : a.size ≤ maxLen) : Looks (w.alloc (.map #[] 0)) (some w.heap.size) a ⟨#[]⟩ false := by
  obtain ⟨v, ok, _, hv, hok, L⟩ := looks_of (World.ownsMap_made (H := Unit) w Try.prog 9 (plainElem Try.prog 25)) a ha
  have h0 : ok = false := by rw [hok]; rfl
  subst h0
  rw [L.nothing rfl] at L
  exact L

/-- The map of one entry. -/
theorem looks_put (w : World) (a v : ByteArray) (ha : a.size ≤ maxLen) (hv : v.size ≤ maxLen) :
    ∃ w2, (Instr.mapUpdate 23 (.map (some w.heap.size)) (.string a) (.string v)).run Try.prog (w.alloc (.map #[] 0)) = .ok () w2 ∧ Looks w2 (some w.heap.size) a v true ∧ Below w.heap.size w w2 ∧
      ∀ o, Looks (w2.alloc o) (some w.heap.size) a v true := by
  have h0 := World.ownsMap_made (H := Unit) w Try.prog 9 (plainElem Try.prog 25)
  obtain ⟨w2, hrun, hown, hturn⟩ := h0.store law9 Try.underlying23 (by decide) (key_str a ha) (plain_str v hv)
  have hb : Below w.heap.size w w2 := ((Below.refl _ _).alloc (Nat.le_refl _) _).grown hturn.grown (by simp) (by intro k h; cases h; exact Nat.le_refl _)
  have key : ∀ wx : World, wx.ownsMap Try.prog 9 (plainElem (H := Unit) Try.prog 25) w.heap.size (0 + 1) ((DataW.map []).put (.string a.data.toList) (.lit (.string v.data.toList))) → Looks wx (some w.heap.size) a v true := by
    intro wx hx
    obtain ⟨u, ok, _, hu, hok, L⟩ := looks_of hx a ha
    rw [Maps.atKey_put_same Maps.isMap_empty (by simp [WideAt.IsKeyLit])] at hu
    rw [Maps.has_put_same Maps.isMap_empty (by simp [WideAt.IsKeyLit])] at hok
    simp only [DataW.lit.injEq, Lit.string.injEq] at hu
    have := bytes_ext hu
    subst this; subst hok
    exact L
  exact ⟨w2, hrun, key w2 hown, hb, fun o => key _ (hown.alloc o)⟩

set_option maxHeartbeats 800000 in
theorem own_yes (r : Option Nat) (a v : ByteArray) (c : Bool) (n : Nat) (w : World) (ha : a.size ≤ 65536) (hv : v.size ≤ maxLen) (hn : n ≤ 65536) (L : Looks w r a v true) (hlen : ∀ ty, (Builtin.len_ #[23] ty #[.map r]).run Try.prog w = .ok (.int .i64 n) w) :
    Calls Try.prog 3 #[.map r, .string a, .bool c] w fun e w' => e = .returned (.bool true) ∧ Below w.heap.size w w' := by
  have hmm := @run_makeMap Try.prog
  obtain ⟨w2, hup, L2, hb, _⟩ := looks_put w a v (by unfold maxLen; omega) hv
  obtain ⟨g, hg⟩ : ∃ g, g = fl v.toList c := ⟨_, rfl⟩
  have F1 : Hid (Calls Try.prog 5 #[.map r, .string a, .bool c] w fun e w' => e = .returned (.bool g) ∧ w' = w) := by subst hg; exact flows_yes r a v c w L
  have F2 : Hid (Calls Try.prog 5 #[.map (some w.heap.size), .string a, .bool c] w2 fun e w' => e = .returned (.bool g) ∧ w' = w2) := by subst hg; exact flows_yes _ a v c w2 L2
  have l2 := L.two
  clear L L2 hg hv
  go_enter Try.func3, Try.ntmps3
  go_wp2_with fail
  refine F1.out.mono ?_
  rintro e w' ⟨rfl, hw'⟩
  subst w'
  go_wp2_with fail
  refine F2.out.mono ?_
  rintro e w' ⟨rfl, hw'⟩
  subst w'
  go_wp2
  go_ret
  exact ⟨rfl, hb⟩

set_option maxHeartbeats 800000 in
theorem own_no (r : Option Nat) (a v : ByteArray) (c : Bool) (n : Nat) (w : World) (ha : a.size ≤ 65536) (hn : n ≤ 65536) (L : Looks w r a v false) (hlen : ∀ ty, (Builtin.len_ #[23] ty #[.map r]).run Try.prog w = .ok (.int .i64 n) w) :
    Calls Try.prog 3 #[.map r, .string a, .bool c] w fun e w' => e = .returned (.bool true) ∧ Below w.heap.size w w' := by
  have hmm := @run_makeMap Try.prog
  have F1 : Hid (Calls Try.prog 5 #[.map r, .string a, .bool c] w fun e w' => e = .returned (.bool true) ∧ w' = w) := flows_no r a v c w L
  have F2 : Hid (Calls Try.prog 5 #[.map (some w.heap.size), .string a, .bool c] (w.alloc (.map #[] 0)) fun e w' => e = .returned (.bool true) ∧ w' = w.alloc (.map #[] 0)) := flows_no _ a _ c _ (looks_made w a (by unfold maxLen; omega))
  have l2 := L.two
  clear L
  go_enter Try.func3, Try.ntmps3
  go_wp2_with fail
  refine F1.out.mono ?_
  rintro e w' ⟨rfl, hw'⟩
  subst w'
  go_wp2_with fail
  refine F2.out.mono ?_
  rintro e w' ⟨rfl, hw'⟩
  subst w'
  go_wp2
  go_ret
  exact ⟨rfl, (Below.refl _ _).alloc (Nat.le_refl _) _⟩

set_option maxHeartbeats 800000 in
theorem own_far (r : Option Nat) (a : ByteArray) (c : Bool) (n : Nat) (w : World) (ha : a.size ≤ maxLen) (hn : n ≤ maxLen) (h : 65536 < n ∨ 65536 < a.size) (hlen : ∀ ty, (Builtin.len_ #[23] ty #[.map r]).run Try.prog w = .ok (.int .i64 n) w) :
    Calls Try.prog 3 #[.map r, .string a, .bool c] w fun e w' => e = .returned (.bool true) ∧ Below w.heap.size w w' := by
  unfold maxLen at ha hn
  by_cases h1 : 65536 < n
  · clear h
    go_enter Try.func3, Try.ntmps3
    go_wp2
    go_ret
    exact ⟨rfl, Below.refl _ _⟩
  · have h2 : 65536 < a.size := by omega
    clear h
    go_enter Try.func3, Try.ntmps3
    go_wp2
    go_ret
    exact ⟨rfl, Below.refl _ _⟩

/-! ### The second law -/
theorem fl_sync (c : Bool) : fl sync c = true := rfl
theorem fl_once (c : Bool) : fl once c = c := rfl
theorem once_toList : (⟨#[111, 110, 99, 101]⟩ : ByteArray).toList = once := by rw [ByteArray.toList_eq]; rfl
theorem none_toList : (⟨#[]⟩ : ByteArray).toList = [] := by rw [ByteArray.toList_eq]

set_option maxHeartbeats 1600000 in
theorem once_any (r : Option Nat) (a v : ByteArray) (n : Nat) (g1 g2 m : Bool) (w : World) (ha : a.size ≤ 65536) (hn : n ≤ 65536) (hlen : ∀ ty, (Builtin.len_ #[23] ty #[.map r]).run Try.prog w = .ok (.int .i64 n) w)
    (G1 : Hid (Calls Try.prog 5 #[.map r, .string a, .bool true] w fun e w' => e = .returned (.bool g1) ∧ w' = w)) (G2 : Hid (Calls Try.prog 5 #[.map r, .string a, .bool false] w fun e w' => e = .returned (.bool g2) ∧ w' = w))
    (hl : (Instr.lookup 23 (.map r) (.string a) false).run Try.prog w = .ok (.string v) w) (hm : (v.toList == [111, 110, 99, 101]) = m) (hg : Hid ((g1 = true ∧ g2 = true ∧ m = false) ∨ (g1 = true ∧ g2 = false ∧ m = true) ∨ (g1 = false ∧ g2 = false ∧ m = false))) :
    Calls Try.prog 4 #[.map r, .string a] w fun e w' => e = .returned (.bool true) ∧ Below w.heap.size w w' := by
  have hmm := @run_makeMap Try.prog
  have hA : a.size ≤ maxLen := by unfold maxLen; omega
  obtain ⟨w2, hup, _, hb, L2⟩ := looks_put w a ⟨#[111, 110, 99, 101]⟩ hA (by decide)
  have L3 := L2 (.map #[] 0)
  have L4 := looks_made w2 a hA
  have F1 : Hid (Calls Try.prog 5 #[.map (some w.heap.size), .string a, .bool true] (w2.alloc (.map #[] 0)) fun e w' => e = .returned (.bool true) ∧ w' = w2.alloc (.map #[] 0)) := by have := flows_yes _ a _ true _ L3; rw [once_toList] at this; exact this
  have F2 : Hid (Calls Try.prog 5 #[.map (some w2.heap.size), .string a, .bool true] (w2.alloc (.map #[] 0)) fun e w' => e = .returned (.bool true) ∧ w' = w2.alloc (.map #[] 0)) := flows_no _ a _ true _ L4
  have F3 : Hid (Calls Try.prog 5 #[.map (some w.heap.size), .string a, .bool false] (w2.alloc (.map #[] 0)) fun e w' => e = .returned (.bool false) ∧ w' = w2.alloc (.map #[] 0)) := by have := flows_yes _ a _ false _ L3; rw [once_toList] at this; exact this
  have F4 : Hid (Calls Try.prog 5 #[.map (some w2.heap.size), .string a, .bool false] (w2.alloc (.map #[] 0)) fun e w' => e = .returned (.bool true) ∧ w' = w2.alloc (.map #[] 0)) := flows_no _ a _ false _ L4
  clear L2 L3 L4 hA
  rcases hg.out with ⟨rfl, rfl, rfl⟩ | ⟨rfl, rfl, rfl⟩ | ⟨rfl, rfl, rfl⟩
  all_goals
    clear hg
    go_enter Try.func4, Try.ntmps4
    go_wp2_with fail
    refine G1.out.mono ?_
    rintro e w' ⟨rfl, hw'⟩
    subst w'
    go_wp2_with fail
    refine G2.out.mono ?_
    rintro e w' ⟨rfl, hw'⟩
    subst w'
    go_wp2_with fail
    refine F1.out.mono ?_
    rintro e w' ⟨rfl, hw'⟩
    subst w'
    go_wp2_with fail
    refine F2.out.mono ?_
    rintro e w' ⟨rfl, hw'⟩
    subst w'
    go_wp2_with fail
    refine F3.out.mono ?_
    rintro e w' ⟨rfl, hw'⟩
    subst w'
    go_wp2_with fail
    refine F4.out.mono ?_
    rintro e w' ⟨rfl, hw'⟩
    subst w'
    go_wp2
    go_ret
    exact ⟨rfl, hb.alloc hb.size _⟩

theorem once_in (r : Option Nat) (a v : ByteArray) (ok : Bool) (n : Nat) (w : World) (ha : a.size ≤ 65536) (hn : n ≤ 65536) (L : Looks w r a v ok) (hlen : ∀ ty, (Builtin.len_ #[23] ty #[.map r]).run Try.prog w = .ok (.int .i64 n) w) :
    Calls Try.prog 4 #[.map r, .string a] w fun e w' => e = .returned (.bool true) ∧ Below w.heap.size w w' := by
  cases ok with
  | false =>
    have h0 := L.nothing rfl
    refine once_any r a v n true true false w ha hn hlen (flows_no r a v true w L) (flows_no r a v false w L) L.one (by rw [h0, none_toList]; decide) (.inl ⟨rfl, rfl, rfl⟩)
  | true =>
    refine once_any r a v n (fl v.toList true) (fl v.toList false) (v.toList == [111, 110, 99, 101]) w ha hn hlen (flows_yes r a v true w L) (flows_yes r a v false w L) L.one rfl ?_
    show _ ∨ _ ∨ _
    unfold fl sync once
    by_cases h1 : v.toList = [115, 121, 110, 99]
    · rw [h1]; decide
    · by_cases h2 : v.toList = [111, 110, 99, 101]
      · rw [h2]; decide
      · simp [h1, h2]

set_option maxHeartbeats 800000 in
theorem once_far (r : Option Nat) (a : ByteArray) (n : Nat) (w : World) (ha : a.size ≤ maxLen) (hn : n ≤ maxLen) (h : 65536 < n ∨ 65536 < a.size) (hlen : ∀ ty, (Builtin.len_ #[23] ty #[.map r]).run Try.prog w = .ok (.int .i64 n) w) :
    Calls Try.prog 4 #[.map r, .string a] w fun e w' => e = .returned (.bool true) ∧ Below w.heap.size w w' := by
  unfold maxLen at ha hn
  by_cases h1 : 65536 < n
  · clear h
    go_enter Try.func4, Try.ntmps4
    go_wp2
    go_ret
    exact ⟨rfl, Below.refl _ _⟩
  · have h2 : 65536 < a.size := by omega
    clear h
    go_enter Try.func4, Try.ntmps4
    go_wp2
    go_ret
    exact ⟨rfl, Below.refl _ _⟩
end Go.Proofs.Qxb6631220a
