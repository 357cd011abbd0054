/-
  zzConv (6): the terms are built anew, in blocks of the call's own.
-/
import Derived.Test.Qxb6631248aReads
import Derived.Test.Qxb6631248aBuilder
import Derived.Deep.RegionHeld3
namespace Go.Proofs.Qxb6631248a
open Go.RowKit
open Plain

theorem IRel.of_cells {w w' : World} (hw : ∀ a v, w.cell? a = some v → w'.cell? a = some v) : ∀ (n : Nat) (v : Value) (o : Option (List (Tm n))), IRel w n v o → IRel w' n v o
  | 0, _, _, h => h
  | n + 1, v, o, h => by
    rcases h with h | ⟨a, b, off, cap, l, h1, h2, h3, h4, h5⟩
    · exact .inl h
    · refine .inr ⟨a, b, off, cap, l, h1, h2, h3, h4, fun i hi => ?_⟩
      obtain ⟨q1, q2, u, q3, q4⟩ := h5 i hi
      exact ⟨q1, hw _ _ q2, u, hw _ _ q3, IRel.of_cells hw n u _ q4⟩

theorem IRel.slice {w : World} : ∀ (n : Nat) (v : Value) (o : Option (List (Tm n))), IRel w n v o → ∃ a k c, v = .slice a k c
  | 0, _, _, h => by
    rcases h with ⟨_, rfl⟩ | ⟨a, cap, _, rfl⟩
    · exact ⟨_, _, _, rfl⟩
    · exact ⟨_, _, _, rfl⟩
  | n + 1, _, _, h => by
    rcases h with ⟨_, rfl⟩ | ⟨a, b, off, cap, l, _, rfl, _⟩
    · exact ⟨_, _, _, rfl⟩
    · exact ⟨_, _, _, rfl⟩

/-- THE TERMS BUILT ANEW: as IRel, in rows of the converted type (34), each in a block from 'lo' on. -/
def FRel (lo : Nat) (w : World) : (n : Nat) → Value → Option (List (Tm n)) → Prop
  | 0, v, o => (o = none ∧ v = .slice none 0 0) ∨ ∃ (a : Addr) (cap : Nat), o = some [] ∧ v = .slice (some a) 0 cap
  | n + 1, v, o => (o = none ∧ v = .slice none 0 0) ∨ ∃ (a : Addr) (g off cap : Nat) (c : Array Value) (fz : Nat × Nat) (l : List (Tm (n + 1))), o = some l ∧ v = .slice (some a) l.length cap ∧
      (0 < l.length → a = ⟨g, off, none⟩ ∧ lo ≤ g ∧ w.heap[g]? = some (.cells c 34 fz)) ∧
      ∀ i, (h : i < l.length) → c[off + i * 2]? = some (.string (nm l[i])) ∧ ∃ u, c[off + i * 2 + 1]? = some u ∧ FRel lo w n u (ar l[i])

theorem FRel.keep {lo lo' : Nat} {w w' : World} (hl : lo' ≤ lo) (hw : ∀ g c fz, lo ≤ g → w.heap[g]? = some (.cells c 34 fz) → w'.heap[g]? = some (.cells c 34 fz)) : ∀ (n : Nat) (v : Value) (o : Option (List (Tm n))), FRel lo w n v o → FRel lo' w' n v o
  | 0, _, _, h => h
  | n + 1, v, o, h => by
    rcases h with h | ⟨a, g, off, cap, c, fz, l, h1, h2, h3, h4⟩
    · exact .inl h
    · refine .inr ⟨a, g, off, cap, c, fz, l, h1, h2, fun h0 => ?_, fun i hi => ?_⟩
      · obtain ⟨q1, q2, q3⟩ := h3 h0
        exact ⟨q1, Nat.le_trans hl q2, hw g c fz q2 q3⟩
      · obtain ⟨q1, u, q2, q3⟩ := h4 i hi
        exact ⟨q1, u, q2, FRel.keep hl hw n u _ q3⟩
/-- Nothing that was there has turned. -/
theorem FRel.later {lo : Nat} {w w' : World} (hb : Below w.heap.size w w') {n : Nat} {v : Value} {o : Option (List (Tm n))} (h : FRel lo w n v o) : FRel lo w' n v o :=
  FRel.keep (Nat.le_refl _) (fun g c fz _ hg => by
    have hlt : g < w.heap.size := by
      rcases Nat.lt_or_ge g w.heap.size with h' | h'
      · exact h'
      · rw [Array.getElem?_eq_none h'] at hg; cases hg
    rw [hb.block g hlt]; exact hg) n v o h

/-- Two cells written into block g: the terms that lie in other blocks stand. -/
theorem FRel.stored {lo lo' g i j : Nat} {w : World} {x y : Value} (hl : lo' ≤ lo) (hg : g < lo) {n : Nat} {v : Value} {o : Option (List (Tm n))} (h : FRel lo w n v o) :
    FRel lo' ((w.setCell ⟨g, i, none⟩ x).setCell ⟨g, j, none⟩ y) n v o :=
  FRel.keep hl (fun k c fz hk hh => by
    rw [Below.heap_setCell _ _ _ _ (by show k ≠ g; omega), Below.heap_setCell _ _ _ _ (by show k ≠ g; omega)]; exact hh) n v o h

theorem info34 : (Try.prog.info? 34).map (fun i => (i.zero, i.size, i.bytes)) = some (some (.agg #[.string ⟨#[]⟩, .slice none 0 0]), 2, 40) := by kernel_rfl


set_option maxHeartbeats 1600000 in
theorem conv_list {n : Nat} (ih : ∀ (u : Value) (o : Option (List (Tm n))) (w : World), IRel w n u o → wts (els o) ≤ 1048576 → Calls Try.prog 6 #[u] w fun e w' => ∃ a3 n3 c3, e = .returned (.slice a3 n3 c3) ∧ FRel w.heap.size w' n (.slice a3 n3 c3) o ∧ Below w.heap.size w w')
    (b off cap len : Nat) (l : List (Tm (n + 1))) (w : World) (hl : Hid (l.length = len)) (ha : wts l ≤ 1048576)
    (hc : ∀ i, (h : i < l.length) → (nm l[i]).size ≤ maxLen ∧ w.cell? ⟨b, off + i * 2, none⟩ = some (.string (nm l[i])) ∧ ∃ u, w.cell? ⟨b, off + i * 2 + 1, none⟩ = some u ∧ IRel w n u (ar l[i])) :
    Calls Try.prog 6 #[.slice (some ⟨b, off, none⟩) len cap] w fun e w' => ∃ c : Array Value, e = .returned (.slice (some ⟨w.heap.size, 0, none⟩) len len) ∧ Below w.heap.size w w' ∧ w'.heap[w.heap.size]? = some (.cells c 34 (0, 0)) ∧
      ∀ j, (h : j < l.length) → c[j * 2]? = some (.string (nm l[j])) ∧ ∃ u, c[j * 2 + 1]? = some u ∧ FRel (w.heap.size + 1) w' n u (ar l[j]) := by
  have hlen : 40 * len ≤ 1048576 := by have := len_le l; have := hl.out; omega
  have hne := fun wx => Lib.run_eql_slice_nil (P := Try.prog) wx 22 38 (some ⟨b, off, none⟩) len cap 0 0 Try.underlying22
  obtain ⟨i0, hi, hz0, hz1, hz2⟩ := info_parts info34
  go_enter Try.func6, Try.ntmps6
  go_wp2_with (at_make; refine wpList_make_full _ rfl _ _ 24 rfl w.heap.size 34 i0 _ 2 Try.underlying24 hi hz0 hz1 .i64 .i64 _ _ len rfl rfl rfl rfl (by rw [hz2]; omega) (by unfold maxLen; omega) (Nat.le_refl _) ?_; intro w1 hown hgrow)
  have hb1 : Below w.heap.size w w1 := (Below.refl _ _).grown hgrow (Nat.le_refl _) (by intro k h; cases h)
  obtain ⟨c0, hc0, hcs⟩ : ∃ c : Array Value, w1.heap[w.heap.size]? = some (.cells c 34 (0, 0)) ∧ c.size = len * 2 := by
    rcases hown.2 with ⟨h', _⟩ | ⟨g', cap', cur, h', _, hg, _, _, hs, _⟩
    · simp at h'
    · simp only [Value.slice.injEq, Option.some.injEq, Addr.mk.injEq, and_true, true_and] at h'
      obtain ⟨rfl, rfl⟩ := h'
      exact ⟨cur, hg, hs⟩
  clear hown hgrow
  go_loopw [4] (fun i wr => ∃ (k : Nat) (c : Array Value), k ≤ len ∧ i = .int .i64 k ∧ wr.heap[w.heap.size]? = some (.cells c 34 (0, 0)) ∧ c.size = len * 2 ∧ Below w.heap.size w wr ∧
      ∀ j, (h : j < l.length) → j < k → c[j * 2]? = some (.string (nm l[j])) ∧ ∃ u, c[j * 2 + 1]? = some u ∧ FRel (w.heap.size + 1) wr n u (ar l[j])) (fun i _ => len - (intOf i).toNat)
  case atStart => exact ⟨0, c0, Nat.zero_le _, rfl, hc0, hcs, hb1, fun j _ h => absurd h (Nat.not_lt_zero _)⟩
  case round =>
    clear hb1 hc0 hcs
    obtain ⟨k, c, hk, rfl, hcg, hcs, hb, hel⟩ := hrel
    by_cases hlt : k < len
    · have hkl : k < l.length := by rw [hl.out]; exact hlt
      obtain ⟨_, q0, u, q1, hu⟩ := hc k hkl
      have q0' := cell_later hb q0
      have q1' := cell_later hb q1
      have w1' := wt_le_wts l k hkl
      have w2' := wt_succ l[k]
      obtain ⟨N, hN⟩ : ∃ N, N = nm l[k] := ⟨_, rfl⟩
      rw [← hN] at q0'
      have HN : Hid (N = nm l[k]) := hN
      have IR : Hid (∀ wx : World, Below w.heap.size w wx → IRel wx n u (ar l[k])) := fun wx hwx => IRel.of_cells (fun a v h => cell_later hwx h) n u _ hu
      obtain ⟨a2, n2, c2, rfl⟩ := IRel.slice n _ _ hu
      have IH : Hid (∀ wx : World, Below w.heap.size w wx → Calls Try.prog 6 #[.slice a2 n2 c2] wx fun e w' => ∃ a3 n3 c3, e = .returned (.slice a3 n3 c3) ∧ FRel wx.heap.size w' n (.slice a3 n3 c3) (ar l[k]) ∧ Below wx.heap.size wx w') := fun wx hwx => ih _ _ wx (IR.out wx hwx) (by omega)
      have HEL : Hid (∀ j, (h : j < l.length) → j < k → c[j * 2]? = some (.string (nm l[j])) ∧ ∃ u, c[j * 2 + 1]? = some u ∧ FRel (w.heap.size + 1) wr n u (ar l[j])) := hel
      have hi1 : (k : Int) < (len : Int) := by omega
      have hi0 : (0 : Int) ≤ (k : Int) := by omega
      have hbne : ¬ w.heap.size = b := by have := World.block_lt_of_cell? _ _ q0; simp at this; omega
      have hglt : w.heap.size < wr.heap.size := by
        rcases Nat.lt_or_ge w.heap.size wr.heap.size with h' | h'
        · exact h'
        · rw [Array.getElem?_eq_none h'] at hcg; cases hcg
      obtain ⟨x0, hx0⟩ : ∃ x0, c[k * 2]? = some x0 := ⟨_, Array.getElem?_eq_getElem (by omega)⟩
      obtain ⟨x1, hx1⟩ : ∃ x1, c[k * 2 + 1]? = some x1 := ⟨_, Array.getElem?_eq_getElem (by omega)⟩
      clear ih hc hel hu hN w1' w2' q0 q1
      go_wp2_with fail
      go_region_held3 (fun w' => w'.cell? ⟨b, off + k * 2, none⟩ = some (.string N) ∧ w'.cell? ⟨b, off + k * 2 + 1, none⟩ = some (.slice a2 n2 c2)) (first | go_keep | (refine ⟨?_, ?_⟩ <;> (rw [World.cell?_setCell_other _ _ _ _ (by intro h; injection h with h; exact hbne h), World.cell?_setCell_other _ _ _ _ (by intro h; injection h with h; exact hbne h)]; assumption))) ((go_at_call 6; refine (IH.out _ (by first | exact hb.drew | exact hb)).mono ?_; rintro e w' ⟨a3, n3, c3, rfl, hfr, hbn⟩; have s0 := cell_later (a := ⟨b, off + k * 2, none⟩) (v := .string N) hbn (by exact q0'); have s1 := cell_later (a := ⟨b, off + k * 2 + 1, none⟩) (v := .slice a2 n2 c2) hbn (by exact q1'); have hg' : w'.heap[w.heap.size]? = some (.cells c 34 (0, 0)) := (hbn.block _ (by exact hglt)).trans hcg; have z0 : w'.cell? ⟨w.heap.size, k * 2, none⟩ = some x0 := (Lib.cell_of_heap hg' _).trans hx0; have z1 : w'.cell? ⟨w.heap.size, k * 2 + 1, none⟩ = some x1 := (Lib.cell_of_heap hg' _).trans hx1; have f0 : w'.frozen? ⟨w.heap.size, k * 2, none⟩ = false := Lib.frozen_of_heap hg' _; have f1 : w'.frozen? ⟨w.heap.size, k * 2 + 1, none⟩ = false := Lib.frozen_of_heap hg' _))
      go_wp2_with fail
      go_roundw
      case rel =>
        refine ⟨k + 1, (c.setIfInBounds (k * 2) (.string N)).setIfInBounds (k * 2 + 1) (.slice a3 n3 c3), by omega, by go_num, ?_, by simp [hcs], ?_, fun j hj hjk => ?_⟩
        · exact heap_setCell_same _ _ _ _ _ _ (heap_setCell_same _ _ _ _ _ _ hg')
        · exact ((hb.drew.trans (hbn.mono hb.size)).setCell (p := ⟨w.heap.size, k * 2, none⟩) (Nat.le_refl _) _).setCell (p := ⟨w.heap.size, k * 2 + 1, none⟩) (Nat.le_refl _) _
        · by_cases e : j = k
          · subst e
            refine ⟨?_, .slice a3 n3 c3, ?_, FRel.stored (by exact hglt) (by exact hglt) hfr⟩
            · rw [Array.getElem?_setIfInBounds_ne (by omega), Array.getElem?_setIfInBounds_self_of_lt (by omega), HN.out]
            · rw [Array.getElem?_setIfInBounds_self_of_lt (by simp; omega)]
          · obtain ⟨r0, u, r1, r2⟩ := HEL.out j hj (by omega)
            refine ⟨?_, u, ?_, FRel.stored (Nat.le_refl _) (Nat.lt_succ_self _) (FRel.later (by exact hbn) (by exact FRel.later (Below.drew (Below.refl _ _)) r2))⟩
            · rw [Array.getElem?_setIfInBounds_ne (by omega), Array.getElem?_setIfInBounds_ne (by omega)]; exact r0
            · rw [Array.getElem?_setIfInBounds_ne (by omega), Array.getElem?_setIfInBounds_ne (by omega)]; exact r1
      case measure => simp [intOf]; omega
    · clear ih hc
      go_wp2_with fail
      go_ret
      exact ⟨c, rfl, hb, hcg, fun j hj => hel j hj (by have := hl.out; omega)⟩

set_option maxHeartbeats 400000 in
theorem conv_none (w : World) : Calls Try.prog 6 #[.slice none 0 0] w fun e w' => e = .returned (.slice none 0 0) ∧ w' = w := by
  have hne := fun wx => Lib.run_eql_slice_nil (P := Try.prog) wx 22 38 none 0 0 0 0 Try.underlying22
  go_enter Try.func6, Try.ntmps6
  go_wp2_with fail
  go_ret
  exact ⟨rfl, rfl⟩

set_option maxHeartbeats 400000 in
theorem conv_empty (a : Addr) (cap : Nat) (w : World) : Calls Try.prog 6 #[.slice (some a) 0 cap] w fun e w' => e = .returned (.slice (some ⟨w.heap.size, 0, none⟩) 0 0) ∧ Below w.heap.size w w' := by
  have hne := fun wx => Lib.run_eql_slice_nil (P := Try.prog) wx 22 38 (some a) 0 cap 0 0 Try.underlying22
  obtain ⟨i0, hi, hz0, hz1, hz2⟩ := info_parts info34
  go_enter Try.func6, Try.ntmps6
  go_wp2_with (at_make; refine wpList_make_full _ rfl _ _ 24 rfl w.heap.size 34 i0 _ 2 Try.underlying24 hi hz0 hz1 .i64 .i64 _ _ 0 rfl rfl rfl rfl (by omega) (by unfold maxLen; omega) (Nat.le_refl _) ?_; intro w1 hown hgrow)
  have hb1 : Below w.heap.size w w1 := (Below.refl _ _).grown hgrow (Nat.le_refl _) (by intro k h; cases h)
  clear hown hgrow
  go_loop [4] (fun i => i = .int .i64 0) (fun _ => 0)
  case atStart => rfl
  case round =>
    subst hrel
    go_wp2_with fail
    go_ret
    exact ⟨rfl, hb1⟩

/-- zzConv, for every list of terms that the guard let by: what comes back, at its top, is nil or a row of its own. -/
theorem conv_any : ∀ (n : Nat) (u : Value) (o : Option (List (Tm n))) (w : World), IRel w n u o → wts (els o) ≤ 1048576 →
    Calls Try.prog 6 #[u] w fun e w' => ∃ a3 n3 c3, e = .returned (.slice a3 n3 c3) ∧ FRel w.heap.size w' n (.slice a3 n3 c3) o ∧ Below w.heap.size w w'
  | 0, u, o, w, h, ha => by
    rcases h with ⟨rfl, rfl⟩ | ⟨a, cap, rfl, rfl⟩
    · refine (conv_none w).mono fun e w' ⟨he, hw⟩ => ⟨_, _, _, he, .inl ⟨rfl, rfl⟩, ?_⟩
      subst hw; exact Below.refl _ _
    · exact (conv_empty a cap w).mono fun e w' ⟨he, hb⟩ => ⟨_, _, _, he, .inr ⟨_, _, rfl, rfl⟩, hb⟩
  | n + 1, u, o, w, h, ha => by
    rcases h with ⟨rfl, rfl⟩ | ⟨a, b, off, cap, l, rfl, rfl, hlen, hab, hc⟩
    · refine (conv_none w).mono fun e w' ⟨he, hw⟩ => ⟨_, _, _, he, .inl ⟨rfl, rfl⟩, ?_⟩
      subst hw; exact Below.refl _ _
    · by_cases h0 : 0 < l.length
      · rw [hab h0]
        refine (conv_list (conv_any n) b off cap l.length l w rfl ha hc).mono ?_
        rintro e w' ⟨c, he, hb, hg, hel⟩
        refine ⟨_, _, _, he, .inr ⟨_, w.heap.size, 0, _, c, (0, 0), l, rfl, rfl, fun _ => ⟨rfl, Nat.le_refl _, hg⟩, fun i hi => ?_⟩, hb⟩
        obtain ⟨r0, u, r1, r2⟩ := hel i hi
        exact ⟨by rw [Nat.zero_add]; exact r0, u, by rw [Nat.zero_add]; exact r1, FRel.keep (Nat.le_succ _) (fun _ _ _ _ h => h) n u _ r2⟩
      · have hz : l.length = 0 := by omega
        obtain rfl : l = [] := List.eq_nil_of_length_eq_zero hz
        refine (conv_empty a cap w).mono fun e w' ⟨he, hb⟩ => ⟨_, _, _, he, .inr ⟨_, 0, 0, _, #[], (0, 0), [], rfl, rfl, fun h => absurd h (Nat.lt_irrefl _), fun i hi => absurd hi (Nat.not_lt_zero _)⟩, hb⟩
end Go.Proofs.Qxb6631248a
