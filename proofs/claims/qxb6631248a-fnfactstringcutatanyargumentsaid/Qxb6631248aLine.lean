/-
  The row of bytes that the second law writes; the elements of a built list.
-/
import Derived.Test.Qxb6631248aPre
import Derived.Lib.BufferRead
namespace Go.Proofs.Qxb6631248a
open Go.RowKit
open Plain

/-! ### The row of bytes that the law writes -/
def Row (w : World) (B : Nat) (v : Value) (L : List UInt8) : Prop := w.ownsRow B 5 1 v L.length (Lib.byteCells L)

theorem Row.nil (w : World) (B : Nat) : Row w B (.slice none 0 0) [] := World.ownsRow_nil w B 5 1
theorem grown_of {w w' : World} (h : Below w.heap.size w w') : w.grownBy w' none := ⟨h.os, h.tape, h.output, h.size, fun k hk _ => h.block k hk⟩
theorem Row.below {w w' : World} {B : Nat} {v : Value} {L : List UInt8} (h : Row w B v L) (hb : Below w.heap.size w w') : Row w' B v L :=
  World.ownsRow.kept h (grown_of hb) (by cases v.ownBlock <;> simp)
theorem Row.shape {w : World} {B : Nat} {v : Value} {L : List UInt8} (h : Row w B v L) : ∃ a n c, v = .slice a n c := by
  rcases h.2 with ⟨hv, _⟩ | ⟨g, cap, cur, hv, _⟩
  · exact ⟨_, _, _, hv⟩
  · exact ⟨_, _, _, hv⟩
theorem under5 : Try.prog.underlying 5 = some (.int .u8) := by kernel_rfl
theorem Row.conv {w : World} {B : Nat} {v : Value} {L : List UInt8} (h : Row w B v L) : (convert 32 9 v).run Try.prog w = .ok (.string ⟨L.toArray⟩) w := by
  rcases h.2 with ⟨rfl, h0⟩ | ⟨g, cap, cur, rfl, hb, hg, _, _, _, htake⟩
  · have hL : L = [] := List.eq_nil_of_length_eq_zero h0
    subst hL
    exact Lib.run_convert_nil_bytes w 32 9 5 0 Try.underlying32 under5 Try.underlying9
  · exact run_convert_bytes_back w 32 9 5 _ cap L Try.underlying32 under5 Try.underlying9 (Lib.bytes_of_row hg (by simpa using htake))

theorem wp_str {ops : Array Oper} {rest : List Oper} {o : Oper} {a : Act} {Q : Exit → Act → World → Prop} {w : World} (hgd : o.guard = none) (sl x : Operand)
    (ho : o.op = .call { callee := .builtin .append, args := #[sl, x], argTypes := #[32, 9] })
    {B : Nat} {v : Value} {L : List UInt8} (hr : Row w B v L) (hs : a.eval sl = v) (s : ByteArray) (hx : a.eval x = .string s) (hlen : L.length + s.size ≤ 1099511627776) (hB : B ≤ w.heap.size)
    (h : ∀ v' w', Row w' B v' (L ++ s.data.toList) → Below B w w' → wpList Try.prog ops Q rest (a.put o.dst v') w') : wpList Try.prog ops Q (o :: rest) a w := by
  obtain ⟨i0, hi, hz0, hz1, hz2⟩ := info_parts info5
  refine Lib.wpList_append_own_string w hgd sl x 32 9 ho B 5 i0 Try.underlying32 Try.underlying9 hi hz0 hz1 hz2 v _ _ hs hr s hx (by unfold maxLen; omega) (by omega) hB ?_
  intro v' w' h1 h2 _
  refine h v' w' ?_ ((Below.refl _ _).grown h2 hB (fun k hk => (hr.lt k hk).1))
  unfold Row
  rw [Lib.byteCells_append, List.length_append, size_data]
  exact h1

theorem wp_lit {ops : Array Oper} {rest : List Oper} {o : Oper} {a : Act} {Q : Exit → Act → World → Prop} {w : World} (hgd : o.guard = none) (sl x : Operand)
    (ho : o.op = .call { callee := .builtin .append, args := #[sl, x], argTypes := #[32, 32] })
    {B : Nat} {v : Value} {L : List UInt8} (hr : Row w B v L) (hs : a.eval sl = v) (l2 : List UInt8) (ad : Addr) (c : Nat) (hx : a.eval x = .slice (some ad) l2.length c)
    (hc : ∀ j u, (Lib.byteCells l2)[j]? = some u → w.cell? (ad.add j) = some u) (hlen : L.length + l2.length ≤ 1099511627776) (hB : B ≤ w.heap.size)
    (h : ∀ v' w', Row w' B v' (L ++ l2) → Below B w w' → wpList Try.prog ops Q rest (a.put o.dst v') w') : wpList Try.prog ops Q (o :: rest) a w := by
  obtain ⟨i0, hi, hz0, hz1, hz2⟩ := info_parts info5
  refine wpList_append_own w hgd sl x 32 ho B 5 i0 (.int .u8 0) 1 1 Try.underlying32 hi hz0 hz1 hz2 rfl (by decide) v _ _ hs hr ad l2.length c (Lib.byteCells l2) hx (by rw [Lib.byteCells_length]; omega) hc (Lib.byteCells_one l2) (by unfold maxLen; omega) (by omega) hB ?_
  intro v' w' h1 h2 _
  refine h v' w' ?_ ((Below.refl _ _).grown h2 hB (fun k hk => (hr.lt k hk).1))
  unfold Row
  rw [Lib.byteCells_append, List.length_append]
  exact h1

/-! ### What a built list holds, its depth out of sight -/
theorem FRel.len {lo : Nat} {w : World} : ∀ {n : Nat} {a3 : Option Addr} {n3 c3 : Nat} {o : Option (List (Tm n))}, FRel lo w n (.slice a3 n3 c3) o → n3 = (els o).length
  | 0, _, _, _, _, h => by
    rcases h with ⟨rfl, h⟩ | ⟨a, cap, rfl, h⟩
    · simp only [Value.slice.injEq] at h; exact h.2.1
    · simp only [Value.slice.injEq] at h; exact h.2.1
  | n + 1, _, _, _, _, h => by
    rcases h with ⟨rfl, h⟩ | ⟨a, g, off, cap, c, fz, l, rfl, h, _⟩
    · simp only [Value.slice.injEq] at h; exact h.2.1
    · simp only [Value.slice.injEq] at h; exact h.2.1

theorem FRel.at {lo : Nat} {w : World} : ∀ {n : Nat} {a3 : Option Addr} {n3 c3 : Nat} {o : Option (List (Tm n))}, FRel lo w n (.slice a3 n3 c3) o → wts (els o) ≤ 1048576 → ∀ k, (hk : k < (els o).length) →
    ∃ g off M b3 m3 d3, a3 = some ⟨g, off, none⟩ ∧ ∀ wx, Below w.heap.size w wx → wx.cell? ⟨g, off + k * 2, none⟩ = some (.string M) ∧ wx.cell? ⟨g, off + k * 2 + 1, none⟩ = some (.slice b3 m3 d3) ∧
      Calls Try.prog 11 #[.agg #[.string M, .slice b3 m3 d3]] wx fun e w' => e = .returned (.string ⟨(text n (els o)[k] 0).toArray⟩) ∧ Below wx.heap.size wx w'
  | 0, _, _, _, _, h, _, k, hk => by
    rcases h with ⟨rfl, h⟩ | ⟨a, cap, rfl, h⟩
    · exact absurd hk (Nat.not_lt_zero _)
    · exact absurd hk (Nat.not_lt_zero _)
  | n + 1, _, _, _, _, h, hw, k, hk => by
    rcases h with ⟨rfl, h⟩ | ⟨a, g, off, cap, c, fz, l, rfl, h, h3, h4⟩
    · exact absurd hk (Nat.not_lt_zero _)
    · simp only [Value.slice.injEq] at h
      obtain ⟨rfl, rfl, rfl⟩ := h
      have hk' : k < l.length := hk
      obtain ⟨rfl, _, hg⟩ := h3 (by omega)
      obtain ⟨r0, u, r1, hu⟩ := h4 k hk'
      obtain ⟨b3, m3, d3, rfl⟩ := FRel.slice n _ _ hu
      have h1 := wt_le_wts l k hk'
      have h2 := wt_succ l[k]
      have hw' : wts l ≤ 1048576 := hw
      refine ⟨g, off, nm l[k], b3, m3, d3, rfl, fun wx hx => ?_⟩
      have hgx : wx.heap[g]? = some (.cells c 34 fz) := by rw [hx.block g (lt_of_heap hg)]; exact hg
      exact ⟨(Lib.cell_of_heap hgx _).trans r0, (Lib.cell_of_heap hgx _).trans r1, termString_any lo (nm l[k]) b3 m3 d3 (ar l[k]) wx (FRel.later hx hu) (by omega)⟩

theorem factText_eq {n : Nat} (N V : ByteArray) (o : Option (List (Tm n))) : factText N o V = N.data.toList ++ [40] ++ joinB (texts (els o) 1) ++ [41] ++ (if V.size = 0 then [] else [32, 61, 32] ++ V.data.toList) := by
  unfold factText body
  rw [if_neg (by omega)]
  simp only [List.append_assoc]

end Go.Proofs.Qxb6631248a
