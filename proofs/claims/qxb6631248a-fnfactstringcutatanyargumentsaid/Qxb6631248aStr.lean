/-
  Term.write (13), Term.String (11), Fact.String (7).
-/
import Derived.Test.Qxb6631248aWrite
namespace Go.Proofs.Qxb6631248a
open Go.RowKit
open Plain

/-- What a fact writes. -/
def factText {n : Nat} (name : ByteArray) (o : Option (List (Tm n))) (value : ByteArray) : List UInt8 :=
  body name (some (els o)) 0 ++ (if value.size = 0 then [] else [32, 61, 32] ++ value.data.toList)

theorem FRel.none_eq {lo : Nat} {w : World} : ∀ {n : Nat} {v : Value}, FRel lo w n v none → v = .slice none 0 0
  | 0, _, h => by
    rcases h with ⟨_, h⟩ | ⟨a, cap, h, _⟩
    · exact h
    · exact absurd h (by simp)
  | n + 1, _, h => by
    rcases h with ⟨_, h⟩ | ⟨a, g, off, cap, c, fz, l, h, _⟩
    · exact h
    · exact absurd h (by simp)
theorem FRel.some_eq {lo : Nat} {w : World} : ∀ {n : Nat} {a3 : Option Addr} {n3 c3 : Nat} {l : List (Tm n)}, FRel lo w n (.slice a3 n3 c3) (some l) → ∃ a, a3 = some a
  | 0, _, _, _, _, h => by
    rcases h with ⟨h, _⟩ | ⟨a, cap, _, h⟩
    · exact absurd h (by simp)
    · simp only [Value.slice.injEq] at h; exact ⟨_, h.1⟩
  | n + 1, _, _, _, _, h => by
    rcases h with ⟨h, _⟩ | ⟨a, g, off, cap, c, fz, l, _, h, _⟩
    · exact absurd h (by simp)
    · simp only [Value.slice.injEq] at h; exact ⟨_, h.1⟩
theorem emp_iff (V : ByteArray) : V.toList.isEmpty = true ↔ V.size = 0 := by
  rw [ByteArray.toList_eq, List.isEmpty_iff, ← List.length_eq_zero_iff, size_data]
theorem dat_append (a b : ByteArray) : (a ++ b).data.toList = a.data.toList ++ b.data.toList := by
  rw [ByteArray.data_append, Array.toList_append]
theorem eqs_size (V : ByteArray) : ((⟨#[32, 61, 32]⟩ : ByteArray) ++ V).size = 3 + V.size := by
  rw [ByteArray.size_append]; rfl

set_option maxHeartbeats 1600000 in
/-- Fact.String, its list of arguments not nil. -/
theorem factString_some {n : Nat} (lo : Nat) (N V : ByteArray) (a : Addr) (n3 c3 : Nat) (l : List (Tm n)) (w : World) (hF : FRel lo w n (.slice (some a) n3 c3) (some l)) (hL : N.size + V.size + wts l ≤ 1048576) :
    Calls Try.prog 7 #[.agg #[.string N, .slice (some a) n3 c3, .string V]] w fun e w' => e = .returned (.string ⟨(factText N (some l) V).toArray⟩) ∧ Below w.heap.size w w' := by
  have hB := fresh2 w (.cells #[.string N, .slice (some a) n3 c3, .string V] 27)
  have hF2 := FRel.later (((Below.refl _ w).alloc (Nat.le_refl _) (.cells #[.string N, .slice (some a) n3 c3, .string V] 27)).alloc (by simp) (.cells #[.pointer none, .slice none 0 0] 41)) hF
  have W := write_any (w.heap.size + 1) (w.heap.size + 1) lo n N (some a) n3 c3 (some l) 0 [] _ hB hF2 (by omega) (by simp [els]; omega) (by simp)
  rw [show ((0 : Nat) : Int) = 0 from rfl, List.nil_append] at W
  have HW := toHid W
  have hne := fun wx => Lib.run_eql_slice_nil (P := Try.prog) wx 24 34 (some a) n3 c3 0 0 Try.underlying24
  have hbl : (body N (some l) 0).length ≤ N.size + 2 + wts l := by
    unfold body
    rw [if_neg (by omega)]
    have := join_wts l (0 + 1)
    simp only [List.length_append, size_data, List.length_cons, List.length_nil]; omega
  have hbox := heap_alloc2_old w (.cells #[.string N, .slice (some a) n3 c3, .string V] 27) (.cells #[.pointer none, .slice none 0 0] 41)
  clear W hF hF2
  go_enter Try.func7, Try.ntmps7
  go_wp2_with fail
  refine HW.out.mono ?_
  rintro e w2 ⟨rfl, p1, p2, p3⟩
  have hb2 := keptAny (by decide) (by decide) hB p3 hbox
  have v2 : w2.cell? ⟨w.heap.size, 2, none⟩ = some (.string V) := (Lib.cell_of_heap hb2 2).trans rfl
  have b2 : Below w.heap.size w w2 := (((Below.refl _ w).alloc (Nat.le_refl _) _).alloc (by simp) _).trans (p2.mono (by omega))
  have s2 : w.heap.size + 1 ≤ w2.heap.size := by have := p2.size; simp at this; omega
  clear HW p2 hne hbox
  by_cases hv : V.size = 0
  · have hq : V.toList.isEmpty = true := (emp_iff V).2 hv
    go_wp2_with (go_at_call 15; refine (string_any (w.heap.size + 1) (w.heap.size + 1) _ _ (by exact p1) s2).mono ?_; rintro e w3 ⟨rfl, p4, _⟩)
    go_ret
    refine ⟨?_, b2.trans (p4.mono (by omega))⟩
    unfold factText
    rw [if_pos hv, List.append_nil]
    rfl
  · have hq : V.toList.isEmpty = false := by
      cases h : V.toList.isEmpty
      · rfl
      · exact absurd ((emp_iff V).1 h) hv
    have hs := eqs_size V
    go_wp2_with (first | (go_at_call 14; refine (writeString_any (w.heap.size + 1) (w.heap.size + 1) _ _ _ (by exact p1) (by omega) s2).mono ?_; rintro e w3 ⟨rfl, p4, p5, _⟩; have s3 : w.heap.size + 1 ≤ w3.heap.size := Nat.le_trans s2 p5.size) | (go_at_call 15; refine (string_any (w.heap.size + 1) (w.heap.size + 1) _ _ (by exact p4) s3).mono ?_; rintro e w4 ⟨rfl, p6, _⟩))
    go_ret
    refine ⟨?_, (b2.trans (p5.mono (by omega))).trans (p6.mono (by omega))⟩
    unfold factText
    rw [if_neg hv]
    rfl

set_option maxHeartbeats 1600000 in
/-- Fact.String, its list of arguments nil. -/
theorem factString_nil {n : Nat} (N V : ByteArray) (w : World) (hL : N.size + V.size ≤ 1048576) :
    Calls Try.prog 7 #[.agg #[.string N, .slice none 0 0, .string V]] w fun e w' => e = .returned (.string ⟨(factText N (none : Option (List (Tm n))) V).toArray⟩) ∧ Below w.heap.size w w' := by
  have hB := (fresh2 w (.cells #[.string N, .slice none 0 0, .string V] 27)).alloc (.cells #[] 34)
  have hne := fun wx => Lib.run_eql_slice_nil (P := Try.prog) wx 24 34 none 0 0 0 0 Try.underlying24
  have hbl : (body N (some ([] : List (Tm n))) 0).length ≤ N.size + 2 := by
    unfold body
    rw [if_neg (by omega)]
    simp only [List.length_append, size_data, List.length_cons, List.length_nil]; exact Nat.le_refl _
  have hbox := (Lib.alloc_old _ (.cells #[] 34) w.heap.size (by simp; omega)).trans (heap_alloc2_old w (.cells #[.string N, .slice none 0 0, .string V] 27) (.cells #[.pointer none, .slice none 0 0] 41))
  go_enter Try.func7, Try.ntmps7
  go_wp2_with fail
  refine (write_empty (n := n) (w.heap.size + 1) (w.heap.size + 1) N _ _ 0 [] _ hB (by omega) (by simp; omega) (by simp)).mono ?_
  rintro e w2 ⟨rfl, p1, p2, p3⟩
  have hb2 := keptAny (by decide) (by decide) hB p3 hbox
  have v2 : w2.cell? ⟨w.heap.size, 2, none⟩ = some (.string V) := (Lib.cell_of_heap hb2 2).trans rfl
  have b2 : Below w.heap.size w w2 := ((((Below.refl _ w).alloc (Nat.le_refl _) _).alloc (by simp) _).alloc (by simp; omega) _).trans (p2.mono (by omega))
  have s2 : w.heap.size + 1 ≤ w2.heap.size := by have := p2.size; simp at this; omega
  rw [List.nil_append] at p1
  clear p2 hne hbox
  by_cases hv : V.size = 0
  · have hq : V.toList.isEmpty = true := (emp_iff V).2 hv
    go_wp2_with (go_at_call 15; refine (string_any (w.heap.size + 1) (w.heap.size + 1) _ _ (by exact p1) s2).mono ?_; rintro e w3 ⟨rfl, p4, _⟩)
    go_ret
    refine ⟨?_, b2.trans (p4.mono (by omega))⟩
    unfold factText
    rw [if_pos hv, List.append_nil]
    rfl
  · have hq : V.toList.isEmpty = false := by
      cases h : V.toList.isEmpty
      · rfl
      · exact absurd ((emp_iff V).1 h) hv
    have hs := eqs_size V
    go_wp2_with (first | (go_at_call 14; refine (writeString_any (w.heap.size + 1) (w.heap.size + 1) _ _ _ (by exact p1) (by omega) s2).mono ?_; rintro e w3 ⟨rfl, p4, p5, _⟩; have s3 : w.heap.size + 1 ≤ w3.heap.size := Nat.le_trans s2 p5.size) | (go_at_call 15; refine (string_any (w.heap.size + 1) (w.heap.size + 1) _ _ (by exact p4) s3).mono ?_; rintro e w4 ⟨rfl, p6, _⟩))
    go_ret
    refine ⟨?_, (b2.trans (p5.mono (by omega))).trans (p6.mono (by omega))⟩
    unfold factText
    rw [if_neg hv]
    rfl


/-- Fact.String, for every list of terms built anew. -/
theorem factString_any {n : Nat} (lo : Nat) (N V : ByteArray) (a3 : Option Addr) (n3 c3 : Nat) (o : Option (List (Tm n))) (w : World) (hF : FRel lo w n (.slice a3 n3 c3) o) (hL : N.size + V.size + wts (els o) ≤ 1048576) :
    Calls Try.prog 7 #[.agg #[.string N, .slice a3 n3 c3, .string V]] w fun e w' => e = .returned (.string ⟨(factText N o V).toArray⟩) ∧ Below w.heap.size w w' := by
  cases o with
  | none =>
    have h : (Value.slice a3 n3 c3) = .slice none 0 0 := FRel.none_eq hF
    simp only [Value.slice.injEq] at h
    obtain ⟨rfl, rfl, rfl⟩ := h
    exact factString_nil N V w (by omega)
  | some l =>
    obtain ⟨a, h⟩ := FRel.some_eq hF
    subst h
    exact factString_some lo N V a n3 c3 l w hF hL
end Go.Proofs.Qxb6631248a
