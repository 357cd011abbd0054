/-
  FnFactStringWritesArgumentsAsTerms (4).
-/
import Derived.Test.Qxb6631248aLine
namespace Go.Proofs.Qxb6631248a
open Go.RowKit
open Plain

set_option maxHeartbeats 800000 in
theorem lawB_far (s t : ByteArray) (u : Value) (w : World) (hs : s.size ≤ maxLen) (ht : t.size ≤ maxLen) (h : 1048576 < s.size ∨ 1048576 < t.size) (hu : ∃ a n c, u = .slice a n c) :
    Calls Try.prog 4 #[.string s, u, .string t] w fun e w' => e = .returned (.bool true) ∧ Below w.heap.size w w' := by
  have H := toHid (fact_far s t u w hs ht h hu)
  clear hs ht h
  go_enter Try.func4, Try.ntmps4
  go_wp2_with (go_at_call 5; refine H.out.mono ?_; rintro e w' ⟨rfl, hw'⟩; subst w')
  go_ret
  exact ⟨rfl, Below.refl _ _⟩

theorem ret_bool {b : Bool} (h : b = true) : Ending.returned (.bool b) = .returned (.bool true) := by rw [h]
theorem lit_cells (w : World) (l2 : List UInt8) (cs : Array Value) (h : cs.toList = Lib.byteCells l2) : ∀ j u, (Lib.byteCells l2)[j]? = some u → (w.alloc (.cells cs 5)).cell? ((⟨w.heap.size, 0, none⟩ : Addr).add j) = some u := by
  intro j u hj
  have hadd : (⟨w.heap.size, 0, none⟩ : Addr).add j = ⟨w.heap.size, j, none⟩ := by unfold Addr.add; split <;> simp_all
  rw [hadd, Lib.cell_of_heap (heap_alloc_new w (.cells cs 5)) j, ← Array.getElem?_toList, h]
  exact hj
theorem joined_le {n : Nat} (l : List (Tm n)) (k : Nat) (N : ByteArray) : (N.data.toList ++ [40] ++ joinB (texts (l.take k) 0)).length ≤ N.size + 1 + wts l := by
  have h1 := join_wts (l.take k) 0
  have h2 := wts_take_le l k
  simp only [List.length_append, size_data, List.length_cons, List.length_nil]
  omega

set_option maxRecDepth 100000 in
set_option maxHeartbeats 3200000 in
theorem lawB_in (n : Nat) (N V : ByteArray) (u : Value) (o : Option (List (Tm n))) (w : World) (hN : N.size ≤ 1048576) (hV : V.size ≤ 1048576) (hu : IRel w n u o) :
    Calls Try.prog 4 #[.string N, u, .string V] w fun e w' => e = .returned (.bool true) ∧ Below w.heap.size w w' := by
  have H := toHid (fact_in n N V u o w hN hV hu)
  go_enter Try.func4, Try.ntmps4
  go_wp2_with fail
  refine H.out.mono ?_
  rintro e w' ⟨r, rfl, hr, hw'⟩
  subst w'
  clear H
  by_cases hbig : 1048576 < r
  · have hd : decide ((1048576 : Int) < (r : Int)) = true := decide_eq_true (by omega)
    go_wp2_with fail
    go_ret
    exact ⟨rfl, Below.refl _ _⟩
  have hd : decide ((1048576 : Int) < (r : Int)) = false := decide_eq_false (by omega)
  have hsum : N.size + V.size + wts (els o) ≤ 1048576 := by
    rcases Nat.lt_or_ge 1048576 (N.size + V.size + wts (els o)) with h | h
    · exact absurd (hr.2.1 h) hbig
    · exact h
  clear hr hbig
  have hHt := toHid (height_any n u o w hu (by omega))
  go_wp2_with fail
  refine hHt.out.mono ?_
  rintro e w' ⟨rfl, hw'⟩
  subst w'
  clear hHt
  by_cases hbig : 20000 < hts (els o)
  · have hd : decide ((20000 : Int) < (hts (els o) : Int)) = true := decide_eq_true (by omega)
    go_wp2_with fail
    go_ret
    exact ⟨rfl, Below.refl _ _⟩
  have hd : decide ((20000 : Int) < (hts (els o) : Int)) = false := decide_eq_false (by omega)
  have hC := toHid (conv_any n u o w hu (by omega))
  go_wp2_with fail
  refine hC.out.mono ?_
  rintro e w2 ⟨a3, n3, c3, rfl, hF, hb2⟩
  clear hC hu
  have hS := toHid (factString_any _ N V a3 n3 c3 o w2 hF hsum)
  go_wp2_with fail
  refine hS.out.mono ?_
  rintro e w3 ⟨rfl, hb3⟩
  clear hS
  generalize hS : (⟨(factText N o V).toArray⟩ : ByteArray) = S
  have HS : Hid (⟨(factText N o V).toArray⟩ = S) := hS
  have hn3 := FRel.len hF
  have hF3 : Hid (FRel w.heap.size w3 n (.slice a3 n3 c3) o) := FRel.later hb3 hF
  have hl3 : 40 * n3 ≤ 1048576 := by have := len_le (els o); omega
  have Hn3 : Hid (n3 = (els o).length) := hn3
  have hR0 : Row w3 w3.heap.size (.slice none 0 0) [] := Row.nil _ _
  have hbB : Below w.heap.size w w3 := Below.to hb2 (Nat.le_refl _) hb3
  clear hS hF hn3 hb2 hb3
  go_wp2_with (first | (at_builtin; refine wp_str rfl _ _ rfl hR0 rfl N rfl (by simp; omega) (Nat.le_refl _) ?_; intro v1 w4 hR1 hb4; have hR2 := hR1.below ((Below.refl _ _).alloc (Nat.le_refl _) (.cells #[.int .u8 40] 5)); have hs4 : w3.heap.size ≤ w4.heap.size := hb4.size) | (at_builtin; refine wp_lit rfl _ _ rfl hR2 rfl [40] ⟨w4.heap.size, 0, none⟩ 1 rfl (lit_cells _ _ _ rfl) (by simp; omega) (by simp; omega) ?_; intro v2 w5 hR3 hb5))
  have hbL : Below w3.heap.size w3 w5 := (hb4.alloc hs4 _).trans hb5
  rw [List.nil_append] at hR3
  clear hR0 hR1 hR2 hb4 hb5
  go_loopw [9, 10] (fun v i wr => ∃ k : Nat, k ≤ n3 ∧ i = .int .i64 k ∧ Row wr w3.heap.size v (N.data.toList ++ [40] ++ joinB (texts ((els o).take k) 0)) ∧ Below w3.heap.size w3 wr) (fun _ i _ => n3 - (intOf i).toNat)
  case atStart => exact ⟨0, Nat.zero_le _, rfl, by simpa [texts, joinB] using hR3, hbL⟩
  case round =>
    clear hR3 hbL
    obtain ⟨k, hk, rfl, hR, hb⟩ := hrel
    have hsr : w3.heap.size ≤ wr.heap.size := hb.size
    have hLL := joined_le (els o) k N
    by_cases hlt : k < n3
    · have hkl : k < (els o).length := by rw [← Hn3.out]; exact hlt
      obtain ⟨g, off, M, b3, m3, d3, rfl, hT⟩ := FRel.at hF3.out (by omega) k hkl
      have HJ : Hid (joinB (texts ((els o).take (k + 1)) 0) = joinB (texts ((els o).take k) 0) ++ (if k = 0 then [] else [44, 32]) ++ text n (els o)[k] 0) := join_step (els o) k 0 hkl
      have hts1 := text_small n (els o)[k] 0
      have hts2 := wt_le_wts (els o) k hkl
      obtain ⟨T, hTT⟩ : ∃ T, T = text n (els o)[k] 0 := ⟨_, rfl⟩
      rw [← hTT] at hT hts1
      have HT := toHid hT
      have HTT : Hid (T = text n (els o)[k] 0) := hTT
      have hTl : T.length ≤ 1048576 := by omega
      obtain ⟨J, hJ⟩ : ∃ J, J = N.data.toList ++ [40] ++ joinB (texts ((els o).take k) 0) := ⟨_, rfl⟩
      rw [← hJ] at hR hLL
      have HJJ : Hid (J = N.data.toList ++ [40] ++ joinB (texts ((els o).take k) 0)) := hJ
      have hJl : J.length ≤ 2097153 := by omega
      clear hT hTT hts1 hts2 hJ hLL
      by_cases hk0 : k = 0
      · subst hk0
        obtain ⟨q0, q1, hT⟩ := HT.out wr hb
        have HI := toHid hT
        have HJ0 : Hid (joinB (texts ((els o).take (0 + 1)) 0) = joinB (texts ((els o).take 0) 0) ++ text n (els o)[0] 0) := by
          have := HJ.out
          rw [if_pos rfl, List.append_nil] at this
          exact this
        clear HT hT HJ
        simp only [Nat.zero_mul, Nat.add_zero] at q0 q1
        go_wp2_with (first | (go_at_call 11; refine HI.out.mono ?_; rintro e w5 ⟨rfl, hb5⟩; have hR5 := hR.below hb5; have hs5 := hb5.size) | (at_builtin; refine wp_str rfl _ _ rfl hR5 rfl _ rfl (by show J.length + T.length ≤ _; omega) (by omega) ?_; intro v6 w6 hR6 hb6))
        go_roundw
        case rel =>
          refine ⟨0 + 1, by omega, rfl, ?_, (hb.trans (hb5.mono hsr)).trans hb6⟩
          rw [HJ0.out, ← HTT.out, ← List.append_assoc, ← HJJ.out]; exact hR6
        case measure => simp [intOf]; omega
      · have HJ1 : Hid (joinB (texts ((els o).take (k + 1)) 0) = joinB (texts ((els o).take k) 0) ++ [44, 32] ++ text n (els o)[k] 0) := by
          have := HJ.out
          rw [if_neg hk0] at this
          exact this
        clear HJ
        have hR4 := hR.below ((Below.refl _ _).alloc (Nat.le_refl _) (.cells #[.int .u8 44, .int .u8 32] 5))
        go_wp2_with (first | (at_builtin; refine wp_lit rfl _ _ rfl hR4 rfl [44, 32] ⟨wr.heap.size, 0, none⟩ 2 rfl (lit_cells _ _ _ rfl) (by show J.length + 2 ≤ _; omega) (by simp; omega) ?_; intro v4 w4 hR4b hb4; have hb4b : Below w3.heap.size w3 w4 := (hb.alloc hsr _).trans hb4; have q0 := (HT.out w4 hb4b).1; have q1 := (HT.out w4 hb4b).2.1) | (go_at_call 11; refine (HT.out w4 hb4b).2.2.mono ?_; rintro e w5 ⟨rfl, hb5⟩; have hR5 := hR4b.below hb5; have hs5 := hb5.size; have hs4 := hb4b.size) | (at_builtin; refine wp_str rfl _ _ rfl hR5 rfl _ rfl (by show (J ++ [44, 32]).length + T.length ≤ _; simp only [List.length_append, List.length_cons, List.length_nil]; omega) (by omega) ?_; intro v6 w6 hR6 hb6))
        go_roundw
        case rel =>
          refine ⟨k + 1, by omega, by go_num, ?_, (hb4b.trans (hb5.mono hs4)).trans hb6⟩
          rw [HJ1.out, ← HTT.out, ← List.append_assoc, ← List.append_assoc, ← HJJ.out]; exact hR6
        case measure => simp [intOf]; omega
    · have hkn : k = n3 := by omega
      have HK : Hid (k = (els o).length) := hkn.trans Hn3.out
      have HR : Hid (factText N o V = N.data.toList ++ [40] ++ joinB (texts ((els o).take k) 0) ++ [41] ++ (if V.size = 0 then [] else [32, 61, 32] ++ V.data.toList)) := by
        rw [factText_eq, HK.out, List.take_length, texts_any (els o) (by omega)]; exact rfl
      obtain ⟨J, hJ⟩ : ∃ J, J = N.data.toList ++ [40] ++ joinB (texts ((els o).take k) 0) := ⟨_, rfl⟩
      rw [← hJ] at hR hLL HR
      clear hJ HK hkn hF3 Hn3
      have hR4 := hR.below ((Below.refl _ _).alloc (Nat.le_refl _) (.cells #[.int .u8 41] 5))
      by_cases hv : V.size = 0
      · have hq : V.toList.isEmpty = true := (emp_iff V).2 hv
        go_wp2_with (at_builtin; refine wp_lit rfl _ _ rfl hR4 rfl [41] ⟨wr.heap.size, 0, none⟩ 1 rfl (lit_cells _ _ _ rfl) (by show J.length + 1 ≤ _; omega) (by simp; omega) ?_; intro v5 w5 hR5 hb5; have hcv := hR5.conv)
        go_ret
        refine ⟨?_, hbB.trans (((hb.alloc hsr _).trans hb5).mono hbB.size)⟩
        refine ret_bool ?_
        rw [beq_iff_eq, ← HS.out, ByteArray.toList_eq, List.toList_toArray, HR.out, if_pos hv, List.append_nil]
      · have hq : V.toList.isEmpty = false := by
          cases h : V.toList.isEmpty
          · rfl
          · exact absurd ((emp_iff V).1 h) hv
        go_wp2_with (first | (at_builtin; refine wp_lit rfl _ _ rfl hR4 rfl [41] ⟨wr.heap.size, 0, none⟩ 1 rfl (lit_cells _ _ _ rfl) (by show J.length + 1 ≤ _; omega) (by simp; omega) ?_; intro v5 w5 hR5 hb5; have hb5b := (hb.alloc hsr _).trans hb5; have hs5 := hb5b.size) | (at_builtin; refine wp_str rfl _ _ rfl hR5 rfl _ rfl (by show (J ++ [41]).length + 3 ≤ _; simp only [List.length_append, List.length_cons, List.length_nil]; omega) (by omega) ?_; intro v6 w6 hR6 hb6; have hb6b := hb5b.trans hb6; have hs6 := hb6b.size; clear hR5) | (at_builtin; refine wp_str rfl _ _ rfl hR6 rfl _ rfl (by show (J ++ [41] ++ [32, 61, 32]).length + V.size ≤ _; simp only [List.length_append, List.length_cons, List.length_nil]; omega) (by omega) ?_; intro v7 w7 hR7 hb7; have hcv := hR7.conv))
        go_ret
        refine ⟨?_, hbB.trans ((hb6b.trans hb7).mono hbB.size)⟩
        refine ret_bool ?_
        rw [beq_iff_eq, ← HS.out, ByteArray.toList_eq, List.toList_toArray, HR.out, if_neg hv]
        simp [List.append_assoc]
end Go.Proofs.Qxb6631248a
