/-
  FnFactStringCutAtAnyArgument (3).
-/
import Derived.Test.Qxb6631248aCut
namespace Go.Proofs.Qxb6631248a
open Go.RowKit
open Plain

set_option maxHeartbeats 800000 in
theorem lawA_far (s t : ByteArray) (u : Value) (k : Int) (w : World) (hs : s.size ≤ maxLen) (ht : t.size ≤ maxLen) (h : 1048576 < s.size ∨ 1048576 < t.size) (hu : ∃ a n c, u = .slice a n c) :
    Calls Try.prog 3 #[.string s, u, .string t, .int .i64 k] w fun e w' => e = .returned (.bool true) ∧ Below w.heap.size w w' := by
  have H := toHid (fact_far s t u w hs ht h hu)
  clear hs ht h
  go_enter Try.func3, Try.ntmps3
  go_wp2_with (go_at_call 5; refine H.out.mono ?_; rintro e w' ⟨rfl, hw'⟩; subst w')
  go_ret
  exact ⟨rfl, Below.refl _ _⟩

theorem factText_two {n : Nat} (N : ByteArray) (o : Option (List (Tm n))) : factText N o ⟨#[]⟩ = N.data.toList ++ [40] ++ joinB (texts (els o) 1) ++ [41] := by
  rw [factText_eq, if_pos (by rfl), List.append_nil]
theorem els_map {n : Nat} (o : Option (List (Tm n))) (f : List (Tm n) → List (Tm n)) (h : f [] = []) : els (o.map f) = f (els o) := by
  cases o with
  | none => exact h.symm
  | some l => rfl

theorem take_init {α : Type} (l : List α) (x : α) {m : Nat} (h : m = l.length) : ((l ++ [x]).drop 0).take (m - 0) = l := by
  subst h
  rw [List.drop_zero, Nat.sub_zero]
  exact List.take_left
theorem void_of {V : ByteArray} (h : (!V.toList.isEmpty) = false) : V.size = 0 := (emp_iff V).1 (by simpa using h)
theorem full_of {V : ByteArray} (h : (!V.toList.isEmpty) = true) : ¬ V.size = 0 := fun e => by
  have := (emp_iff V).2 e
  rw [this] at h
  cases h
theorem ret_bool' {b : Bool} (h : b = true) : Ending.returned (.bool b) = .returned (.bool true) := by rw [h]
theorem elem24 : Try.prog.elem 24 = 34 := by kernel_rfl
theorem size34 (wx : World) : (sizeOf 34).run Try.prog wx = .ok 2 wx := by
  obtain ⟨i0, hi, hz0, hz1, hz2⟩ := info_parts info34
  simp [sizeOf, typeInfo, hi, hz1]
theorem cut_left (a3 : Option Addr) (m i : Nat) (h : i ≤ m) (wx : World) : (Instr.slice 24 (.slice a3 m m) none (some (.int .i64 (i : Int))) none).run Try.prog wx = .ok (.slice a3 i m) wx := by
  rw [run_slice_h wx 24 a3 m m (by rw [elem24]; exact Try.underlying24) .i64 i (by omega) (by omega), elem24, size34]
  have e : a3.map (·.add (0 * 2)) = a3 := by
    cases a3 with
    | none => rfl
    | some a => simp [Addr.add]
  simp only [Result.andThen, sliced, e, Int.toNat_natCast, Nat.sub_zero]
  split <;> rfl
theorem cut_right (a3 : Option Addr) (m i : Nat) (h : i ≤ m) (wx : World) : (Instr.slice 24 (.slice a3 m m) (some (.int .i64 (i : Int))) none none).run Try.prog wx = .ok (.slice (if m = i then a3 else a3.map (·.add (i * 2))) (m - i) (m - i)) wx := by
  rw [run_slice_l wx 24 a3 m m (by rw [elem24]; exact Try.underlying24) .i64 i (by omega) (by omega), elem24, size34]
  simp only [Result.andThen, sliced, Int.toNat_natCast]

set_option maxRecDepth 100000 in
set_option maxHeartbeats 3200000 in
theorem lawA_in (n : Nat) (N V : ByteArray) (a0 : Option Addr) (n0 c0 : Nat) (o : Option (List (Tm n))) (k : Int) (w : World) (hN : N.size ≤ 1048576) (hV : V.size ≤ 1048576) (hu : IRel w n (.slice a0 n0 c0) o) :
    Calls Try.prog 3 #[.string N, .slice a0 n0 c0, .string V, .int .i64 k] w fun e w' => e = .returned (.bool true) ∧ Below w.heap.size w w' := by
  have H := toHid (fact_in n N V _ o w hN hV hu)
  have Hn0 : Hid (n0 = (els o).length) := IRel.len hu
  have hu0 : Hid (IRel w n (.slice a0 n0 c0) o) := hu
  clear hu
  go_enter Try.func3, Try.ntmps3
  go_wp2_with fail
  refine H.out.mono ?_
  rintro e w' ⟨r, rfl, hr, hw'⟩
  subst w'
  clear H
  by_cases hbig : 1048576 < r
  · have hd : decide ((1048576 : Int) < (r : Int)) = true := decide_eq_true (by omega)
    go_wp2_with fail
    go_ret
    exact ⟨rfl, Below.refl _ _⟩
  have hd : decide ((1048576 : Int) < (r : Int)) = false := decide_eq_false (by omega)
  have hsum : N.size + V.size + wts (els o) ≤ 1048576 := by
    rcases Nat.lt_or_ge 1048576 (N.size + V.size + wts (els o)) with h | h
    · exact absurd (hr.2.1 h) hbig
    · exact h
  clear hr hbig
  by_cases hneg : k < 0
  · go_wp2_with fail
    go_ret
    exact ⟨rfl, Below.refl _ _⟩
  obtain ⟨i, rfl⟩ : ∃ i : Nat, k = i := ⟨k.toNat, by omega⟩
  clear hneg
  by_cases hfar : n0 < i
  · have hd2 : decide ((i : Int) < 0) = false := decide_eq_false (by omega)
    go_wp2_with fail
    go_ret
    exact ⟨rfl, Below.refl _ _⟩
  have hd2 : decide ((i : Int) < 0) = false := decide_eq_false (by omega)
  have hd3 : decide ((n0 : Int) < (i : Int)) = false := decide_eq_false (by omega)
  have hC := toHid (conv_top n _ o w hu0.out (by omega))
  go_wp2_with fail
  refine hC.out.mono ?_
  rintro e w2 ⟨a3, n3, rfl, hF, hb2⟩
  clear hC hu0
  obtain rfl : n3 = n0 := (FRel.len hF).trans Hn0.out.symm
  have hin : i ≤ n3 := by omega
  have hin' : (i : Int) ≤ (n3 : Int) := by omega
  obtain ⟨a4, ha4⟩ : ∃ a4, a4 = (if n3 = i then a3 else a3.map (·.add (i * 2))) := ⟨_, rfl⟩
  have HA4 : Hid (a4 = (if n3 = i then a3 else a3.map (·.add (i * 2)))) := ha4
  have hsl1 : ∀ wx, (Instr.slice 24 (.slice a3 n3 n3) none (some (.int .i64 (i : Int))) none).run Try.prog wx = .ok (.slice a3 i n3) wx := fun wx => cut_left a3 n3 i hin wx
  have hsl2 : ∀ wx, (Instr.slice 24 (.slice a3 n3 n3) (some (.int .i64 (i : Int))) none none).run Try.prog wx = .ok (.slice a4 (n3 - i) (n3 - i)) wx := fun wx => by rw [ha4]; exact cut_right a3 n3 i hin wx
  have hw1 := wts_take_le (els o) i
  have hw2 := wts_drop_le (els o) i
  have HF : Hid (FRel w.heap.size w2 n (.slice a3 n3 n3) o) := hF
  have h1 := toHid (factString_any _ N V a3 n3 n3 o w2 hF hsum)
  clear hF ha4
  go_wp2_with fail
  refine h1.out.mono ?_
  rintro e w3 ⟨rfl, hb3⟩
  have h2 := toHid (factString_any _ N ⟨#[]⟩ a3 i n3 (o.map (·.take i)) w3 (FRel.take (FRel.later hb3 HF.out) i hin) (by rw [els_map o _ (by simp)]; show N.size + 0 + _ ≤ _; omega))
  generalize hS : (⟨(factText N o V).toArray⟩ : ByteArray) = S
  have HS : Hid (⟨(factText N o V).toArray⟩ = S) := hS
  have hb3' : Below w.heap.size w w3 := Below.to hb2 (Nat.le_refl _) hb3
  clear h1 hS
  go_wp2_with fail
  refine h2.out.mono ?_
  rintro e w4 ⟨rfl, hb4⟩
  have h3 := toHid (factString_any _ ⟨#[]⟩ ⟨#[]⟩ a4 (n3 - i) (n3 - i) (o.map (·.drop i)) w4 (FRel.drop (FRel.later hb4 (FRel.later hb3 HF.out)) i hin HA4.out) (by rw [els_map o _ (by simp)]; show 0 + 0 + _ ≤ _; omega))
  generalize hS2 : (⟨(factText N (o.map (·.take i)) ⟨#[]⟩).toArray⟩ : ByteArray) = SL
  have HS2 : Hid (⟨(factText N (o.map (·.take i)) ⟨#[]⟩).toArray⟩ = SL) := hS2
  have hb4' : Below w.heap.size w w4 := Below.to hb3' (Nat.le_refl _) hb4
  clear h2 hS2
  go_wp2_with fail
  refine h3.out.mono ?_
  rintro e w5 ⟨rfl, hb5⟩
  generalize hS3 : (⟨(factText (⟨#[]⟩ : ByteArray) (o.map (·.drop i)) ⟨#[]⟩).toArray⟩ : ByteArray) = SR
  have HS3 : Hid (⟨(factText (⟨#[]⟩ : ByteArray) (o.map (·.drop i)) ⟨#[]⟩).toArray⟩ = SR) := hS3
  have hb5' : Below w.heap.size w w5 := Below.to hb4' (Nat.le_refl _) hb5
  clear h3 hS3 hsl1 hsl2 HF HA4 hb2 hb3 hb4 hb5 hb3' hb4'
  obtain ⟨A, hA⟩ : ∃ A, A = joinB (texts ((els o).take i) 1) := ⟨_, rfl⟩
  obtain ⟨B, hB⟩ : ∃ B, B = joinB (texts ((els o).drop i) 1) := ⟨_, rfl⟩
  have HL : Hid (SL.data.toList = N.data.toList ++ [40] ++ A ++ [41]) := by
    show SL.data.toList = _
    rw [← HS2.out, factText_two, els_map o _ (by simp), List.toList_toArray, hA]
  have HR : Hid (SR.data.toList = [40] ++ B ++ [41]) := by
    show SR.data.toList = _
    rw [← HS3.out, factText_two, els_map o _ (by simp), List.toList_toArray, hB]; rfl
  have HT : Hid (S.data.toList = N.data.toList ++ [40] ++ (A ++ (if 0 < i ∧ i < n3 then [44, 32] else []) ++ B) ++ [41] ++ (if V.size = 0 then [] else [32, 61, 32] ++ V.data.toList)) := by
    show S.data.toList = _
    rw [← HS.out, factText_eq, List.toList_toArray, join_cut (els o) i 1 (by rw [← Hn0.out]; exact hin), ← Hn0.out, hA, hB]
  have hAl : A.length ≤ 1048576 := by rw [hA]; have := join_wts ((els o).take i) 1; omega
  have hBl : B.length ≤ 1048576 := by rw [hB]; have := join_wts ((els o).drop i) 1; omega
  clear hA hB HS HS2 HS3 Hn0
  have hLs : SL.size = N.size + A.length + 2 := by
    rw [← size_data, HL.out]; simp only [List.length_append, size_data, List.length_cons, List.length_nil]; omega
  have hRs : SR.size = B.length + 2 := by
    rw [← size_data, HR.out]; simp only [List.length_append, List.length_cons, List.length_nil]; omega
  have E1 : Hid ((SL.extract 0 (SL.size - 1)).data.toList = N.data.toList ++ [40] ++ A) := by
    show (SL.extract 0 (SL.size - 1)).data.toList = _
    rw [Lib.extract_data, HL.out, hLs]
    exact take_init _ _ (by simp only [List.length_append, size_data, List.length_cons, List.length_nil]; omega)
  have E2 : Hid ((SR.extract 1 SR.size).data.toList = B ++ [41]) := by
    show (SR.extract 1 SR.size).data.toList = _
    rw [Lib.extract_data, HR.out, hRs]
    show (B ++ [41]).take _ = _
    exact List.take_of_length_le (by simp only [List.length_append, List.length_cons, List.length_nil]; omega)
  have P1 : Hid (∀ wx, Calls Try.prog 8 #[.string SL, .string (N ++ ⟨#[40]⟩)] wx fun e w' => e = .returned (.bool true) ∧ Below wx.heap.size wx w') := fun wx => prefix_list SL _ (A ++ [41]) wx (by omega) (by rw [HL.out, dat_append]; simp [List.append_assoc])
  have P2 : Hid (∀ wx, Calls Try.prog 9 #[.string SL, .string ⟨#[41]⟩] wx fun e w' => e = .returned (.bool true) ∧ Below wx.heap.size wx w') := fun wx => suffix_list SL _ (N.data.toList ++ [40] ++ A) wx (by omega) HL.out
  have P3 : Hid (∀ wx, Calls Try.prog 8 #[.string SR, .string ⟨#[40]⟩] wx fun e w' => e = .returned (.bool true) ∧ Below wx.heap.size wx w') := fun wx => prefix_list SR _ (B ++ [41]) wx (by omega) (by rw [HR.out]; simp)
  have P4 : Hid (∀ wx, Calls Try.prog 9 #[.string SR, .string ⟨#[41]⟩] wx fun e w' => e = .returned (.bool true) ∧ Below wx.heap.size wx w') := fun wx => suffix_list SR _ ([40] ++ B) wx (by omega) HR.out
  have hHs : Hid (SL.size = N.size + A.length + 2 ∧ SR.size = B.length + 2) := ⟨hLs, hRs⟩
  have g1 : 1 ≤ SL.size := by omega
  have g2 : 1 ≤ SR.size := by omega
  have g3 : SL.size ≤ 4194304 := by omega
  have g4 : SR.size ≤ 4194304 := by omega
  clear hLs hRs
  go_wp2_with (first | (go_at_call 8; refine (P1.out _).mono ?_; rintro e w6 ⟨rfl, hb6⟩; clear P1) | (go_at_call 9; refine (P2.out _).mono ?_; rintro e w7 ⟨rfl, hb7⟩; clear P2) | (go_at_call 8; refine (P3.out _).mono ?_; rintro e w8 ⟨rfl, hb8⟩; clear P3) | (go_at_call 9; refine (P4.out _).mono ?_; rintro e w9 ⟨rfl, hb9⟩; clear P4))
  all_goals go_ret
  all_goals refine ⟨ret_bool' ?_, Below.to (Below.to (Below.to (Below.to hb5' (Nat.le_refl _) hb6) (Nat.le_refl _) hb7) (Nat.le_refl _) hb8) (Nat.le_refl _) hb9⟩
  all_goals rw [beq_iff_eq, ByteArray.toList_eq, ByteArray.toList_eq]
  all_goals simp only [dat_append, E1.out, E2.out, HT.out]
  · rw [if_pos ⟨‹0 < i›, ‹i < n3›⟩, if_neg (full_of ‹_›)]; simp
  · rw [if_pos ⟨‹0 < i›, ‹i < n3›⟩, if_pos (void_of ‹_›)]; simp
  · rw [if_neg (fun h => ‹¬ i < n3› h.2), if_neg (full_of ‹_›)]; simp
  · rw [if_neg (fun h => ‹¬ i < n3› h.2), if_pos (void_of ‹_›)]; simp
  · rw [if_neg (fun h => ‹¬ 0 < i› h.1), if_neg (full_of ‹_›)]; simp
  · rw [if_neg (fun h => ‹¬ 0 < i› h.1), if_pos (void_of ‹_›)]; simp
end Go.Proofs.Qxb6631248a
