/-
  THE TERMS THAT CAME IN, AND THE TWO FUNCTIONS THAT ONLY READ THEM: zzBytes (12), zzHeight (10), zzFactBytes (5).
-/
import Derived.Test.Qxb6631248aPlain
import Derived.Test.Qxb6631248aProg
import Derived.WalkKit
import Derived.WalkSpells
import Derived.Deep.LoopGhost
namespace Go.Proofs.Qxb6631248a
open Go.RowKit
open Plain

/-- IN THE WORLD w THE SLICE VALUE v IS THE LIST o OF TERMS (nil where o is none): each element is a name and, behind it, the slice of its arguments. -/
def IRel (w : World) : (n : Nat) → Value → Option (List (Tm n)) → Prop
  | 0, v, o => (o = none ∧ v = .slice none 0 0) ∨ ∃ (a : Addr) (cap : Nat), o = some [] ∧ v = .slice (some a) 0 cap
  | n + 1, v, o => (o = none ∧ v = .slice none 0 0) ∨ ∃ (a : Addr) (b off cap : Nat) (l : List (Tm (n + 1))), o = some l ∧ v = .slice (some a) l.length cap ∧ l.length ≤ maxLen ∧ (0 < l.length → a = ⟨b, off, none⟩) ∧
      ∀ i, (h : i < l.length) → (nm l[i]).size ≤ maxLen ∧ w.cell? ⟨b, off + i * 2, none⟩ = some (.string (nm l[i])) ∧ ∃ u, w.cell? ⟨b, off + i * 2 + 1, none⟩ = some u ∧ IRel w n u (ar l[i])

theorem ret_int {k : IntKind} {a b : Int} (h : a = b) : Ending.returned (.int k a) = .returned (.int k b) := by rw [h]

/-- What zzBytes answers: the sum, if it is within the limit; else something beyond it. -/
def Sum (acc W r : Nat) : Prop := (acc + W ≤ 1048576 → r = acc + W) ∧ (1048576 < acc + W → 1048576 < r) ∧ r ≤ 4194304

set_option maxHeartbeats 800000 in
theorem bytes_nil (ao : Option Addr) (cap acc : Nat) (w : World) (_ha : acc ≤ 2097152) :
    Calls Try.prog 12 #[.slice ao 0 cap, .int .i64 acc] w fun e w' => e = .returned (.int .i64 acc) ∧ w' = w := by
  go_enter Try.func12, Try.ntmps12
  go_wp2_with fail
  go_loop [1, 5] (fun p i => i = .int .i64 0 ∧ p = .int .i64 acc) (fun _ _ => 0)
  case atStart => exact ⟨rfl, rfl⟩
  case round =>
    obtain ⟨rfl, rfl⟩ := hrel
    go_wp2_with fail
    go_ret
    exact ⟨rfl, rfl⟩

set_option maxHeartbeats 1600000 in
theorem bytes_list {n : Nat} (ih : ∀ (u : Value) (o : Option (List (Tm n))) (acc : Nat) (w : World), IRel w n u o → acc ≤ 2097152 → Calls Try.prog 12 #[u, .int .i64 acc] w fun e w' => ∃ r : Nat, e = .returned (.int .i64 r) ∧ Sum acc (wts (els o)) r ∧ w' = w)
    (b off cap len acc : Nat) (l : List (Tm (n + 1))) (w : World) (hl : Hid (l.length = len)) (hlen : len ≤ maxLen) (ha : acc ≤ 2097152)
    (hc : ∀ i, (h : i < l.length) → (nm l[i]).size ≤ maxLen ∧ w.cell? ⟨b, off + i * 2, none⟩ = some (.string (nm l[i])) ∧ ∃ u, w.cell? ⟨b, off + i * 2 + 1, none⟩ = some u ∧ IRel w n u (ar l[i])) :
    Calls Try.prog 12 #[.slice (some ⟨b, off, none⟩) len cap, .int .i64 acc] w fun e w' => ∃ r : Nat, e = .returned (.int .i64 r) ∧ Sum acc (wts l) r ∧ w' = w := by
  unfold maxLen at hlen
  go_enter Try.func12, Try.ntmps12
  go_wp2_with fail
  go_loop [1, 5] (fun p i => ∃ k A : Nat, k ≤ len ∧ i = .int .i64 k ∧ p = .int .i64 A ∧ A = acc + wts (l.take k) ∧ A ≤ 2097152 ∧ (0 < k → A ≤ 1048576)) (fun _ i => len - (intOf i).toNat)
  case atStart => exact ⟨0, acc, Nat.zero_le _, rfl, rfl, by simp [wts], ha, fun h => absurd h (Nat.lt_irrefl _)⟩
  case round =>
    obtain ⟨k, A, hk, rfl, rfl, hA, hA1, hA2⟩ := hrel
    have HA : Hid (A = acc + wts (l.take k)) := hA
    have HA2 : Hid (0 < k → A ≤ 1048576) := hA2
    clear hA hA2
    by_cases hlt : k < len
    · have hkl : k < l.length := by rw [hl.out]; exact hlt
      obtain ⟨hs, hc0, u, hc1, hu⟩ := hc k hkl
      unfold maxLen at hs
      have HW := wt_le_wts l k hkl
      have HT : Hid (wts (l.take k) + wt (n + 1) l[k] ≤ wts l) := HW
      have HS : Hid (wts (l.take (k + 1)) = wts (l.take k) + wt (n + 1) l[k]) := wts_step l k hkl
      have HE : Hid (wt (n + 1) l[k] = 40 + (nm l[k]).size + wts (els (ar l[k]))) := wt_succ l[k]
      obtain ⟨N, hN⟩ : ∃ N, N = nm l[k] := ⟨_, rfl⟩
      rw [← hN] at hs hc0
      have HN : Hid (N = nm l[k]) := hN
      clear hN HW
      by_cases hA3 : A ≤ 1048576
      · have hd1 : decide ((1048576 : Int) < (A : Int)) = false := decide_eq_false (by omega)
        by_cases hs2 : N.size ≤ 1048576
        · have hd2 : decide ((1048576 : Int) < (N.size : Int)) = false := decide_eq_false (by omega)
          by_cases hB : A + 40 + N.size ≤ 1048576
          · have I : Hid (Calls Try.prog 12 #[u, .int .i64 ((A : Int) + 40 + (N.size : Int))] w fun e w' => ∃ r : Nat, e = .returned (.int .i64 r) ∧ Sum (A + 40 + N.size) (wts (els (ar l[k]))) r ∧ w' = w) := by
              have := ih u _ (A + 40 + N.size) w hu (by omega)
              rw [show (((A + 40 + N.size : Nat)) : Int) = (A : Int) + 40 + (N.size : Int) from by omega] at this
              exact this
            clear ih hc
            go_wp2_with (go_at_call 12; refine I.out.mono ?_; rintro e w' ⟨r, rfl, hr, hw'⟩; subst w')
            all_goals
              have e1 := HA.out
              have e2 := HT.out
              have e3 := HS.out
              have e4 := HE.out
              have e5 : N.size = (nm l[k]).size := by rw [HN.out]
              obtain ⟨r1, r2, r3⟩ := hr
            · have hgt : (1048576 : Int) < (r : Int) := by assumption
              go_ret
              exact ⟨r, rfl, ⟨fun h => by omega, fun h => by omega, r3⟩, rfl⟩
            · have hle : (r : Int) ≤ 1048576 := by assumption
              go_round
              case rel => exact ⟨k + 1, r, by omega, by go_num, rfl, by omega, by omega, fun _ => by omega⟩
              case measure => simp [intOf]; omega
          · clear ih hc
            go_wp2_with fail
            go_ret
            refine ⟨A + 40 + N.size, ret_int (by omega), ⟨fun h => ?_, fun h => by omega, by omega⟩, rfl⟩
            have e1 := HA.out; have e2 := HT.out; have e4 := HE.out
            have e5 : N.size = (nm l[k]).size := by rw [HN.out]
            omega
        · have hd2 : decide ((1048576 : Int) < (N.size : Int)) = true := decide_eq_true (by omega)
          clear ih hc
          go_wp2_with fail
          go_ret
          refine ⟨1048577, rfl, ⟨fun h => ?_, fun h => by omega, by omega⟩, rfl⟩
          have e1 := HA.out; have e2 := HT.out; have e4 := HE.out
          have e5 : N.size = (nm l[k]).size := by rw [HN.out]
          omega
      · have hd1 : decide ((1048576 : Int) < (A : Int)) = true := decide_eq_true (by omega)
        clear ih hc
        go_wp2_with fail
        go_ret
        refine ⟨1048577, rfl, ⟨fun h => ?_, fun h => by omega, by omega⟩, rfl⟩
        have e1 := HA.out; have e2 := HT.out
        omega
    · clear ih hc
      go_wp2_with fail
      go_ret
      have e1 := HA.out
      rw [List.take_of_length_le (by have := hl.out; omega)] at e1
      by_cases h0 : 0 < k
      · have e2 := HA2.out h0
        exact ⟨A, rfl, ⟨fun h => by omega, fun h => by omega, by omega⟩, rfl⟩
      · exact ⟨A, rfl, ⟨fun h => by omega, fun h => by omega, by omega⟩, rfl⟩

/-- zzBytes, for every list of terms. -/
theorem bytes_any : ∀ (n : Nat) (u : Value) (o : Option (List (Tm n))) (acc : Nat) (w : World), IRel w n u o → acc ≤ 2097152 →
    Calls Try.prog 12 #[u, .int .i64 acc] w fun e w' => ∃ r : Nat, e = .returned (.int .i64 r) ∧ Sum acc (wts (els o)) r ∧ w' = w
  | 0, u, o, acc, w, h, ha => by
    rcases h with ⟨rfl, rfl⟩ | ⟨a, cap, rfl, rfl⟩
    · refine (bytes_nil none 0 acc w ha).mono fun e w' ⟨he, hw⟩ => ⟨acc, he, ?_, hw⟩
      exact ⟨fun _ => rfl, fun h => h, by omega⟩
    · refine (bytes_nil _ cap acc w ha).mono fun e w' ⟨he, hw⟩ => ⟨acc, he, ?_, hw⟩
      exact ⟨fun _ => rfl, fun h => h, by omega⟩
  | n + 1, u, o, acc, w, h, ha => by
    rcases h with ⟨rfl, rfl⟩ | ⟨a, b, off, cap, l, rfl, rfl, hlen, hab, hc⟩
    · refine (bytes_nil none 0 acc w ha).mono fun e w' ⟨he, hw⟩ => ⟨acc, he, ?_, hw⟩
      exact ⟨fun _ => rfl, fun h => h, by omega⟩
    · by_cases h0 : 0 < l.length
      · rw [hab h0]
        exact bytes_list (bytes_any n) b off cap l.length acc l w rfl hlen ha hc
      · have hz : l.length = 0 := by omega
        obtain rfl : l = [] := List.eq_nil_of_length_eq_zero hz
        refine (bytes_nil _ cap acc w ha).mono fun e w' ⟨he, hw⟩ => ⟨acc, he, ?_, hw⟩
        exact ⟨fun _ => rfl, fun h => h, by omega⟩

/-! ### zzFactBytes -/
set_option maxHeartbeats 400000 in
theorem fact_far (s t : ByteArray) (u : Value) (w : World) (hs : s.size ≤ maxLen) (ht : t.size ≤ maxLen) (h : 1048576 < s.size ∨ 1048576 < t.size) (hu : ∃ a n c, u = .slice a n c) :
    Calls Try.prog 5 #[.string s, u, .string t] w fun e w' => e = .returned (.int .i64 1048577) ∧ w' = w := by
  unfold maxLen at hs ht
  obtain ⟨a, n, c, rfl⟩ := hu
  by_cases h1 : 1048576 < s.size
  · have hd : decide ((1048576 : Int) < (s.size : Int)) = true := decide_eq_true (by omega)
    clear h
    go_enter Try.func5, Try.ntmps5
    go_wp2_with fail
    go_ret
    exact ⟨rfl, rfl⟩
  · have hd : decide ((1048576 : Int) < (s.size : Int)) = false := decide_eq_false (by omega)
    have hd2 : decide ((1048576 : Int) < (t.size : Int)) = true := decide_eq_true (by omega)
    clear h
    go_enter Try.func5, Try.ntmps5
    go_wp2_with fail
    go_ret
    exact ⟨rfl, rfl⟩
set_option maxHeartbeats 400000 in
theorem fact_in (n : Nat) (s t : ByteArray) (u : Value) (o : Option (List (Tm n))) (w : World) (hs : s.size ≤ 1048576) (ht : t.size ≤ 1048576) (hu : IRel w n u o) :
    Calls Try.prog 5 #[.string s, u, .string t] w fun e w' => ∃ r : Nat, e = .returned (.int .i64 r) ∧ Sum (s.size + t.size) (wts (els o)) r ∧ w' = w := by
  have hd : decide ((1048576 : Int) < (s.size : Int)) = false := decide_eq_false (by omega)
  have hd2 : decide ((1048576 : Int) < (t.size : Int)) = false := decide_eq_false (by omega)
  have I : Hid (Calls Try.prog 12 #[u, .int .i64 ((s.size : Int) + (t.size : Int))] w fun e w' => ∃ r : Nat, e = .returned (.int .i64 r) ∧ Sum (s.size + t.size) (wts (els o)) r ∧ w' = w) := by
    have := bytes_any n u o (s.size + t.size) w hu (by omega)
    rw [show (((s.size + t.size : Nat)) : Int) = (s.size : Int) + (t.size : Int) from by omega] at this
    exact this
  clear hu
  go_enter Try.func5, Try.ntmps5
  go_wp2_with (go_at_call 12; refine I.out.mono ?_; rintro e w' ⟨r, rfl, hr, hw'⟩; subst w')
  go_ret
  exact ⟨r, rfl, hr, rfl⟩

/-! ### zzHeight -/
set_option maxHeartbeats 800000 in
theorem height_nil (ao : Option Addr) (cap : Nat) (w : World) :
    Calls Try.prog 10 #[.slice ao 0 cap] w fun e w' => e = .returned (.int .i64 0) ∧ w' = w := by
  go_enter Try.func10, Try.ntmps10
  go_wp2_with fail
  go_loop [3, 4] (fun p i => i = .int .i64 0 ∧ p = .int .i64 0) (fun _ _ => 0)
  case atStart => exact ⟨rfl, rfl⟩
  case round =>
    obtain ⟨rfl, rfl⟩ := hrel
    go_wp2_with fail
    go_ret
    exact ⟨rfl, rfl⟩

set_option maxHeartbeats 1600000 in
theorem height_list {n : Nat} (ih : ∀ (u : Value) (o : Option (List (Tm n))) (w : World), IRel w n u o → wts (els o) ≤ 1048576 → Calls Try.prog 10 #[u] w fun e w' => e = .returned (.int .i64 (hts (els o))) ∧ w' = w)
    (b off cap len : Nat) (l : List (Tm (n + 1))) (w : World) (hl : Hid (l.length = len)) (hlen : len ≤ maxLen) (ha : wts l ≤ 1048576)
    (hc : ∀ i, (h : i < l.length) → (nm l[i]).size ≤ maxLen ∧ w.cell? ⟨b, off + i * 2, none⟩ = some (.string (nm l[i])) ∧ ∃ u, w.cell? ⟨b, off + i * 2 + 1, none⟩ = some u ∧ IRel w n u (ar l[i])) :
    Calls Try.prog 10 #[.slice (some ⟨b, off, none⟩) len cap] w fun e w' => e = .returned (.int .i64 (hts l)) ∧ w' = w := by
  unfold maxLen at hlen
  go_enter Try.func10, Try.ntmps10
  go_wp2_with fail
  go_loop [3, 4] (fun p i => ∃ k A : Nat, k ≤ len ∧ i = .int .i64 k ∧ p = .int .i64 A ∧ A = hts (l.take k) ∧ A ≤ 2097152) (fun _ i => len - (intOf i).toNat)
  case atStart => exact ⟨0, 0, Nat.zero_le _, rfl, rfl, rfl, by omega⟩
  case round =>
    obtain ⟨k, A, hk, rfl, rfl, hA, hA1⟩ := hrel
    have HA : Hid (A = hts (l.take k)) := hA
    clear hA
    by_cases hlt : k < len
    · have hkl : k < l.length := by rw [hl.out]; exact hlt
      obtain ⟨_, _, u, hc1, hu⟩ := hc k hkl
      have w1 := wt_le_wts l k hkl
      have w2 := wt_succ l[k]
      have w3 := hts_wts (els (ar l[k]))
      have HS : Hid (hts (l.take (k + 1)) = max (hts (l.take k)) (1 + hts (els (ar l[k])))) := by rw [← ht_succ]; exact hts_step l k hkl
      obtain ⟨D, hD⟩ : ∃ D, D = hts (els (ar l[k])) := ⟨_, rfl⟩
      have HD : Hid (D = hts (els (ar l[k]))) := hD
      have hDb : D ≤ 1048576 := by omega
      have I : Hid (Calls Try.prog 10 #[u] w fun e w' => e = .returned (.int .i64 D) ∧ w' = w) := by
        rw [hD]; exact ih u _ w hu (by omega)
      clear ih hc w1 w2 w3 hD
      by_cases hgt : A < 1 + D
      · go_wp2_with (go_at_call 10; refine I.out.mono ?_; rintro e w' ⟨rfl, hw'⟩; subst w')
        go_round
        case rel => exact ⟨k + 1, 1 + D, by omega, by go_num, by go_num, by rw [HS.out, ← HA.out, ← HD.out]; omega, by omega⟩
        case measure => simp [intOf]; omega
      · go_wp2_with (go_at_call 10; refine I.out.mono ?_; rintro e w' ⟨rfl, hw'⟩; subst w')
        go_round
        case rel => exact ⟨k + 1, A, by omega, by go_num, rfl, by rw [HS.out, ← HA.out, ← HD.out]; omega, by omega⟩
        case measure => simp [intOf]; omega
    · clear ih hc
      go_wp2_with fail
      go_ret
      have e1 := HA.out
      rw [List.take_of_length_le (by have := hl.out; omega)] at e1
      exact ⟨ret_int (by rw [e1]), rfl⟩

/-- zzHeight, for every list of terms that the guard let by. -/
theorem height_any : ∀ (n : Nat) (u : Value) (o : Option (List (Tm n))) (w : World), IRel w n u o → wts (els o) ≤ 1048576 →
    Calls Try.prog 10 #[u] w fun e w' => e = .returned (.int .i64 (hts (els o))) ∧ w' = w
  | 0, u, o, w, h, ha => by
    rcases h with ⟨rfl, rfl⟩ | ⟨a, cap, rfl, rfl⟩
    · exact height_nil none 0 w
    · exact height_nil _ cap w
  | n + 1, u, o, w, h, ha => by
    rcases h with ⟨rfl, rfl⟩ | ⟨a, b, off, cap, l, rfl, rfl, hlen, hab, hc⟩
    · exact height_nil none 0 w
    · by_cases h0 : 0 < l.length
      · rw [hab h0]
        exact height_list (height_any n) b off cap l.length l w rfl hlen ha hc
      · have hz : l.length = 0 := by omega
        obtain rfl : l = [] := List.eq_nil_of_length_eq_zero hz
        exact height_nil _ cap w
end Go.Proofs.Qxb6631248a
