/-
  THE WALKS OF THE FUNCTIONS ON THE ROAD: allDigitsB1 (7), pow10B1 (8), number.Digits (6), the two byte guards (5, 9).
-/
import Derived.Test.Qxb6630472aPlain
import Derived.Test.Qxb6630472aProg
import Derived.WalkKit
import Derived.WalkSpells
namespace Go.Proofs.Qxb6630472a
open Go.RowKit
open Plain

/-- The bytes 'xs' lie in block b from place 'off' on. -/
def Row (w : World) (b off : Nat) (xs : List Int) : Prop := ∀ j, (h : j < xs.length) → w.cell? ⟨b, off + j, none⟩ = some (.int .u8 xs[j]) ∧ 0 ≤ xs[j] ∧ xs[j] ≤ 255

theorem ret_int {k : IntKind} {a b : Int} (h : a = b) : Ending.returned (.int k a) = .returned (.int k b) := by rw [h]
theorem ret_bool {a b : Bool} (h : a = b) : Ending.returned (.bool a) = .returned (.bool b) := by rw [h]
theorem ret_two {a b : Int} {c d : Bool} (h : a = b) (h' : c = d) : Ending.returned (.tuple #[.int .i64 a, .bool c]) = .returned (.tuple #[.int .i64 b, .bool d]) := by rw [h, h']

set_option maxHeartbeats 400000 in
theorem pow_any (k : Nat) (w : World) (hk : k ≤ 18) :
    Calls Try.prog 8 #[.int .i64 k] w fun e w' => e = .returned (.int .i64 (pow k)) ∧ w' = w := by
  go_enter Try.func8, Try.ntmps8
  go_wp2
  go_loop [3, 4] (fun p i => ∃ j : Nat, j ≤ k ∧ i = .int .i64 j ∧ p = .int .i64 (pow j)) (fun _ i => k - (intOf i).toNat)
  case atStart => exact ⟨0, Nat.zero_le _, rfl, rfl⟩
  case round =>
    obtain ⟨j, hj, rfl, rfl⟩ := hrel
    have h1 := pow_pos j
    by_cases hlt : j < k
    · have h2 : pow j ≤ 100000000000000000 := by
        have := pow_mono j 17 (by omega)
        have e : pow 17 = 100000000000000000 := by decide
        omega
      go_wp2
      go_round
      case rel => exact ⟨j + 1, by omega, by go_num, by rw [pow_succ]⟩
      case measure => simp [intOf]; omega
    · go_wp2
      go_ret
      exact ⟨ret_int (by rw [show j = k from by omega]), rfl⟩

set_option maxHeartbeats 400000 in
theorem all_any (b off cap n : Nat) (xs : List Int) (w : World) (hrow : Row w b off xs) (hn : Hid (xs.length = n)) (hb : n ≤ 1048576) :
    Calls Try.prog 7 #[.slice (some ⟨b, off, none⟩) n cap] w fun e w' => e = .returned (.bool (allDig xs)) ∧ w' = w := by
  go_enter Try.func7, Try.ntmps7
  go_wp2
  go_loop [3] (fun i => ∃ k : Nat, k ≤ n ∧ i = .int .i64 k ∧ allDig (xs.take k) = true) (fun i => n - (intOf i).toNat)
  case atStart => exact ⟨0, Nat.zero_le _, rfl, rfl⟩
  case round =>
    obtain ⟨k, hk, rfl, ha⟩ := hrel
    have HA : Hid (allDig (xs.take k) = true) := ha
    clear ha
    by_cases hlt : k < n
    · have hkx : k < xs.length := by rw [hn.out]; exact hlt
      obtain ⟨c, hc⟩ : ∃ c, c = xs[k] := ⟨_, rfl⟩
      have HC : Hid (c = xs[k]) := hc
      obtain ⟨hcell, hc0, hc1⟩ := hrow k hkx
      rw [← hc] at hcell hc0 hc1
      clear hc
      by_cases h1 : 48 ≤ c
      · by_cases h2 : c ≤ 57
        · go_wp2
          go_round
          case rel => exact ⟨k + 1, by omega, by go_num, by rw [allDig_step _ _ hkx, HA.out, ← HC.out, dig_mk h1 h2]; rfl⟩
          case measure => simp [intOf]; omega
        · go_wp2
          go_ret
          exact ⟨ret_bool (by rw [allDig_bad _ _ hkx (by rw [← HC.out]; exact dig_no (by omega))]), rfl⟩
      · go_wp2
        go_ret
        exact ⟨ret_bool (by rw [allDig_bad _ _ hkx (by rw [← HC.out]; exact dig_no (by omega))]), rfl⟩
    · go_wp2
      go_ret
      exact ⟨ret_bool (by rw [← HA.out, List.take_of_length_le (by have := hn.out; omega)]), rfl⟩

set_option maxHeartbeats 400000 in
/-- Too short or too long: refused, whatever lies there. -/
theorem digits_len (ao : Option Addr) (n cap : Nat) (w : World) (h : n = 0 ∨ 18 < n) (hb : n ≤ 1048576) :
    Calls Try.prog 6 #[.slice ao n cap] w fun e w' => e = .returned (.tuple #[.int .i64 0, .bool false]) ∧ w' = w := by
  rcases h with rfl | h
  · go_enter Try.func6, Try.ntmps6
    go_wp2
    go_ret2
    exact ⟨rfl, rfl⟩
  · have hz : ((n : Int) == 0) = false := by simp; omega
    have hd : decide ((18 : Int) < (n : Int)) = true := decide_eq_true (by omega)
    go_enter Try.func6, Try.ntmps6
    go_wp2
    go_ret2
    exact ⟨rfl, rfl⟩

set_option maxHeartbeats 400000 in
theorem digits_in (b off cap n : Nat) (xs : List Int) (w : World) (hrow : Row w b off xs) (hn : Hid (xs.length = n)) (h1 : 1 ≤ n) (h18 : n ≤ 18) :
    Calls Try.prog 6 #[.slice (some ⟨b, off, none⟩) n cap] w fun e w' => e = .returned (.tuple #[.int .i64 (dN xs), .bool (dOk xs)]) ∧ w' = w := by
  have hz : ((n : Int) == 0) = false := by simp; omega
  have hd : decide ((18 : Int) < (n : Int)) = false := decide_eq_false (by omega)
  go_enter Try.func6, Try.ntmps6
  go_wp2
  go_loop [2, 16] (fun v i => ∃ k : Nat, k ≤ n ∧ i = .int .i64 k ∧ v = .int .i64 (val (xs.take k)) ∧ allDig (xs.take k) = true) (fun _ i => n - (intOf i).toNat)
  case atStart => exact ⟨0, Nat.zero_le _, rfl, rfl, rfl⟩
  case round =>
    obtain ⟨k, hk, rfl, rfl, ha⟩ := hrel
    have HA : Hid (allDig (xs.take k) = true) := ha
    by_cases hlt : k < n
    · have hkx : k < xs.length := by rw [hn.out]; exact hlt
      obtain ⟨v0, v1⟩ := val_take_bd' xs k ha (by omega)
      clear ha
      obtain ⟨c, hc⟩ : ∃ c, c = xs[k] := ⟨_, rfl⟩
      have HC : Hid (c = xs[k]) := hc
      obtain ⟨hcell, hc0, hc1⟩ := hrow k hkx
      rw [← hc] at hcell hc0 hc1
      clear hc
      have HV : Hid (val (xs.take (k + 1)) = 10 * val (xs.take k) + (c - 48)) := by rw [HC.out]; exact val_step xs k hkx
      by_cases g1 : 48 ≤ c
      · by_cases g2 : c ≤ 57
        · go_wp2
          go_round
          case rel => exact ⟨k + 1, by omega, by go_num, by rw [HV.out], by rw [allDig_step _ _ hkx, HA.out, ← HC.out, dig_mk g1 g2]; rfl⟩
          case measure => simp [intOf]; omega
        · go_wp2
          go_ret2
          have hbad := dOk_bad (allDig_bad _ _ hkx (by rw [← HC.out]; exact dig_no (by omega)))
          exact ⟨ret_two (dN_no hbad).symm hbad.symm, rfl⟩
      · go_wp2
        go_ret2
        have hbad := dOk_bad (allDig_bad _ _ hkx (by rw [← HC.out]; exact dig_no (by omega)))
        exact ⟨ret_two (dN_no hbad).symm hbad.symm, rfl⟩
    · clear ha
      go_wp2
      go_ret2
      have hx : xs.take k = xs := List.take_of_length_le (by have := hn.out; omega)
      have hok : dOk xs = true := dOk_mk (by rw [hn.out]; exact h1) (by rw [hn.out]; exact h18) (by rw [← hx]; exact HA.out)
      exact ⟨ret_two (by rw [hx, dN_ok hok]) hok.symm, rfl⟩

/-- Digits, for every text: the two ways together. -/
theorem digits_any (b off cap n : Nat) (xs : List Int) (w : World) (hrow : Row w b off xs) (hn : Hid (xs.length = n)) (hb : n ≤ 1048576) :
    Calls Try.prog 6 #[.slice (some ⟨b, off, none⟩) n cap] w fun e w' => e = .returned (.tuple #[.int .i64 (dN xs), .bool (dOk xs)]) ∧ w' = w := by
  by_cases h : 1 ≤ n ∧ n ≤ 18
  · exact digits_in b off cap n xs w hrow hn h.1 h.2
  · have hno := dOk_len (l := xs) (by have := hn.out; omega)
    rw [dN_no hno, hno]
    exact digits_len _ n cap w (by omega) hb

set_option maxHeartbeats 400000 in
theorem bytes_no (ao : Option Addr) (n cap : Nat) (w : World) (h : 1048576 < n) (hb : n ≤ maxLen) :
    Calls Try.prog 5 #[.slice ao n cap] w fun e w' => e = .returned (.bool false) ∧ w' = w := by
  unfold maxLen at hb
  go_enter Try.func5, Try.ntmps5
  go_wp2
  go_ret
  exact ⟨rfl, rfl⟩
set_option maxHeartbeats 400000 in
theorem bytes_yes (ao : Option Addr) (n cap : Nat) (w : World) (h : n ≤ 1048576) :
    Calls Try.prog 5 #[.slice ao n cap] w fun e w' => e = .returned (.bool true) ∧ w' = w := by
  go_enter Try.func5, Try.ntmps5
  go_wp2
  go_ret
  exact ⟨rfl, rfl⟩
/-- The other guard: some answer, where it isn't forced. -/
theorem bytes2_no (ao ao' : Option Addr) (n cap n' cap' : Nat) (w : World) (h : 1048576 < n ∨ 1048576 < n' ∨ 1048576 < n + n') (hb : n ≤ maxLen) (hb' : n' ≤ maxLen) :
    Calls Try.prog 9 #[.slice ao n cap, .slice ao' n' cap'] w fun e w' => e = .returned (.bool false) ∧ w' = w := by
  unfold maxLen at hb hb'
  by_cases h1 : 1048576 < n
  · clear h
    go_enter Try.func9, Try.ntmps9
    go_wp2
    go_ret
    exact ⟨rfl, rfl⟩
  · by_cases h2 : 1048576 < n'
    · clear h
      go_enter Try.func9, Try.ntmps9
      go_wp2
      go_ret
      exact ⟨rfl, rfl⟩
    · have h3 : 1048576 < n + n' := by omega
      clear h
      go_enter Try.func9, Try.ntmps9
      go_wp2
      go_ret
      exact ⟨rfl, rfl⟩
theorem bytes2_yes (ao ao' : Option Addr) (n cap n' cap' : Nat) (w : World) (h : n + n' ≤ 1048576) :
    Calls Try.prog 9 #[.slice ao n cap, .slice ao' n' cap'] w fun e w' => e = .returned (.bool true) ∧ w' = w := by
  go_enter Try.func9, Try.ntmps9
  go_wp2
  go_ret
  exact ⟨rfl, rfl⟩
end Go.Proofs.Qxb6630472a
