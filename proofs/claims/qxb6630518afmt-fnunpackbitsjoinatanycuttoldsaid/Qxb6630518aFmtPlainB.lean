/-
  THE PLAIN LAW OF THE BITS, MORE: a cut at any place; how many are set. No Go in sight.
-/
import Derived.Test.Qxb6630518aFmtPlain
namespace Go.Proofs.Qxb6630518aFmt.Plain

theorem bitAt_take (xs : List Int) (k j : Nat) (h : j < 8 * k) : bitAt (xs.take k) j = bitAt xs j := by
  unfold bitAt
  have e : j / 8 < k := by omega
  simp [List.getD, e]
theorem bitAt_drop (xs : List Int) (k j : Nat) : bitAt (xs.drop k) j = bitAt xs (8 * k + j) := by
  unfold bitAt
  rw [show (8 * k + j) / 8 = k + j / 8 from by omega, show (8 * k + j) % 8 = j % 8 from by omega]
  simp [List.getD]

/-- How many bits of a byte are set. -/
def popc (c : Int) : Nat := ((List.range 8).filter (bit c)).length
/-- How many of the first n bits of a row are set. -/
def cnt (xs : List Int) : Nat → Nat
  | 0 => 0
  | n + 1 => cnt xs n + if bitAt xs n = true then 1 else 0
/-- How many bits of the first n bytes of a row are set. -/
def pops (xs : List Int) : Nat → Nat
  | 0 => 0
  | n + 1 => pops xs n + popc (xs.getD n 0)

theorem cnt_zero (xs : List Int) : cnt xs 0 = 0 := rfl
theorem pops_zero (xs : List Int) : pops xs 0 = 0 := rfl
theorem cnt_succ (xs : List Int) (n : Nat) : cnt xs (n + 1) = cnt xs n + if bitAt xs n = true then 1 else 0 := rfl
theorem cnt_le (xs : List Int) (n : Nat) : cnt xs n ≤ n := by
  induction n with
  | zero => exact Nat.le_refl _
  | succ n ih => rw [cnt_succ]; split <;> omega
theorem popc_le (c : Int) : popc c ≤ 8 := by
  unfold popc
  have := List.length_filter_le (bit c) (List.range 8)
  simpa using this
theorem pops_le (xs : List Int) (n : Nat) : pops xs n ≤ 8 * n := by
  induction n with
  | zero => exact Nat.le_refl _
  | succ n ih => have := popc_le (xs.getD n 0); simp only [pops]; omega
theorem pops_succ (xs : List Int) (n : Nat) (c : Int) (h : n < xs.length) (hc : c = xs[n]) : pops xs (n + 1) = pops xs n + popc c := by
  simp only [pops]; rw [hc]; simp [List.getD, h]
theorem popc_zero : popc 0 = 0 := by decide +kernel

theorem cnt_eight (xs : List Int) (n : Nat) : cnt xs (8 * (n + 1)) = cnt xs (8 * n) + popc (xs.getD n 0) := by
  generalize hz : xs.getD n 0 = z
  have hb : ∀ k, k < 8 → bitAt xs (8 * n + k) = bit z k := by
    intro k hk
    unfold bitAt
    rw [show (8 * n + k) / 8 = n from by omega, show (8 * n + k) % 8 = k from by omega, hz]
  have e : ∀ k, k ≤ 8 → cnt xs (8 * n + k) = cnt xs (8 * n) + ((List.range k).filter (bit z)).length := by
    intro k
    induction k with
    | zero => intro _; simp
    | succ k ih =>
      intro hk
      rw [← Nat.add_assoc, cnt_succ, ih (by omega), hb k (by omega), List.range_succ, List.filter_append, List.length_append]
      by_cases h : bit z k = true
      · rw [if_pos h]; simp [h]; omega
      · rw [if_neg h]; simp [h]
  have := e 8 (Nat.le_refl _)
  rw [show 8 * (n + 1) = 8 * n + 8 from by omega, this]; rfl
theorem cnt_pops (xs : List Int) (n : Nat) : cnt xs (8 * n) = pops xs n := by
  induction n with
  | zero => rfl
  | succ n ih => rw [cnt_eight, ih]; rfl

/-- 'x &= x - 1' strikes one bit. -/
theorem kern : ∀ c : Fin 256, c.val ≠ 0 → popc ((c.val &&& (c.val - 1) : Nat) : Int) + 1 = popc (c.val : Int) ∧ (c.val &&& (c.val - 1)) < c.val := by decide +kernel
end Go.Proofs.Qxb6630518aFmt.Plain
