/-
  THE PLAIN LAW OF THE BITS: no Go in sight. A text is a list of numbers (its bytes).
-/
namespace Go.Proofs.Qxb6630518aFmt.Plain

/-- Bit k of a byte, the high bit being bit 0. -/
def bit (c : Int) (k : Nat) : Bool := c.toNat.testBit (7 - k)
/-- Bit i of a row of bytes. -/
def bitAt (l : List Int) (i : Nat) : Bool := bit (l.getD (i / 8) 0) (i % 8)

theorem bitAt_eq (l : List Int) (i : Nat) (c : Int) (h : i / 8 < l.length) (hc : c = l[i / 8]) : bitAt l i = bit c (i % 8) := by
  unfold bitAt; rw [hc]; simp [List.getD, h]

/-- 'c & (0x80 >> k) != 0' is bit k. -/
theorem and_mask : ∀ c : Fin 256, ∀ k : Fin 8, ((c.val &&& (128 / 2 ^ k.val)) != 0) = c.val.testBit (7 - k.val) := by decide +kernel
/-- '(c >> (7 - k)) & 1 == 1' is bit k. -/
theorem shift_bit : ∀ c : Fin 256, ∀ k : Fin 8, (((c.val / 2 ^ (7 - k.val)) &&& 1) == 1) = c.val.testBit (7 - k.val) := by decide +kernel
/-- The spare low bits: 'c & (1<<s - 1) != 0' says that one of the bits k, 8 - s ≤ k < 8, is set. -/
theorem spare_mask : ∀ c : Fin 256, ∀ r : Fin 8, ((c.val &&& (2 ^ (8 - r.val) - 1)) != 0) = (List.range 8).any (fun k => decide (r.val ≤ k) && c.val.testBit (7 - k)) := by decide +kernel
end Go.Proofs.Qxb6630518aFmt.Plain
