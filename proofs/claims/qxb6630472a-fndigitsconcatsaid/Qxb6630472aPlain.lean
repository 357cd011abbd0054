/-
  THE PLAIN LAW OF 'number.Digits': no Go in sight. A text is a list of numbers (its bytes).
-/
namespace Go.Proofs.Qxb6630472a.Plain

/-- Is the byte an ASCII digit? -/
def dig (c : Int) : Bool := decide (48 ≤ c) && decide (c ≤ 57)
def allDig (l : List Int) : Bool := l.all dig
/-- The number that a row of digits writes. -/
def val (l : List Int) : Int := l.foldl (fun n c => 10 * n + (c - 48)) 0
/-- What Digits answers: is the text taken, and the number. -/
def dOk (l : List Int) : Bool := decide (1 ≤ l.length) && decide (l.length ≤ 18) && allDig l
def dN (l : List Int) : Int := if dOk l = true then val l else 0
/-- Ten to the power k. -/
def pow (k : Nat) : Int := (10 : Int) ^ k

theorem pow_zero : pow 0 = 1 := rfl
theorem pow_succ (k : Nat) : pow (k + 1) = pow k * 10 := by unfold pow; rw [Int.pow_succ]
theorem pow_pos (k : Nat) : 1 ≤ pow k := by
  induction k with
  | zero => decide
  | succ k ih => rw [pow_succ]; omega
theorem pow_mono (a b : Nat) (h : a ≤ b) : pow a ≤ pow b := by
  induction b with
  | zero => obtain rfl : a = 0 := by omega
            exact Int.le_refl _
  | succ b ih =>
    by_cases e : a = b + 1
    · subst e; exact Int.le_refl _
    · have := ih (by omega); have := pow_pos b; rw [pow_succ]; omega
theorem pow_18 : pow 18 = 1000000000000000000 := by decide
theorem pow_le (k : Nat) (h : k ≤ 18) : pow k ≤ 1000000000000000000 := by rw [← pow_18]; exact pow_mono k 18 h

theorem val_nil : val [] = 0 := rfl
theorem val_snoc (l : List Int) (c : Int) : val (l ++ [c]) = 10 * val l + (c - 48) := by unfold val; rw [List.foldl_append]; rfl
theorem allDig_snoc (l : List Int) (c : Int) : allDig (l ++ [c]) = (allDig l && dig c) := by simp [allDig]
theorem allDig_append (a b : List Int) : allDig (a ++ b) = (allDig a && allDig b) := by simp [allDig]
theorem dig_true {c : Int} (h : dig c = true) : 48 ≤ c ∧ c ≤ 57 := by simpa [dig] using h
theorem dig_mk {c : Int} (h1 : 48 ≤ c) (h2 : c ≤ 57) : dig c = true := by simp [dig, h1, h2]
theorem dig_no {c : Int} (h : ¬ (48 ≤ c ∧ c ≤ 57)) : dig c = false := by
  simp only [dig, Bool.and_eq_false_iff, decide_eq_false_iff_not]; omega

theorem snoc_rec {P : List Int → Prop} (h0 : P []) (h1 : ∀ l c, P l → P (l ++ [c])) : ∀ l, P l := by
  intro l
  have : ∀ n (l : List Int), l.length = n → P l := by
    intro n
    induction n with
    | zero => intro l h; rw [List.eq_nil_of_length_eq_zero h]; exact h0
    | succ n ih =>
      intro l h
      have hne : l ≠ [] := by intro e; subst e; simp at h
      rw [← List.dropLast_concat_getLast hne]
      exact h1 _ _ (ih _ (by simp [h]))
  exact this _ l rfl

/-- A row of digits writes a number in [0, 10^length). -/
theorem val_bd : ∀ l : List Int, allDig l = true → 0 ≤ val l ∧ val l < pow l.length := by
  refine snoc_rec (fun _ => by decide) ?_
  intro l c ih h
  rw [allDig_snoc, Bool.and_eq_true] at h
  have := ih h.1
  have hc := dig_true h.2
  rw [val_snoc, List.length_append, List.length_singleton, pow_succ]
  omega

theorem allDig_take {l : List Int} (h : allDig l = true) (k : Nat) : allDig (l.take k) = true := by
  unfold allDig at *
  rw [List.all_eq_true] at *
  intro x hx
  exact h x (List.mem_of_mem_take hx)
theorem dig_at {l : List Int} (h : allDig l = true) (k : Nat) (hk : k < l.length) : dig l[k] = true := by
  unfold allDig at h
  rw [List.all_eq_true] at h
  exact h _ (List.getElem_mem hk)
theorem take_step (l : List Int) (k : Nat) (hk : k < l.length) : l.take (k + 1) = l.take k ++ [l[k]] := List.take_succ_eq_append_getElem hk
theorem val_step (l : List Int) (k : Nat) (hk : k < l.length) : val (l.take (k + 1)) = 10 * val (l.take k) + (l[k] - 48) := by rw [take_step l k hk, val_snoc]
theorem allDig_step (l : List Int) (k : Nat) (hk : k < l.length) : allDig (l.take (k + 1)) = (allDig (l.take k) && dig l[k]) := by rw [take_step l k hk, allDig_snoc]
theorem val_take_bd (l : List Int) (k : Nat) (h : allDig (l.take k) = true) (hk : k ≤ 18) : 0 ≤ val (l.take k) ∧ val (l.take k) < 1000000000000000000 := by
  have h1 := val_bd _ h
  have h2 := pow_le (l.take k).length (Nat.le_trans (List.length_take_le _ _) hk)
  omega
/-- In the midst of a text of digits: fewer than eighteen are read. -/
theorem val_take_bd' (l : List Int) (k : Nat) (h : allDig (l.take k) = true) (hk : k ≤ 17) : 0 ≤ val (l.take k) ∧ val (l.take k) < 100000000000000000 := by
  have h1 := val_bd _ h
  have h2 := pow_mono (l.take k).length 17 (Nat.le_trans (List.length_take_le _ _) hk)
  have h3 : pow 17 = 100000000000000000 := by decide
  omega
/-- A byte that is no digit: the whole is not taken. -/
theorem allDig_bad (l : List Int) (k : Nat) (hk : k < l.length) (h : dig l[k] = false) : allDig l = false := by
  cases e : allDig l with
  | false => rfl
  | true => have := dig_at e k hk; rw [h] at this; cases this

/-! ### the two parts of a text -/
theorem val_append (a : List Int) : ∀ b : List Int, val (a ++ b) = val a * pow b.length + val b := by
  refine snoc_rec (by simp [val_nil, pow_zero]) ?_
  intro b c ih
  rw [← List.append_assoc, val_snoc, val_snoc, ih, List.length_append, List.length_singleton, pow_succ, ← Int.mul_assoc]
  omega
theorem val_mod (l : List Int) (hl : 0 < l.length) (hd : allDig l = true) : val l % 10 = l[l.length - 1] - 48 := by
  have h := val_step l (l.length - 1) (by omega)
  rw [show l.length - 1 + 1 = l.length from by omega, List.take_length] at h
  have := dig_true (dig_at hd (l.length - 1) (by omega))
  omega

theorem dOk_parts {l : List Int} (h : dOk l = true) : 1 ≤ l.length ∧ l.length ≤ 18 ∧ allDig l = true := by
  simp only [dOk, Bool.and_eq_true, decide_eq_true_eq] at h; exact ⟨h.1.1, h.1.2, h.2⟩
theorem dOk_mk {l : List Int} (h1 : 1 ≤ l.length) (h2 : l.length ≤ 18) (h3 : allDig l = true) : dOk l = true := by simp [dOk, h1, h2, h3]
theorem dOk_bad {l : List Int} (h3 : allDig l = false) : dOk l = false := by simp [dOk, h3]
theorem dOk_len {l : List Int} (h : l.length = 0 ∨ 18 < l.length) : dOk l = false := by
  simp only [dOk, Bool.and_eq_false_iff, decide_eq_false_iff_not]; omega
theorem dOk_want (l : List Int) (h1 : 1 ≤ l.length) (h2 : l.length ≤ 18) : dOk l = allDig l := by simp [dOk, h1, h2]
theorem dN_ok {l : List Int} (h : dOk l = true) : dN l = val l := by simp [dN, h]
theorem dN_no {l : List Int} (h : dOk l = false) : dN l = 0 := by simp [dN, h]
theorem dN_bd {l : List Int} (h : dOk l = true) : 0 ≤ dN l ∧ dN l < pow l.length := by
  rw [dN_ok h]; exact val_bd _ (dOk_parts h).2.2
theorem dN_rng (l : List Int) : 0 ≤ dN l ∧ dN l < 1000000000000000000 := by
  cases e : dOk l with
  | false => rw [dN_no e]; decide
  | true =>
    have := dN_bd e
    have := pow_le _ (dOk_parts e).2.1
    omega
theorem dN_mod {l : List Int} (h : dOk l = true) (hl : 0 < l.length) : dN l % 10 = l[l.length - 1] - 48 := by
  rw [dN_ok h]; exact val_mod l hl (dOk_parts h).2.2
theorem dOk_append (a b : List Int) (ha : 1 ≤ a.length) (hb : 1 ≤ b.length) :
    dOk (a ++ b) = (dOk a && dOk b && decide ((a ++ b).length ≤ 18)) := by
  unfold dOk
  rw [allDig_append, List.length_append, Bool.eq_iff_iff]
  cases allDig a <;> cases allDig b <;> simp <;> omega
theorem dN_append (a b : List Int) (ha : 1 ≤ a.length) (hb : 1 ≤ b.length) (h : dOk (a ++ b) = true) : dN (a ++ b) = dN a * pow b.length + dN b := by
  have h' := h
  rw [dOk_append a b ha hb, Bool.and_eq_true, Bool.and_eq_true] at h'
  rw [dN_ok h, dN_ok h'.1.1, dN_ok h'.1.2, val_append]
/-- The product stays below 10^18. -/
theorem prod_bd (a b : List Int) (ha : 1 ≤ a.length) (hb : 1 ≤ b.length) (h : dOk (a ++ b) = true) : 0 ≤ dN a * pow b.length ∧ dN a * pow b.length < 1000000000000000000 := by
  have e := dN_append a b ha hb h
  have r := dN_rng (a ++ b)
  have rb := dN_rng b
  have ra := dN_rng a
  have p := pow_pos b.length
  exact ⟨Int.mul_nonneg ra.1 (by omega), by omega⟩
end Go.Proofs.Qxb6630472a.Plain
