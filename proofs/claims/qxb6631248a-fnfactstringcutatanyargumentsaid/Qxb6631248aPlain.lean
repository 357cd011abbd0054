/-
  THE PLAIN LAW OF FACTS AND TERMS: no Go in sight. A term of depth at most n is a name and, if it has a list of arguments, terms of depth at most n - 1.
-/
namespace Go.Proofs.Qxb6631248a.Plain

def Tm : Nat → Type
  | 0 => Unit
  | n + 1 => ByteArray × Option (List (Tm n))
/-- A term's name and its arguments. -/
def nm {n : Nat} (t : Tm (n + 1)) : ByteArray := Prod.fst t
def ar {n : Nat} (t : Tm (n + 1)) : Option (List (Tm n)) := Prod.snd t
/-- The elements of a slice, nil or not. -/
def els {α : Type} (o : Option (List α)) : List α := o.getD []

/-- The bytes that zzBytes counts. -/
def wt : (n : Nat) → Tm n → Nat
  | 0, _ => 40
  | n + 1, t => 40 + (nm t).size + ((els (ar t)).map (wt n)).sum
def wts {n : Nat} (l : List (Tm n)) : Nat := (l.map (wt n)).sum
theorem wt_succ {n : Nat} (t : Tm (n + 1)) : wt (n + 1) t = 40 + (nm t).size + wts (els (ar t)) := rfl
theorem wts_nil {n : Nat} : wts ([] : List (Tm n)) = 0 := rfl
theorem wts_append {n : Nat} (a b : List (Tm n)) : wts (a ++ b) = wts a + wts b := by simp [wts]
theorem wts_one {n : Nat} (t : Tm n) : wts [t] = wt n t := by simp [wts]
theorem take_step {α : Type} (l : List α) (k : Nat) (hk : k < l.length) : l.take (k + 1) = l.take k ++ [l[k]] := List.take_succ_eq_append_getElem hk
theorem wts_step {n : Nat} (l : List (Tm n)) (k : Nat) (hk : k < l.length) : wts (l.take (k + 1)) = wts (l.take k) + wt n l[k] := by
  rw [take_step l k hk, wts_append, wts_one]
theorem wts_take_le {n : Nat} (l : List (Tm n)) (k : Nat) : wts (l.take k) ≤ wts l := by
  have : wts l = wts (l.take k ++ l.drop k) := by rw [List.take_append_drop]
  rw [this, wts_append]; omega
theorem wt_le_wts {n : Nat} (l : List (Tm n)) (k : Nat) (hk : k < l.length) : wts (l.take k) + wt n l[k] ≤ wts l := by
  rw [← wts_step l k hk]; exact wts_take_le l (k + 1)
theorem wt_ge {n : Nat} (t : Tm (n + 1)) : 40 + (nm t).size ≤ wt (n + 1) t := by rw [wt_succ]; omega
theorem wt_forty : ∀ (n : Nat) (t : Tm n), 40 ≤ wt n t
  | 0, _ => Nat.le_refl _
  | n + 1, t => by have := wt_ge t; omega
theorem len_le {n : Nat} : ∀ l : List (Tm n), 40 * l.length ≤ wts l
  | [] => Nat.zero_le _
  | t :: r => by
    have h1 := len_le r
    have h2 := wt_forty n t
    have h3 : wts (t :: r) = wt n t + wts r := by simp [wts]
    rw [h3, List.length_cons]; omega

/-- How deep it goes. -/
def ht : (n : Nat) → Tm n → Nat
  | 0, _ => 0
  | n + 1, t => 1 + ((els (ar t)).map (ht n)).foldl max 0
def hts {n : Nat} (l : List (Tm n)) : Nat := (l.map (ht n)).foldl max 0
theorem ht_succ {n : Nat} (t : Tm (n + 1)) : ht (n + 1) t = 1 + hts (els (ar t)) := rfl
theorem hts_nil {n : Nat} : hts ([] : List (Tm n)) = 0 := rfl
theorem hts_snoc {n : Nat} (l : List (Tm n)) (t : Tm n) : hts (l ++ [t]) = max (hts l) (ht n t) := by simp [hts, List.foldl_append]
theorem hts_step {n : Nat} (l : List (Tm n)) (k : Nat) (hk : k < l.length) : hts (l.take (k + 1)) = max (hts (l.take k)) (ht n l[k]) := by
  rw [take_step l k hk, hts_snoc]
theorem hts_le_take {n : Nat} (l : List (Tm n)) (k : Nat) : ∀ j, hts (l.take k) ≤ hts (l.take (k + j)) := by
  intro j
  induction j with
  | zero => exact Nat.le_refl _
  | succ j ih =>
    by_cases h : k + j < l.length
    · rw [← Nat.add_assoc, hts_step l (k + j) h]; omega
    · rw [← Nat.add_assoc, List.take_of_length_le (show l.length ≤ k + j + 1 by omega)]
      rw [List.take_of_length_le (show l.length ≤ k + j by omega)] at ih
      exact ih
theorem ht_le_hts {n : Nat} (l : List (Tm n)) (k : Nat) (hk : k < l.length) : ht n l[k] ≤ hts l := by
  have h1 := hts_step l k hk
  have h2 := hts_le_take l (k + 1) (l.length - (k + 1))
  rw [show k + 1 + (l.length - (k + 1)) = l.length from by omega, List.take_length] at h2
  omega
theorem hts_small {n : Nat} (ih : ∀ t : Tm n, 40 * ht n t ≤ wt n t) (l : List (Tm n)) : ∀ k, k ≤ l.length → 40 * hts (l.take k) ≤ wts (l.take k) := by
  intro k
  induction k with
  | zero => intro _; simp [hts, wts]
  | succ k ihk =>
    intro hk
    have h1 := ihk (by omega)
    have h2 := ih l[k]
    rw [hts_step l k (by omega), wts_step l k (by omega)]
    omega
theorem ht_small : ∀ (n : Nat) (t : Tm n), 40 * ht n t ≤ wt n t
  | 0, _ => show 40 * 0 ≤ 40 by decide
  | n + 1, t => by
    have h := hts_small (ht_small n) (els (ar t)) (els (ar t)).length (Nat.le_refl _)
    rw [List.take_length] at h
    rw [ht_succ, wt_succ]; omega
theorem hts_wts {n : Nat} (l : List (Tm n)) : 40 * hts l ≤ wts l := by
  have h := hts_small (ht_small n) l l.length (Nat.le_refl _)
  rwa [List.take_length] at h

/-- Texts joined by a comma and a blank. -/
def joinB : List (List UInt8) → List UInt8
  | [] => []
  | x :: r => x ++ (r.map ([44, 32] ++ ·)).flatten
theorem joinB_nil : joinB [] = [] := rfl
theorem joinB_snoc (l : List (List UInt8)) (x : List UInt8) : joinB (l ++ [x]) = joinB l ++ (if l.length = 0 then [] else [44, 32]) ++ x := by
  cases l with
  | nil => simp [joinB]
  | cons a r => simp [joinB]
theorem joinB_append (a b : List (List UInt8)) (ha : a ≠ []) (hb : b ≠ []) : joinB (a ++ b) = joinB a ++ [44, 32] ++ joinB b := by
  cases a with
  | nil => exact absurd rfl ha
  | cons x r =>
    cases b with
    | nil => exact absurd rfl hb
    | cons y q => simp [joinB]

/-- What a term writes at depth d. -/
def text : (n : Nat) → Tm n → Nat → List UInt8
  | 0, _, _ => []
  | n + 1, t, d => if 20000 < d then [46, 46, 46] else (nm t).data.toList ++ (match ar t with | none => [] | some l => [40] ++ joinB (l.map (fun x => text n x (d + 1))) ++ [41])
def texts {n : Nat} (l : List (Tm n)) (d : Nat) : List (List UInt8) := l.map (fun x => text n x d)
/-- What a name and its arguments write at depth d. -/
def body {n : Nat} (name : ByteArray) (o : Option (List (Tm n))) (d : Nat) : List UInt8 :=
  if 20000 < d then [46, 46, 46] else name.data.toList ++ (match o with | none => [] | some l => [40] ++ joinB (texts l (d + 1)) ++ [41])
theorem text_succ {n : Nat} (t : Tm (n + 1)) (d : Nat) : text (n + 1) t d = body (nm t) (ar t) d := rfl
theorem texts_take {n : Nat} (l : List (Tm n)) (k d : Nat) : texts (l.take k) d = (texts l d).take k := by simp [texts]
theorem texts_drop {n : Nat} (l : List (Tm n)) (k d : Nat) : texts (l.drop k) d = (texts l d).drop k := by simp [texts]
theorem texts_length {n : Nat} (l : List (Tm n)) (d : Nat) : (texts l d).length = l.length := by simp [texts]
theorem join_step {n : Nat} (l : List (Tm n)) (k d : Nat) (hk : k < l.length) :
    joinB (texts (l.take (k + 1)) d) = joinB (texts (l.take k) d) ++ (if k = 0 then [] else [44, 32]) ++ text n l[k] d := by
  rw [take_step l k hk]
  have : texts (l.take k ++ [l[k]]) d = texts (l.take k) d ++ [text n l[k] d] := by simp only [texts, List.map_append, List.map_cons, List.map_nil]
  rw [this, joinB_snoc, texts_length, List.length_take, show min k l.length = k from by omega]

theorem join_small {n : Nat} (d : Nat) (ih : ∀ t : Tm n, (text n t d).length + 2 ≤ wt n t) (l : List (Tm n)) : ∀ k, k ≤ l.length → (joinB (texts (l.take k) d)).length ≤ wts (l.take k) := by
  intro k
  induction k with
  | zero => intro _; simp [texts, joinB]
  | succ k ihk =>
    intro hk
    have h1 := ihk (by omega)
    have h2 := ih l[k]
    rw [join_step l k d (by omega), wts_step l k (by omega), List.length_append, List.length_append]
    split <;> simp <;> omega
theorem size_data (s : ByteArray) : s.data.toList.length = s.size := by rw [Array.length_toList]; rfl
theorem text_small : ∀ (n : Nat) (t : Tm n) (d : Nat), (text n t d).length + 2 ≤ wt n t
  | 0, _, _ => show 0 + 2 ≤ 40 by decide
  | n + 1, t, d => by
    rw [text_succ, wt_succ]
    unfold body
    split
    · simp; omega
    · rw [List.length_append, size_data]
      cases e : ar t with
      | none => simp; omega
      | some l =>
        have h := join_small (d + 1) (fun x => text_small n x (d + 1)) l l.length (Nat.le_refl _)
        rw [List.take_length] at h
        simp [els]; omega
theorem join_le {n : Nat} (l : List (Tm n)) (k d : Nat) (hk : k ≤ l.length) : (joinB (texts (l.take k) d)).length ≤ wts (l.take k) := join_small d (fun t => text_small n t d) l k hk
theorem join_wts {n : Nat} (l : List (Tm n)) (d : Nat) : (joinB (texts l d)).length ≤ wts l := by
  have h := join_le l l.length d (Nat.le_refl _)
  rwa [List.take_length] at h

/-- Where nothing goes past the bound, the depth at which a term stands doesn't matter. -/
theorem text_any : ∀ (n : Nat) (t : Tm n) (d e : Nat), d + ht n t ≤ 20001 → e + ht n t ≤ 20001 → text n t d = text n t e
  | 0, _, _, _, _, _ => rfl
  | n + 1, t, d, e, hd, he => by
    rw [ht_succ] at hd he
    rw [text_succ, text_succ]
    unfold body
    rw [if_neg (by omega), if_neg (by omega)]
    cases h : ar t with
    | none => rfl
    | some l =>
      have hx : texts l (d + 1) = texts l (e + 1) := by
        unfold texts
        apply List.map_congr_left
        intro x hx
        obtain ⟨k, hk, rfl⟩ := List.getElem_of_mem hx
        have := ht_le_hts l k hk
        rw [h] at hd he
        exact text_any n _ (d + 1) (e + 1) (by simp [els] at hd; omega) (by simp [els] at he; omega)
      simp only [hx]
theorem texts_any {n : Nat} (l : List (Tm n)) (h : hts l ≤ 20000) : texts l 1 = texts l 0 := by
  unfold texts
  apply List.map_congr_left
  intro x hx
  obtain ⟨k, hk, rfl⟩ := List.getElem_of_mem hx
  have := ht_le_hts l k hk
  exact text_any n _ 1 0 (by omega) (by omega)

/-- The whole of a list cut at k. -/
theorem join_cut {n : Nat} (l : List (Tm n)) (k d : Nat) (hk : k ≤ l.length) :
    joinB (texts l d) = joinB (texts (l.take k) d) ++ (if 0 < k ∧ k < l.length then [44, 32] else []) ++ joinB (texts (l.drop k) d) := by
  have e : texts l d = texts (l.take k) d ++ texts (l.drop k) d := by
    rw [texts_take, texts_drop, List.take_append_drop]
  by_cases h : 0 < k ∧ k < l.length
  · rw [if_pos h]
    conv => lhs; rw [e]
    exact joinB_append _ _ (by intro h'; have h2 := congrArg List.length h'; rw [texts_length, List.length_take, List.length_nil] at h2; omega) (by intro h'; have h2 := congrArg List.length h'; rw [texts_length, List.length_drop, List.length_nil] at h2; omega)
  · rw [if_neg h]
    by_cases h0 : k = 0
    · subst h0; simp [texts, joinB]
    · have : k = l.length := by omega
      subst this; simp [texts, joinB]
end Go.Proofs.Qxb6631248a.Plain
