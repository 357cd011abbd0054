/-
  A BUILT LIST CUT AT k; prefixes and suffixes by their lists of bytes; the plain law of the cut fact.
-/
import Derived.Test.Qxb6631248aLine
import Derived.WalkSmall
namespace Go.Proofs.Qxb6631248a
open Go.RowKit
open Plain

theorem wts_drop_le {n : Nat} (l : List (Tm n)) (k : Nat) : wts (l.drop k) ≤ wts l := by
  have : wts l = wts (l.take k ++ l.drop k) := by rw [List.take_append_drop]
  rw [this, wts_append]; omega

/-- zzConv at its top: nil, or a new row as long as it is wide. -/
theorem conv_top : ∀ (n : Nat) (u : Value) (o : Option (List (Tm n))) (w : World), IRel w n u o → wts (els o) ≤ 1048576 →
    Calls Try.prog 6 #[u] w fun e w' => ∃ a3 n3, e = .returned (.slice a3 n3 n3) ∧ FRel w.heap.size w' n (.slice a3 n3 n3) o ∧ Below w.heap.size w w'
  | 0, u, o, w, h, ha => by
    rcases h with ⟨rfl, rfl⟩ | ⟨a, cap, rfl, rfl⟩
    · refine (conv_none w).mono fun e w' ⟨he, hw⟩ => ⟨_, _, he, .inl ⟨rfl, rfl⟩, ?_⟩
      subst hw; exact Below.refl _ _
    · exact (conv_empty a cap w).mono fun e w' ⟨he, hb⟩ => ⟨_, _, he, .inr ⟨_, _, rfl, rfl⟩, hb⟩
  | n + 1, u, o, w, h, ha => by
    rcases h with ⟨rfl, rfl⟩ | ⟨a, b, off, cap, l, rfl, rfl, hlen, hab, hc⟩
    · refine (conv_none w).mono fun e w' ⟨he, hw⟩ => ⟨_, _, he, .inl ⟨rfl, rfl⟩, ?_⟩
      subst hw; exact Below.refl _ _
    · by_cases h0 : 0 < l.length
      · rw [hab h0]
        refine (conv_list (conv_any n) b off cap l.length l w rfl ha hc).mono ?_
        rintro e w' ⟨c, he, hb, hg, hel⟩
        refine ⟨_, _, he, .inr ⟨_, w.heap.size, 0, _, c, (0, 0), l, rfl, rfl, fun _ => ⟨rfl, Nat.le_refl _, hg⟩, fun i hi => ?_⟩, hb⟩
        obtain ⟨r0, u, r1, r2⟩ := hel i hi
        exact ⟨by rw [Nat.zero_add]; exact r0, u, by rw [Nat.zero_add]; exact r1, FRel.keep (Nat.le_succ _) (fun _ _ _ _ h => h) n u _ r2⟩
      · have hz : l.length = 0 := by omega
        obtain rfl : l = [] := List.eq_nil_of_length_eq_zero hz
        refine (conv_empty a cap w).mono fun e w' ⟨he, hb⟩ => ⟨_, _, he, .inr ⟨_, 0, 0, _, #[], (0, 0), [], rfl, rfl, fun h => absurd h (Nat.lt_irrefl _), fun i hi => absurd hi (Nat.not_lt_zero _)⟩, hb⟩

theorem IRel.len {w : World} : ∀ {n : Nat} {a3 : Option Addr} {n3 c3 : Nat} {o : Option (List (Tm n))}, IRel w n (.slice a3 n3 c3) o → n3 = (els o).length
  | 0, _, _, _, _, h => by
    rcases h with ⟨rfl, h⟩ | ⟨a, cap, rfl, h⟩
    · simp only [Value.slice.injEq] at h; exact h.2.1
    · simp only [Value.slice.injEq] at h; exact h.2.1
  | n + 1, _, _, _, _, h => by
    rcases h with ⟨rfl, h⟩ | ⟨a, b, off, cap, l, rfl, h, _⟩
    · simp only [Value.slice.injEq] at h; exact h.2.1
    · simp only [Value.slice.injEq] at h; exact h.2.1

theorem FRel.take {lo : Nat} {w : World} : ∀ {n : Nat} {a3 : Option Addr} {n3 : Nat} {o : Option (List (Tm n))}, FRel lo w n (.slice a3 n3 n3) o → ∀ k, k ≤ n3 → FRel lo w n (.slice a3 k n3) (o.map (·.take k))
  | 0, _, _, _, h, k, hk => by
    rcases h with ⟨rfl, h⟩ | ⟨a, cap, rfl, h⟩
    · simp only [Value.slice.injEq] at h
      obtain ⟨rfl, rfl, _⟩ := h
      obtain rfl : k = 0 := by omega
      exact .inl ⟨rfl, rfl⟩
    · simp only [Value.slice.injEq] at h
      obtain ⟨rfl, rfl, _⟩ := h
      obtain rfl : k = 0 := by omega
      exact .inr ⟨a, _, rfl, rfl⟩
  | n + 1, _, _, _, h, k, hk => by
    rcases h with ⟨rfl, h⟩ | ⟨a, g, off, cap, c, fz, l, rfl, h, h3, h4⟩
    · simp only [Value.slice.injEq] at h
      obtain ⟨rfl, rfl, _⟩ := h
      obtain rfl : k = 0 := by omega
      exact .inl ⟨rfl, rfl⟩
    · simp only [Value.slice.injEq] at h
      obtain ⟨rfl, rfl, _⟩ := h
      have hl : (l.take k).length = k := by rw [List.length_take]; omega
      refine .inr ⟨a, g, off, l.length, c, fz, l.take k, rfl, by rw [hl], fun h0 => h3 (by omega), fun i hi => ?_⟩
      have e : (l.take k)[i] = l[i]'(by omega) := List.getElem_take ..
      rw [e]
      exact h4 i (by omega)

theorem FRel.drop {lo : Nat} {w : World} : ∀ {n : Nat} {a3 a4 : Option Addr} {n3 : Nat} {o : Option (List (Tm n))}, FRel lo w n (.slice a3 n3 n3) o → ∀ k, k ≤ n3 → a4 = (if n3 = k then a3 else a3.map (·.add (k * 2))) → FRel lo w n (.slice a4 (n3 - k) (n3 - k)) (o.map (·.drop k))
  | 0, _, _, _, _, h, k, hk, ha => by
    rcases h with ⟨rfl, h⟩ | ⟨a, cap, rfl, h⟩
    · simp only [Value.slice.injEq] at h
      obtain ⟨rfl, rfl, _⟩ := h
      obtain rfl : k = 0 := by omega
      rw [if_pos rfl] at ha
      subst ha
      exact .inl ⟨rfl, rfl⟩
    · simp only [Value.slice.injEq] at h
      obtain ⟨rfl, rfl, _⟩ := h
      obtain rfl : k = 0 := by omega
      rw [if_pos rfl] at ha
      subst ha
      exact .inr ⟨a, _, rfl, rfl⟩
  | n + 1, _, _, _, _, h, k, hk, ha => by
    rcases h with ⟨rfl, h⟩ | ⟨a, g, off, cap, c, fz, l, rfl, h, h3, h4⟩
    · simp only [Value.slice.injEq] at h
      obtain ⟨rfl, rfl, _⟩ := h
      obtain rfl : k = 0 := by omega
      rw [if_pos rfl] at ha
      subst ha
      exact .inl ⟨rfl, rfl⟩
    · simp only [Value.slice.injEq] at h
      obtain ⟨rfl, rfl, _⟩ := h
      have hl : (l.drop k).length = l.length - k := List.length_drop ..
      by_cases hkl : l.length = k
      · rw [if_pos hkl] at ha
        subst ha
        refine .inr ⟨a, g, off, l.length - k, c, fz, l.drop k, rfl, by rw [hl], fun h0 => by omega, fun i hi => by omega⟩
      · rw [if_neg hkl] at ha
        obtain ⟨rfl, hlo, hg⟩ := h3 (by omega)
        have hadd : (⟨g, off, none⟩ : Addr).add (k * 2) = ⟨g, off + k * 2, none⟩ := by
          unfold Addr.add
          split
          · rename_i hz; rw [hz]; rfl
          · rfl
        simp only [Option.map_some, hadd] at ha
        subst ha
        refine .inr ⟨⟨g, off + k * 2, none⟩, g, off + k * 2, l.length - k, c, fz, l.drop k, rfl, by rw [hl], fun _ => ⟨rfl, hlo, hg⟩, fun i hi => ?_⟩
        have e : (l.drop k)[i] = l[k + i]'(by omega) := List.getElem_drop ..
        rw [e]
        have := h4 (k + i) (by omega)
        rw [show off + k * 2 + i * 2 = off + (k + i) * 2 from by omega]
        exact this

theorem prefix_list (s p : ByteArray) (r : List UInt8) (w : World) (hs : s.size ≤ 1099511627776) (h : s.data.toList = p.data.toList ++ r) :
    Calls Try.prog 8 #[.string s, .string p] w fun e w' => e = .returned (.bool true) ∧ Below w.heap.size w w' := by
  have hl := congrArg List.length h
  rw [List.length_append, size_data, size_data] at hl
  refine (prefix_any s p w hs (by omega) (fun i h1 h2 => ?_)).mono fun e w' ⟨he, q, hq⟩ => ⟨he, by subst hq; exact below_drewN (Below.refl _ _) q⟩
  have e1 : s.data.toList[i]'(by rw [size_data]; exact h2) = p.data.toList[i]'(by rw [size_data]; exact h1) := by
    simp only [h]
    rw [List.getElem_append_left (by rw [size_data]; exact h1)]
  rw [ByteArray.getElem_eq_getElem_data, ByteArray.getElem_eq_getElem_data]
  simpa using e1
theorem suffix_list (s p : ByteArray) (r : List UInt8) (w : World) (hs : s.size ≤ 1099511627776) (h : s.data.toList = r ++ p.data.toList) :
    Calls Try.prog 9 #[.string s, .string p] w fun e w' => e = .returned (.bool true) ∧ Below w.heap.size w w' := by
  have hl := congrArg List.length h
  rw [List.length_append, size_data, size_data] at hl
  refine (suffix_any s p w hs r.length hl (fun i h1 h2 => ?_)).mono fun e w' ⟨he, q, hq⟩ => ⟨he, by subst hq; exact below_drewN (Below.refl _ _) q⟩
  have e1 : s.data.toList[r.length + i]'(by rw [size_data]; exact h2) = p.data.toList[i]'(by rw [size_data]; exact h1) := by
    simp only [h]
    rw [List.getElem_append_right (by omega)]
    simp
  rw [ByteArray.getElem_eq_getElem_data, ByteArray.getElem_eq_getElem_data]
  simpa using e1
end Go.Proofs.Qxb6631248a
