/-
  THE WALK OF FnDigitsIsPaddedDecimal (function 3).
-/
import Derived.Test.Qxb6630472aWalks
import Derived.Laws.CopyOwn
import Derived.OpenShut
namespace Go.Proofs.Qxb6630472a
open Go.RowKit
open Plain

theorem Try.info5 : (Try.prog.info? 5).map (fun i => (i.zero, i.size, i.bytes)) = some (some (.int .u8 0), 1, 1) := by kernel_rfl
theorem Try.size5 : (Try.prog.info? 5).map (·.size) = some 1 := by kernel_rfl

/-- 'make([]byte, n)': a new block of n cells. -/
theorem make_bytes (n : Nat) (hn : n ≤ 1048576) : ∃ Z : List Value, Z.length = n ∧ ∀ w : World,
    (Instr.makeSlice 22 (.int .i64 n) (.int .i64 n)).run Try.prog w = .ok (.slice (some ⟨w.heap.size, 0, none⟩) n n) (w.alloc (.cells Z.toArray 5)) := by
  obtain ⟨i0, hi, hz0, hz1, hz2⟩ := info_parts Try.info5
  refine ⟨(madeCells (Value.int .u8 0).cells (n * i0.size)).toList, ?_, fun w => ?_⟩
  · rw [hz1]; simp [madeCells, Value.cells]
  · have := run_make (P := Try.prog) w 22 5 i0 (.int .u8 0) Try.underlying22 hi hz0 .i64 .i64 n n (by omega) (Int.le_refl _) (by rw [hz2]; omega) (by omega)
    simpa using this

/-- What a copy of a row of bytes leaves. -/
theorem row_of_splice {w : World} {g : Nat} {Z : List Value} {xs : List Int} (hZ : Z.length = xs.length) (hb : ∀ n ∈ xs, 0 ≤ n ∧ n ≤ 255)
    (h : w.heap[g]? = some (.cells (splice Z 0 (xs.map (Value.int .u8))).toArray 5 (0, 0))) : Row w g 0 xs := by
  intro j hj
  have e : splice Z 0 (xs.map (Value.int .u8)) = xs.map (Value.int .u8) := by
    simp only [splice, List.take_zero, List.nil_append, Nat.zero_add, List.length_map]
    rw [← hZ, List.drop_length, List.append_nil]
  rw [e] at h
  refine ⟨?_, hb _ (List.getElem_mem hj)⟩
  rw [cell_of_row w g (0 + j) _ 5 (0, 0) h]
  simp [hj]

set_option maxHeartbeats 400000 in
theorem law_a_in (x : Addr) (len cap : Nat) (xs : List Int) (w : World) (hn : Hid (xs.length = len)) (hlen : len ≤ 65536) (hb : Hid (∀ n ∈ xs, 0 ≤ n ∧ n ≤ 255))
    (hcell : Hid (∀ j v, (xs.map (Value.int .u8))[j]? = some v → w.cell? (x.add j) = some v)) :
    Calls Try.prog 3 #[.slice (some x) len cap] w fun e w' => e = .returned (.bool true) ∧ Below w.heap.size w w' := by
  have hne := fun wx => run_neq_slice_nil_any (P := Try.prog) wx 22 5 (some x) len cap 0 0 Try.underlying22
  obtain ⟨Z, hZ, hmk⟩ := make_bytes len (by omega)
  have HZ : Hid (Z.length = len) := hZ
  clear hZ
  obtain ⟨cs, hcs⟩ : ∃ cs, cs = xs.map (Value.int .u8) := ⟨_, rfl⟩
  have HCS : Hid (cs = xs.map (Value.int .u8)) := hcs
  clear hcs
  go_enter Try.func3, Try.ntmps3
  have hfit : Hid (0 + cs.length ≤ Z.length) := by show 0 + cs.length ≤ Z.length; have := HZ.out; have := hn.out; rw [HCS.out]; simp; omega
  have hmin : Hid (cs.length = Nat.min len len) := by show cs.length = Nat.min len len; have := hn.out; rw [HCS.out]; simp; omega
  have h1c : Hid (∀ v ∈ cs, v.oneCell' = true) := by show ∀ v ∈ cs, v.oneCell' = true; rw [HCS.out]; intro v hv; simp at hv; obtain ⟨n, _, rfl⟩ := hv; rfl
  have hbel : Below w.heap.size w (w.alloc (.cells Z.toArray 5)) := (Below.refl _ _).alloc (Nat.le_refl _) _
  have hg : Hid ((w.alloc (.cells Z.toArray 5)).heap[w.heap.size]? = some (.cells Z.toArray 5 (0, 0))) := heap_alloc_new w _
  have hsrc : Hid (∀ j v, cs[j]? = some v → (w.alloc (.cells Z.toArray 5)).cell? (x.add j) = some v) :=
    fun j v h => cell_later hbel (hcell.out j v (by rw [← HCS.out]; exact h))
  go_wp2_with (first | (go_at_call 5; refine (bytes_yes _ _ _ _ (by omega)).mono ?_; rintro e w' ⟨rfl, hw'⟩; subst w') | (refine wpList_copy_splice rfl (.tmp 20) (.tmp 21) 22 22 rfl 5 Try.underlying22 Try.size5 _ _ _ _ _ _ rfl rfl w.heap.size 0 Z 5 hg.out cs hmin.out (fun _ => ⟨rfl, x, rfl, hsrc.out⟩) hfit.out h1c.out w.heap.size w hbel (Nat.le_refl _) ?_; intro w2 HG2 hB2))
  have hrow : Row w2 w.heap.size 0 xs := row_of_splice (Z := Z) (by rw [HZ.out, hn.out]) hb.out (by rw [← HCS.out]; exact HG2.out)
  clear hne hmk HG2 hfit hmin h1c hbel hg hsrc hcell
  have D : ∀ n ok, n = dN xs → ok = dOk xs → Hid (Calls Try.prog 6 #[.slice (some ⟨w.heap.size, 0, none⟩) len len] w2 fun e w' => e = .returned (.tuple #[.int .i64 n, .bool ok]) ∧ w' = w2) := by
    intro n ok h1 h2; subst h1; subst h2; exact digits_any w.heap.size 0 len len xs w2 hrow hn (by omega)
  have A : ∀ ok, ok = allDig xs → Hid (Calls Try.prog 7 #[.slice (some ⟨w.heap.size, 0, none⟩) len len] w2 fun e w' => e = .returned (.bool ok) ∧ w' = w2) := by
    intro ok h1; subst h1; exact all_any w.heap.size 0 len len xs w2 hrow hn (by omega)
  by_cases hok : dOk xs = true
  · obtain ⟨g1, g2, g3⟩ := dOk_parts hok
    rw [hn.out] at g1 g2
    obtain ⟨m0, hm0⟩ : ∃ m, m = dN xs := ⟨_, rfl⟩
    have D1 := D m0 true hm0 hok.symm
    have A1 := A true g3.symm
    have HM : Hid (m0 = val xs) := by show m0 = val xs; rw [hm0, dN_ok hok]
    obtain ⟨p0, hp0⟩ : ∃ p, p = pow len := ⟨_, rfl⟩
    obtain ⟨b0, b1⟩ : 0 ≤ m0 ∧ m0 < p0 := by have := dN_bd hok; rw [hn.out] at this; rw [hm0, hp0]; exact this
    have b2 : m0 < 1000000000000000000 := by rw [hm0]; exact (dN_rng xs).2
    have P1 : Hid (Calls Try.prog 8 #[.int .i64 len] w2 fun e w' => e = .returned (.int .i64 p0) ∧ w' = w2) := by subst hp0; exact pow_any len w2 g2
    have HAD : Hid (allDig xs = true) := g3
    have hd1 : decide ((1 : Int) ≤ (len : Int)) = true := decide_eq_true (by omega)
    have hd2 : decide ((len : Int) ≤ 18) = true := decide_eq_true (by omega)
    have hd3 : decide (m0 < 0) = false := decide_eq_false (by omega)
    have hd4 : decide (p0 ≤ m0) = false := decide_eq_false (by omega)
    clear D A hok g3 hm0 hp0
    go_wp2_with (first | (go_at_call 6; refine D1.out.mono ?_; rintro e w' ⟨rfl, hw'⟩; subst w') | (go_at_call 7; refine A1.out.mono ?_; rintro e w' ⟨rfl, hw'⟩; subst w') | (go_at_call 8; refine P1.out.mono ?_; rintro e w' ⟨rfl, hw'⟩; subst w'))
    go_loop [7, 8] (fun m i => ∃ k : Nat, k ≤ len ∧ i = .int .i64 ((k : Int) - 1) ∧ m = .int .i64 (val (xs.take k))) (fun _ i => (intOf i + 1).toNat)
    case atStart => exact ⟨len, Nat.le_refl _, rfl, by rw [List.take_of_length_le (by rw [hn.out]; exact Nat.le_refl _), ← HM.out]⟩
    case round =>
      obtain ⟨k, hk, hi, hm⟩ := hrel
      clear D1 A1 P1 hd3 hd4 b0 b1 b2
      cases k with
      | zero =>
        obtain rfl := hi
        obtain rfl := hm
        rw [List.take_zero, val_nil]
        go_wp2
        go_ret
        exact ⟨rfl, hB2⟩
      | succ j =>
        rw [show (((j + 1 : Nat) : Int) - 1) = (j : Int) from by omega] at hi
        obtain rfl := hi
        have hjx : j < xs.length := by rw [hn.out]; omega
        obtain ⟨c, hc⟩ : ∃ c, c = xs[j] := ⟨_, rfl⟩
        obtain ⟨hcell, hc0, hc1⟩ := hrow j hjx
        have hdg := dig_true (dig_at HAD.out j hjx)
        have hv := val_step xs j hjx
        have hb1 := val_take_bd' xs j (allDig_take HAD.out j) (by omega)
        rw [← hc] at hcell hc0 hc1 hdg hv
        obtain ⟨M', hM'⟩ : ∃ M', M' = val (xs.take j) := ⟨_, rfl⟩
        obtain ⟨M, hM⟩ : ∃ M, M = val (xs.take (j + 1)) := ⟨_, rfl⟩
        rw [← hM] at hm hv
        rw [← hM'] at hv hb1
        obtain rfl := hm
        have HM' : Hid (M' = val (xs.take j)) := hM'
        obtain ⟨q0, q1⟩ : 0 ≤ M ∧ M < 1000000000000000000 := by omega
        have q2 : M % 10 = c - 48 := by omega
        have q3 : M / 10 = M' := by omega
        rw [Nat.zero_add] at hcell
        clear hv hM hM' hc
        go_wp2
        go_round
        case rel => exact ⟨j, by omega, rfl, by rw [q3, HM'.out]⟩
        case measure => simp [intOf]
  · have hok' : dOk xs = false := by simpa using hok
    have D1 := D 0 false (dN_no hok').symm hok'.symm
    by_cases l1 : len = 0
    · have hd1 : decide ((1 : Int) ≤ (len : Int)) = false := decide_eq_false (by omega)
      clear D A hok hok'
      go_wp2_with (first | (go_at_call 6; refine D1.out.mono ?_; rintro e w' ⟨rfl, hw'⟩; subst w'))
      go_ret
      exact ⟨rfl, hB2⟩
    · by_cases l2 : 18 < len
      · have hd1 : decide ((1 : Int) ≤ (len : Int)) = true := decide_eq_true (by omega)
        have hd2 : decide ((len : Int) ≤ 18) = false := decide_eq_false (by omega)
        clear D A hok hok'
        go_wp2_with (first | (go_at_call 6; refine D1.out.mono ?_; rintro e w' ⟨rfl, hw'⟩; subst w'))
        go_ret
        exact ⟨rfl, hB2⟩
      · have hw := dOk_want xs (by rw [hn.out]; omega) (by rw [hn.out]; omega)
        have A1 := A false (by rw [← hw, hok'])
        have hd1 : decide ((1 : Int) ≤ (len : Int)) = true := decide_eq_true (by omega)
        have hd2 : decide ((len : Int) ≤ 18) = true := decide_eq_true (by omega)
        clear D A hok hok' hw
        go_wp2_with (first | (go_at_call 6; refine D1.out.mono ?_; rintro e w' ⟨rfl, hw'⟩; subst w') | (go_at_call 7; refine A1.out.mono ?_; rintro e w' ⟨rfl, hw'⟩; subst w'))
        go_ret
        exact ⟨rfl, hB2⟩

set_option maxHeartbeats 400000 in
theorem law_a_nil (w : World) :
    Calls Try.prog 3 #[.slice none 0 0] w fun e w' => e = .returned (.bool true) ∧ Below w.heap.size w w' := by
  have hne := fun wx => run_neq_slice_nil_any (P := Try.prog) wx 22 5 none 0 0 0 0 Try.underlying22
  go_enter Try.func3, Try.ntmps3
  go_wp2_with (first | (go_at_call 5; refine (bytes_yes _ _ _ _ (by omega)).mono ?_; rintro e w' ⟨rfl, hw'⟩; subst w') | (go_at_call 6; refine (digits_len none 0 0 w (.inl rfl) (by omega)).mono ?_; rintro e w' ⟨rfl, hw'⟩; subst w'))
  go_ret
  exact ⟨rfl, Below.refl _ _⟩

set_option maxHeartbeats 400000 in
theorem law_a_far (ao : Option Addr) (len cap : Nat) (w : World) (h : 65536 < len) (hm : len ≤ maxLen) :
    Calls Try.prog 3 #[.slice ao len cap] w fun e w' => e = .returned (.bool true) ∧ Below w.heap.size w w' := by
  by_cases h2 : 1048576 < len
  · go_enter Try.func3, Try.ntmps3
    go_wp2_with (first | (go_at_call 5; refine (bytes_no _ _ _ _ h2 hm).mono ?_; rintro e w' ⟨rfl, hw'⟩; subst w'))
    go_ret
    exact ⟨rfl, Below.refl _ _⟩
  · unfold maxLen at hm
    go_enter Try.func3, Try.ntmps3
    go_wp2_with (first | (go_at_call 5; refine (bytes_yes _ _ _ _ (by omega)).mono ?_; rintro e w' ⟨rfl, hw'⟩; subst w'))
    go_ret
    exact ⟨rfl, Below.refl _ _⟩

/-- WHAT THE WALK IS TOLD OF A SLICE OF BYTES THAT CAME IN, in the words of the walk above: the bytes by themselves. -/
theorem bytes_of_row {w : World} {x : Addr} {len cap : Nat} {zs : List Int} (hl : len ≤ cap) (hz : zs.length = cap) (hcell : ∀ i, i < zs.length → w.cell? (x.add i) = some (.int .u8 (zs.getD i 0))) (hwf : ∀ n ∈ zs, (Lit.int .u8 n).wf = true) :
    (zs.take len).length = len ∧ (∀ n ∈ zs.take len, 0 ≤ n ∧ n ≤ 255) ∧ ∀ j v, ((zs.take len).map (Value.int .u8))[j]? = some v → w.cell? (x.add j) = some v := by
  refine ⟨by rw [List.length_take]; omega, fun n hn => ?_, fun j v h => ?_⟩
  · exact bounds_u8 (hwf n (List.mem_of_mem_take hn))
  · rw [List.getElem?_map, List.getElem?_take] at h
    split at h
    · rename_i hj
      have hjz : j < zs.length := by omega
      rw [List.getElem?_eq_getElem hjz] at h
      simp only [Option.map_some, Option.some.injEq] at h
      rw [hcell j hjz, ← h]; simp [List.getD, hjz]
    · simp at h
end Go.Proofs.Qxb6630472a
