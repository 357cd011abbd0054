/-
  Term.write (13), Term.String (11), Fact.String (7).
-/
import Derived.Test.Qxb6631248aConv
namespace Go.Proofs.Qxb6631248a
open Go.RowKit
open Plain

theorem Bld.heap {w : World} {b B : Nat} {L : List UInt8} (h : Bld w b B L) : ∃ c, w.heap[b]? = some (.cells c 41 (0, 0)) := by
  rcases h with ⟨_, v, h, _⟩ | ⟨_, v, h, _⟩
  · exact ⟨_, h⟩
  · exact ⟨_, h⟩
theorem Bld.alloc {w : World} {b B : Nat} {L : List UInt8} (h : Bld w b B L) (o : Obj) : Bld (w.alloc o) b B L := Lib.IsBuilderF.alloc h o
/-- A row of terms stands while the builder is written. -/
theorem kept34 {w w' : World} {b B g : Nat} {L : List UInt8} {c : Array Value} {fz : Nat × Nat} (hB : Bld w b B L) (hk : Kept b w w') (hg : w.heap[g]? = some (.cells c 34 fz)) : w'.heap[g]? = some (.cells c 34 fz) := by
  refine hk g _ hg ?_ ?_
  · intro e
    obtain ⟨c', hb⟩ := hB.heap
    injection e with e
    subst e
    rw [hg] at hb
    simp at hb
  · intro c' fz' e
    simp at e
theorem FRel.kept {lo b B : Nat} {L : List UInt8} {w w' : World} (hB : Bld w b B L) (hk : Kept b w w') {n : Nat} {v : Value} {o : Option (List (Tm n))} (h : FRel lo w n v o) : FRel lo w' n v o :=
  FRel.keep (Nat.le_refl _) (fun _ _ _ _ hg => kept34 hB hk hg) n v o h
theorem FRel.slice {lo : Nat} {w : World} : ∀ (n : Nat) (v : Value) (o : Option (List (Tm n))), FRel lo w n v o → ∃ a k c, v = .slice a k c
  | 0, _, _, h => by
    rcases h with ⟨_, rfl⟩ | ⟨a, cap, _, rfl⟩
    · exact ⟨_, _, _, rfl⟩
    · exact ⟨_, _, _, rfl⟩
  | n + 1, _, _, h => by
    rcases h with ⟨_, rfl⟩ | ⟨a, g, off, cap, c, fz, l, _, rfl, _⟩
    · exact ⟨_, _, _, rfl⟩
    · exact ⟨_, _, _, rfl⟩
theorem Kept.trans {b : Nat} {a c d : World} (h : Kept b a c) (k : Kept b c d) : Kept b a d := Lib.OthersKept.trans h k
theorem Kept.refl (b : Nat) (w : World) : Kept b w w := Lib.OthersKept.refl _ _ _
theorem Kept.alloc {b : Nat} {a w : World} (h : Kept b a w) (o : Obj) : Kept b a (w.alloc o) := Lib.OthersKept.alloc h o

def dots : ByteArray := ⟨#[46, 46, 46]⟩

set_option maxHeartbeats 800000 in
/-- Past the bound: the dots. -/
theorem write_deep {n : Nat} (o : Option (List (Tm n))) (N : ByteArray) (a3 : Option Addr) (n3 c3 d b B : Nat) (L : List UInt8) (w : World) (hB : Bld w b B L) (hd : 20000 < d) (hd2 : d ≤ 30000) (hL : L.length ≤ 1099511627776) (hBw : B ≤ w.heap.size) :
    Calls Try.prog 13 #[.agg #[.string N, .slice a3 n3 c3], .pointer (some ⟨b, 0, none⟩), .int .i64 d] w fun e w' => e = .returned (.tuple #[]) ∧ Bld w' b B (L ++ body N o d) ∧ Below B w w' ∧ Kept b w w' := by
  have hB1 := hB.alloc (.cells #[.string N, .slice a3 n3 c3] 34)
  go_enter Try.func13, Try.ntmps13
  go_wp2_with (go_at_call 14; refine (writeString_any B b L ⟨#[46, 46, 46]⟩ _ (by exact hB1) (by show L.length + 3 ≤ _; omega) (by simp; omega)).mono ?_; rintro e w' ⟨rfl, h1, h2, h3⟩)
  refine bodyPost_ret (results_none rfl _ _ _) rfl ?_
  refine ⟨rfl, ?_, ((Below.refl _ _).alloc hBw _).trans h2, Kept.trans ((Kept.refl _ _).alloc _) h3⟩
  unfold body; rw [if_pos hd]; exact h1

set_option maxHeartbeats 800000 in
/-- No list of arguments: the name alone. -/
theorem write_none {n : Nat} (N : ByteArray) (d b B : Nat) (L : List UInt8) (w : World) (hB : Bld w b B L) (hd : d ≤ 20000) (hL : L.length + N.size ≤ 1099511627776) (hBw : B ≤ w.heap.size) :
    Calls Try.prog 13 #[.agg #[.string N, .slice none 0 0], .pointer (some ⟨b, 0, none⟩), .int .i64 d] w fun e w' => e = .returned (.tuple #[]) ∧ Bld w' b B (L ++ body N (none : Option (List (Tm n))) d) ∧ Below B w w' ∧ Kept b w w' := by
  have hB1 := hB.alloc (.cells #[.string N, .slice none 0 0] 34)
  have hne := fun wx => Lib.run_eql_slice_nil (P := Try.prog) wx 24 34 none 0 0 0 0 Try.underlying24
  have hbox := heap_alloc_new w (.cells #[.string N, .slice none 0 0] 34)
  go_enter Try.func13, Try.ntmps13
  go_wp2_with (go_at_call 14; refine (writeString_any B b L N _ (by exact hB1) (by omega) (by simp; omega)).mono ?_; rintro e w' ⟨rfl, h1, h2, h3⟩; have c1 : w'.cell? ⟨w.heap.size, 1, none⟩ = some (.slice none 0 0) := (Lib.cell_of_heap (kept34 hB1 h3 hbox) 1).trans rfl)
  refine bodyPost_ret (results_none rfl _ _ _) rfl ?_
  refine ⟨rfl, ?_, ((Below.refl _ _).alloc hBw _).trans h2, Kept.trans ((Kept.refl _ _).alloc _) h3⟩
  unfold body; rw [if_neg (by omega), List.append_nil]; exact h1

theorem Below.to {B : Nat} {w w' w'' : World} (h : Below B w w') (hB : B ≤ w.heap.size) (k : Below w'.heap.size w' w'') : Below B w w'' := h.trans (k.mono (Nat.le_trans hB h.size))

set_option maxRecDepth 100000 in
set_option maxHeartbeats 3000000 in
/-- A list of arguments. -/
theorem write_list {n : Nat} (b B lo : Nat) (ih : ∀ (N : ByteArray) (a3 : Option Addr) (n3 c3 : Nat) (o : Option (List (Tm n))) (d : Nat) (L : List UInt8) (w : World), Bld w b B L → FRel lo w n (.slice a3 n3 c3) o → d ≤ 20001 → L.length + N.size + wts (els o) + 40 ≤ 1099511627776 → B ≤ w.heap.size →
      Calls Try.prog 13 #[.agg #[.string N, .slice a3 n3 c3], .pointer (some ⟨b, 0, none⟩), .int .i64 d] w fun e w' => e = .returned (.tuple #[]) ∧ Bld w' b B (L ++ body N o d) ∧ Below B w w' ∧ Kept b w w')
    (N : ByteArray) (a : Addr) (len cap : Nat) (l : List (Tm (n + 1))) (d : Nat) (L : List UInt8) (w : World) (hl : Hid (l.length = len)) (hB : Bld w b B L) (hF : FRel lo w (n + 1) (.slice (some a) l.length cap) (some l)) (hd : d ≤ 20000)
    (hL : L.length + N.size + wts l + 40 ≤ 1099511627776) (hBw : B ≤ w.heap.size) :
    Calls Try.prog 13 #[.agg #[.string N, .slice (some a) len cap], .pointer (some ⟨b, 0, none⟩), .int .i64 d] w fun e w' => e = .returned (.tuple #[]) ∧ Bld w' b B (L ++ body N (some l) d) ∧ Below B w w' ∧ Kept b w w' := by
  have hlen : 40 * len ≤ 1099511627776 := by have := len_le l; have := hl.out; omega
  have hB1 := hB.alloc (.cells #[.string N, .slice (some a) len cap] 34)
  have hne := fun wx => Lib.run_eql_slice_nil (P := Try.prog) wx 24 34 (some a) len cap 0 0 Try.underlying24
  have hbox := heap_alloc_new w (.cells #[.string N, .slice (some a) len cap] 34)
  have HF : Hid (FRel lo w (n + 1) (.slice (some a) l.length cap) (some l)) := hF
  clear hF
  go_enter Try.func13, Try.ntmps13
  go_wp2_with (first | (go_at_call 14; refine (writeString_any B b L N _ (by exact hB1) (by omega) (by simp; omega)).mono ?_; rintro e w2 ⟨rfl, h1, h2, h3⟩; have hbox2 := kept34 hB1 h3 hbox; have c1 : w2.cell? ⟨w.heap.size, 1, none⟩ = some (.slice (some a) len cap) := (Lib.cell_of_heap hbox2 1).trans rfl) | (go_at_call 16; refine (writeByte_any B b _ 40 _ (by exact h1) (by rw [List.length_append, size_data]; omega) (by have := h2.size; simp at this; omega) 40 rfl).mono ?_; rintro e w3 ⟨rfl, h4, h5, h6⟩; have c2 : w3.cell? ⟨w.heap.size, 1, none⟩ = some (.slice (some a) len cap) := (Lib.cell_of_heap (kept34 h1 h6 hbox2) 1).trans rfl))
  have hbel : Below B w w3 := (((Below.refl _ _).alloc hBw _).trans h2).trans h5
  have hkep : Kept b w w3 := Kept.trans (Kept.trans ((Kept.refl _ _).alloc _) h3) h6
  clear h2 h3 h5 h6 hbox hbox2 c1 c2 h1 hB1
  go_loopw [24] (fun i wr => ∃ k : Nat, k ≤ len ∧ i = .int .i64 k ∧ Bld wr b B (L ++ N.data.toList ++ [40] ++ joinB (texts (l.take k) (d + 1))) ∧ Below B w wr ∧ Kept b w wr) (fun i _ => len - (intOf i).toNat)
  case atStart => exact ⟨0, Nat.zero_le _, rfl, by simpa [texts, joinB] using h4, hbel, hkep⟩
  case round =>
    clear hbel hkep h4
    obtain ⟨k, hk, rfl, hBr, hbr, hkr⟩ := hrel
    have HFr : FRel lo wr (n + 1) (.slice (some a) l.length cap) (some l) := FRel.kept hB hkr HF.out
    have hjl := join_le l k (d + 1) (by rw [hl.out]; exact hk)
    have hBs : B ≤ wr.heap.size := Nat.le_trans hBw hbr.size
    by_cases hlt : k < len
    · have hkl : k < l.length := by rw [hl.out]; exact hlt
      rcases HFr with ⟨h0, _⟩ | ⟨a', g, off, cap', c, fz, l', h1, h2, h3, h4⟩
      · cases h0
      · obtain rfl := Option.some.inj h1
        simp only [Value.slice.injEq, Option.some.injEq, true_and] at h2
        obtain ⟨rfl, rfl⟩ := h2
        obtain ⟨rfl, _, hg⟩ := h3 (by omega)
        obtain ⟨r0, u, r1, hu⟩ := h4 k hkl
        obtain ⟨a3, n3, c3, rfl⟩ := FRel.slice n _ _ hu
        have q0 : wr.cell? ⟨g, off + k * 2, none⟩ = some (.string (nm l[k])) := (Lib.cell_of_heap hg _).trans r0
        have q1 : wr.cell? ⟨g, off + k * 2 + 1, none⟩ = some (.slice a3 n3 c3) := (Lib.cell_of_heap hg _).trans r1
        have w1 := wt_le_wts l k hkl
        have w2 := wt_succ l[k]
        have HJ : Hid (joinB (texts (l.take (k + 1)) (d + 1)) = joinB (texts (l.take k) (d + 1)) ++ (if k = 0 then [] else [44, 32]) ++ body (nm l[k]) (ar l[k]) (d + 1)) := join_step l k (d + 1) hkl
        obtain ⟨M, hM⟩ : ∃ M, M = nm l[k] := ⟨_, rfl⟩
        rw [← hM] at q0 w2
        have HM : Hid (M = nm l[k]) := hM
        obtain ⟨J, hJ⟩ : ∃ J, J = L ++ N.data.toList ++ [40] ++ joinB (texts (l.take k) (d + 1)) := ⟨_, rfl⟩
        rw [← hJ] at hBr
        have hJl : J.length + M.size + wts (els (ar l[k])) + 50 ≤ 1099511627776 := by
          rw [hJ]; simp only [List.length_append, size_data, List.length_cons, List.length_nil]; omega
        have HJJ : Hid (J = L ++ N.data.toList ++ [40] ++ joinB (texts (l.take k) (d + 1))) := hJ
        have hBv := hBr.alloc (.cells #[.string M, .slice a3 n3 c3] 34)
        have hvar := heap_alloc_new wr (.cells #[.string M, .slice a3 n3 c3] 34)
        have hu1 : FRel lo (wr.alloc (.cells #[.string M, .slice a3 n3 c3] 34)) n (.slice a3 n3 c3) (ar l[k]) := FRel.later ((Below.refl _ _).alloc (Nat.le_refl _) _) hu
        clear h1 h3 h4 r0 r1 w1 w2 hM hJ hjl hu hg
        by_cases hk0 : k = 0
        · subst hk0
          have I : Hid (Calls Try.prog 13 #[.agg #[.string M, .slice a3 n3 c3], .pointer (some ⟨b, 0, none⟩), .int .i64 ((d : Int) + 1)] (wr.alloc (.cells #[.string M, .slice a3 n3 c3] 34)) fun e w' => e = .returned (.tuple #[]) ∧ Bld w' b B (J ++ body M (ar l[0]) (d + 1)) ∧ Below B (wr.alloc (.cells #[.string M, .slice a3 n3 c3] 34)) w' ∧ Kept b (wr.alloc (.cells #[.string M, .slice a3 n3 c3] 34)) w') := by
            have := ih M a3 n3 c3 _ (d + 1) J _ hBv hu1 (by omega) (by omega) (by simp; omega)
            rw [show (((d + 1 : Nat)) : Int) = (d : Int) + 1 from by omega] at this
            exact this
          have HJ0 : Hid (joinB (texts (l.take (0 + 1)) (d + 1)) = joinB (texts (l.take 0) (d + 1)) ++ body (nm l[0]) (ar l[0]) (d + 1)) := by
            have := HJ.out
            rw [if_pos rfl, List.append_nil] at this
            exact this
          clear ih HJ
          simp only [Nat.zero_mul, Nat.add_zero] at q0 q1
          go_wp2_with (go_at_call 13; refine I.out.mono ?_; rintro e w' ⟨rfl, p1, p2, p3⟩)
          go_roundw
          case rel =>
            refine ⟨0 + 1, by omega, rfl, ?_, Below.trans (hbr.alloc hBs _) p2, Kept.trans (hkr.alloc _) p3⟩
            rw [HJ0.out, ← HM.out, ← List.append_assoc, ← HJJ.out]; exact p1
          case measure => simp [intOf]; omega
        · have I : Hid (∀ wx : World, Bld wx b B (J ++ [44, 32]) → FRel lo wx n (.slice a3 n3 c3) (ar l[k]) → B ≤ wx.heap.size → Calls Try.prog 13 #[.agg #[.string M, .slice a3 n3 c3], .pointer (some ⟨b, 0, none⟩), .int .i64 ((d : Int) + 1)] wx fun e w' => e = .returned (.tuple #[]) ∧ Bld w' b B (J ++ [44, 32] ++ body M (ar l[k]) (d + 1)) ∧ Below B wx w' ∧ Kept b wx w') := by
            intro wx x1 x2 x3
            have := ih M a3 n3 c3 _ (d + 1) (J ++ [44, 32]) wx x1 x2 (by omega) (by simp only [List.length_append, List.length_cons, List.length_nil]; omega) x3
            rw [show (((d + 1 : Nat)) : Int) = (d : Int) + 1 from by omega] at this
            exact this
          have HJ1 : Hid (joinB (texts (l.take (k + 1)) (d + 1)) = joinB (texts (l.take k) (d + 1)) ++ [44, 32] ++ body (nm l[k]) (ar l[k]) (d + 1)) := by
            have := HJ.out
            rw [if_neg hk0] at this
            exact this
          clear ih HJ
          go_wp2_with fail
          refine (writeString_any B b J ⟨#[44, 32]⟩ _ (by exact hBv) (by show J.length + 2 ≤ _; omega) (by simp; omega)).mono ?_
          rintro e w4 ⟨rfl, p1, p2, p3⟩
          have hvar4 := kept34 hBv p3 hvar
          have v0 : w4.cell? ⟨wr.heap.size, 0, none⟩ = some (.string M) := (Lib.cell_of_heap hvar4 0).trans rfl
          have v1 : w4.cell? ⟨wr.heap.size, 1, none⟩ = some (.slice a3 n3 c3) := (Lib.cell_of_heap hvar4 1).trans rfl
          have hu4 := FRel.kept hBv p3 hu1
          have hs4 : B ≤ w4.heap.size := Nat.le_trans (Nat.le_trans hBs (by simp)) p2.size
          have b4 : Below B w w4 := Below.trans (hbr.alloc hBs _) p2
          have k4 : Kept b w w4 := Kept.trans (hkr.alloc _) p3
          clear p2 p3 hvar hvar4 hBv hu1
          go_wp2_with (go_at_call 13; refine (I.out _ (by exact p1) hu4 hs4).mono ?_; rintro e w' ⟨rfl, p4, p5, p6⟩)
          go_roundw
          case rel =>
            refine ⟨k + 1, by omega, by go_num, ?_, b4.trans p5, Kept.trans k4 p6⟩
            rw [HJ1.out, ← HM.out, ← List.append_assoc, ← List.append_assoc, ← HJJ.out]; exact p4
          case measure => simp [intOf]; omega
    · clear ih
      go_wp2_with fail
      refine (writeByte_any B b _ 41 _ (by exact hBr) (by simp only [List.length_append, size_data, List.length_cons, List.length_nil]; have := wts_take_le l k; omega) (by omega) 41 rfl).mono ?_
      rintro e w4 ⟨rfl, p1, p2, p3⟩
      go_wp2_with fail
      go_end0
      refine ⟨rfl, ?_, hbr.trans p2, Kept.trans hkr p3⟩
      rw [List.take_of_length_le (by have := hl.out; omega)] at p1
      have e : body N (some l) d = N.data.toList ++ ([40] ++ joinB (texts l (d + 1)) ++ [41]) := by unfold body; rw [if_neg (by omega)]
      rw [e]
      simpa [List.append_assoc] using p1

set_option maxRecDepth 100000 in
set_option maxHeartbeats 1600000 in
/-- An empty list of arguments. -/
theorem write_empty {n : Nat} (b B : Nat) (N : ByteArray) (a : Addr) (cap d : Nat) (L : List UInt8) (w : World) (hB : Bld w b B L) (hd : d ≤ 20000)
    (hL : L.length + N.size + 40 ≤ 1099511627776) (hBw : B ≤ w.heap.size) :
    Calls Try.prog 13 #[.agg #[.string N, .slice (some a) 0 cap], .pointer (some ⟨b, 0, none⟩), .int .i64 d] w fun e w' => e = .returned (.tuple #[]) ∧ Bld w' b B (L ++ body N (some ([] : List (Tm n))) d) ∧ Below B w w' ∧ Kept b w w' := by
  have hB1 := hB.alloc (.cells #[.string N, .slice (some a) 0 cap] 34)
  have hne := fun wx => Lib.run_eql_slice_nil (P := Try.prog) wx 24 34 (some a) 0 cap 0 0 Try.underlying24
  have hbox := heap_alloc_new w (.cells #[.string N, .slice (some a) 0 cap] 34)
  go_enter Try.func13, Try.ntmps13
  go_wp2_with (first | (go_at_call 14; refine (writeString_any B b L N _ (by exact hB1) (by omega) (by simp; omega)).mono ?_; rintro e w2 ⟨rfl, h1, h2, h3⟩; have hbox2 := kept34 hB1 h3 hbox; have c1 : w2.cell? ⟨w.heap.size, 1, none⟩ = some (.slice (some a) 0 cap) := (Lib.cell_of_heap hbox2 1).trans rfl) | (go_at_call 16; refine (writeByte_any B b _ 40 _ (by exact h1) (by rw [List.length_append, size_data]; omega) (by have := h2.size; simp at this; omega) 40 rfl).mono ?_; rintro e w3 ⟨rfl, h4, h5, h6⟩; have c2 : w3.cell? ⟨w.heap.size, 1, none⟩ = some (.slice (some a) 0 cap) := (Lib.cell_of_heap (kept34 h1 h6 hbox2) 1).trans rfl))
  have hbel : Below B w w3 := (((Below.refl _ _).alloc hBw _).trans h2).trans h5
  have hkep : Kept b w w3 := Kept.trans (Kept.trans ((Kept.refl _ _).alloc _) h3) h6
  have hs : B ≤ w3.heap.size := Nat.le_trans hBw hbel.size
  clear h2 h3 h5 h6 hbox hbox2 c1 c2 h1 hB1
  go_loop [24] (fun i => i = .int .i64 0) (fun _ => 0)
  case atStart => rfl
  case round =>
    subst hrel
    go_wp2_with fail
    refine (writeByte_any B b _ 41 _ (by exact h4) (by simp only [List.length_append, size_data, List.length_cons, List.length_nil]; omega) hs 41 rfl).mono ?_
    rintro e w4 ⟨rfl, p1, p2, p3⟩
    go_wp2_with fail
    go_end0
    refine ⟨rfl, ?_, hbel.trans p2, Kept.trans hkep p3⟩
    have e : body N (some ([] : List (Tm n))) d = N.data.toList ++ ([40] ++ [] ++ [41]) := by unfold body; rw [if_neg (by omega)]; rfl
    rw [e]
    simpa [List.append_assoc] using p1

/-- Term.write, for every term built anew. -/
theorem write_any (b B lo : Nat) : ∀ (n : Nat) (N : ByteArray) (a3 : Option Addr) (n3 c3 : Nat) (o : Option (List (Tm n))) (d : Nat) (L : List UInt8) (w : World), Bld w b B L → FRel lo w n (.slice a3 n3 c3) o → d ≤ 20001 → L.length + N.size + wts (els o) + 40 ≤ 1099511627776 → B ≤ w.heap.size →
      Calls Try.prog 13 #[.agg #[.string N, .slice a3 n3 c3], .pointer (some ⟨b, 0, none⟩), .int .i64 d] w fun e w' => e = .returned (.tuple #[]) ∧ Bld w' b B (L ++ body N o d) ∧ Below B w w' ∧ Kept b w w'
  | 0, N, a3, n3, c3, o, d, L, w, hB, hF, hd, hL, hBw => by
    by_cases hd' : 20000 < d
    · exact write_deep o N a3 n3 c3 d b B L w hB hd' (by omega) (by omega) hBw
    · rcases hF with ⟨rfl, h⟩ | ⟨a, cap, rfl, h⟩
      · simp only [Value.slice.injEq] at h
        obtain ⟨rfl, rfl, rfl⟩ := h
        exact write_none N d b B L w hB (by omega) (by omega) hBw
      · simp only [Value.slice.injEq] at h
        obtain ⟨rfl, rfl, rfl⟩ := h
        exact write_empty b B N a _ d L w hB (by omega) (by omega) hBw
  | n + 1, N, a3, n3, c3, o, d, L, w, hB, hF, hd, hL, hBw => by
    by_cases hd' : 20000 < d
    · exact write_deep o N a3 n3 c3 d b B L w hB hd' (by omega) (by omega) hBw
    · have hF' := hF
      rcases hF with ⟨rfl, h⟩ | ⟨a, g, off, cap, c, fz, l, rfl, h, h3, h4⟩
      · simp only [Value.slice.injEq] at h
        obtain ⟨rfl, rfl, rfl⟩ := h
        exact write_none N d b B L w hB (by omega) (by omega) hBw
      · simp only [Value.slice.injEq] at h
        obtain ⟨rfl, rfl, rfl⟩ := h
        exact write_list b B lo (write_any b B lo n) N a _ _ l d L w rfl hB hF' (by omega) hL hBw

/-! ### The two String methods -/
theorem toHid {p : Prop} (h : p) : Hid p := h
theorem fresh (w : World) : Bld (w.alloc (.cells #[.pointer none, .slice none 0 0] 41)) w.heap.size w.heap.size [] := Lib.IsBuilderF.of (Lib.fresh_isBuilder 41 5 w)
theorem fresh2 (w : World) (o : Obj) : Bld ((w.alloc o).alloc (.cells #[.pointer none, .slice none 0 0] 41)) (w.heap.size + 1) (w.heap.size + 1) [] := by
  have := fresh (w.alloc o)
  simpa using this
/-- A block that is neither the builder's nor a row of bytes stands while the builder is written. -/
theorem keptAny {w w' : World} {b B g T : Nat} {L : List UInt8} {c : Array Value} {fz : Nat × Nat} (hT1 : T ≠ 41) (hT2 : T ≠ 5) (hB : Bld w b B L) (hk : Kept b w w') (hg : w.heap[g]? = some (.cells c T fz)) : w'.heap[g]? = some (.cells c T fz) := by
  refine hk g _ hg ?_ ?_
  · intro e
    obtain ⟨c', hb⟩ := hB.heap
    injection e with e
    subst e
    rw [hg] at hb
    simp [hT1] at hb
  · intro c' fz' e
    simp [hT2] at e

set_option maxHeartbeats 1600000 in
/-- Term.String. -/
theorem termString_any {n : Nat} (lo : Nat) (N : ByteArray) (a3 : Option Addr) (n3 c3 : Nat) (o : Option (List (Tm n))) (w : World) (hF : FRel lo w n (.slice a3 n3 c3) o) (hL : N.size + wts (els o) ≤ 1048576) :
    Calls Try.prog 11 #[.agg #[.string N, .slice a3 n3 c3]] w fun e w' => e = .returned (.string ⟨(body N o 0).toArray⟩) ∧ Below w.heap.size w w' := by
  have hB := fresh2 w (.cells #[.string N, .slice a3 n3 c3] 34)
  have hF2 := FRel.later (((Below.refl _ w).alloc (Nat.le_refl _) (.cells #[.string N, .slice a3 n3 c3] 34)).alloc (by simp) (.cells #[.pointer none, .slice none 0 0] 41)) hF
  have W := write_any (w.heap.size + 1) (w.heap.size + 1) lo n N a3 n3 c3 o 0 [] _ hB hF2 (by omega) (by simp; omega) (by simp)
  rw [show ((0 : Nat) : Int) = 0 from rfl, List.nil_append] at W
  have HW := toHid W
  clear W hF hF2 hB
  go_enter Try.func11, Try.ntmps11
  go_wp2_with fail
  refine HW.out.mono ?_
  rintro e w2 ⟨rfl, p1, p2, _⟩
  have b2 : Below w.heap.size w w2 := (((Below.refl _ w).alloc (Nat.le_refl _) _).alloc (by simp) _).trans (p2.mono (by omega))
  have s2 : w.heap.size + 1 ≤ w2.heap.size := by have := p2.size; simp at this; omega
  clear HW p2
  go_wp2_with (go_at_call 15; refine (string_any (w.heap.size + 1) (w.heap.size + 1) _ _ (by exact p1) s2).mono ?_; rintro e w3 ⟨rfl, p3, _⟩)
  go_ret
  exact ⟨rfl, b2.trans (p3.mono (by omega))⟩
end Go.Proofs.Qxb6631248a
