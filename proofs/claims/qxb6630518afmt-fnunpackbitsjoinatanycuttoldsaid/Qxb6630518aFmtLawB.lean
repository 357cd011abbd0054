/-
  THE WALK OF FnUnpackBitsJoinAtAnyCut (function 4).
-/
import Derived.Test.Qxb6630518aFmtLawA
import Derived.Test.Qxb6630518aFmtPlainB
namespace Go.Proofs.Qxb6630518aFmt
open Go.RowKit Go.Extern.Stop Go.Stop Go.Extern
open Plain

theorem Bools.later {w w' : World} {g n : Nat} {f : Nat → Bool} (hb : Below w.heap.size w w') (h : Bools w g n f) : Bools w' g n f := by
  intro j hj
  have hc := (h j hj).1
  have hlt : g < w.heap.size := World.block_lt_of_cell? _ _ hc
  exact ⟨cell_later hb hc, by rw [hb.frozen (p := ⟨g, j, none⟩) hlt]; exact (h j hj).2⟩

/-- UnpackBits over whole bytes: never refused. -/
theorem unpack_full {w : World} {sa : Option Addr} {xs : List Int} (hr : RowO w sa xs) (cap len : Nat) (hx : xs.length = len) (hl : len ≤ 8192) (m : Int) (hm : m = 8 * (len : Int)) :
    Calls Tryf.prog 6 #[.slice sa len cap, .int .i64 m] w fun e w' => e = .returned (.tuple #[.slice (some ⟨w.heap.size, 0, none⟩) (8 * len) (8 * len), .nilIface]) ∧ Below w.heap.size w w' ∧ Bools w' w.heap.size (8 * len) (bitAt xs) := by
  obtain rfl : m = ((8 * len : Nat) : Int) := by omega
  refine (unpack_any hr cap (8 * len) len hx (by omega) (by omega) (by omega)).mono ?_
  rintro e w' ⟨hb, ⟨he, hbo, _⟩ | ⟨_, j, h1, h2, _⟩⟩
  · exact ⟨he, hb, hbo⟩
  · omega
theorem Row.take {w : World} {b off : Nat} {xs : List Int} (h : Row w b off xs) (k : Nat) : Row w b off (xs.take k) := by
  intro j hj
  have hj' : j < xs.length := by rw [List.length_take] at hj; omega
  have := h j hj'
  rw [List.getElem_take]; exact this
theorem Row.drop {w : World} {b off : Nat} {xs : List Int} (h : Row w b off xs) (k : Nat) : Row w b (off + k) (xs.drop k) := by
  intro j hj
  have hj' : k + j < xs.length := by rw [List.length_drop] at hj; omega
  have := h (k + j) hj'
  rw [List.getElem_drop, Nat.add_assoc]; exact this

set_option maxRecDepth 100000 in
set_option maxHeartbeats 3000000 in
theorem join_in (ao : Option Addr) (len cap k : Nat) (xs : List Int) (w : World) (hna : Hid (xs.length = len)) (hlen : len ≤ 8192) (hk : k ≤ len)
    (hba : Hid (∀ n ∈ xs, 0 ≤ n ∧ n ≤ 255)) (hao : Hid (ao = none → len = 0 ∧ cap = 0))
    (hca : Hid (∀ x, ao = some x → ∀ j v, (xs.map (Value.int .u8))[j]? = some v → w.cell? (x.add j) = some v)) :
    Calls Tryf.prog 4 #[.slice ao len cap, .int .i64 k] w fun e w' => e = .returned (.bool true) ∧ Below w.heap.size w w' := by
  have hne := fun wx => run_neq_slice_nil_any (P := Tryf.prog) wx 22 5 ao len cap 0 0 Tryf.underlying22
  have hd1 : decide ((k : Int) < 0) = false := decide_eq_false (by omega)
  have hd2 : decide ((len : Int) < (k : Int)) = false := decide_eq_false (by omega)
  go_enter Tryf.func4, Tryf.ntmps4
  go_upto_if 35 with (go_at_call 7; refine (bytes2_yes _ _ _ _ _ (by omega)).mono ?_; rintro e w' ⟨rfl, hw'⟩; subst w')
  go_cut [0] (fun v wx => ∃ sa, v = .slice sa len len ∧ ((sa = none ∧ len = 0) ∨ ∃ b, sa = some ⟨b, 0, none⟩ ∧ Row wx b 0 xs) ∧ Below w.heap.size w wx)
  case first =>
    cases ao with
    | none =>
      obtain ⟨rfl, rfl⟩ := hao.out rfl
      go_wp2
      go_meet
      case rel => exact ⟨none, rfl, .inl ⟨rfl, by first | trivial | rfl⟩, Below.refl _ _⟩
    | some x =>
      obtain ⟨Z, cs, hmk, hg, hmin, hsrc, hfit, h1c, hbel, hrow⟩ := copy_parts x len xs hna.out (by omega) hba.out w (hca.out x rfl)
      go_wp2_with (refine wpList_copy_splice rfl (.tmp 39) (.tmp 40) 22 22 rfl 5 Tryf.underlying22 Tryf.size5 _ _ _ _ _ _ rfl rfl w.heap.size 0 Z 5 hg.out cs hmin.out (fun _ => ⟨rfl, x, rfl, hsrc.out⟩) hfit.out h1c.out w.heap.size w hbel (Nat.le_refl _) ?_; intro w2 HG2 hB2)
      go_meet
      case rel => exact ⟨_, rfl, .inr ⟨_, rfl, hrow.out _ HG2.out⟩, hB2⟩
  case rest =>
    obtain ⟨sa, rfl, ra, hb1⟩ := hcut
    clear hne hca hao
    obtain ⟨w1, rfl⟩ : ∃ w1 : World, w1 = wc := ⟨_, rfl⟩
    rcases ra with ⟨rfl, hz⟩ | ⟨b, rfl, r⟩
    · subst hz
      obtain rfl : k = 0 := by omega
      go_wp2_with fail
      refine (unpack_empty _ _ 0 0 _ rfl rfl).mono ?_
      rintro e w2 ⟨rfl, hb2⟩
      go_wp2_with fail
      refine (unpack_empty _ _ 0 0 _ rfl rfl).mono ?_
      rintro e w3 ⟨rfl, hb3⟩
      go_wp2_with fail
      refine (unpack_empty _ _ 0 0 _ rfl rfl).mono ?_
      rintro e w4 ⟨rfl, hb4⟩
      have hB4 : Below w.heap.size w w4 := ((hb1.trans (hb2.mono hb1.size)).trans (hb3.mono (Nat.le_trans hb1.size hb2.size))).trans (hb4.mono (Nat.le_trans (Nat.le_trans hb1.size hb2.size) hb3.size))
      clear hb1 hb2 hb3 hb4
      go_wp2
      go_loop [12] (fun i => i = .int .i64 0) (fun _ => 0)
      case atStart => rfl
      case round =>
        subst hrel
        go_wp2
        go_loop [13] (fun i => i = .int .i64 0) (fun _ => 0)
        case atStart => rfl
        case round =>
          subst hrel
          go_wp2
          go_loop [14, 15] (fun c i => i = .int .i64 0 ∧ c = .int .i64 0) (fun _ _ => 0)
          case atStart => exact ⟨rfl, rfl⟩
          case round =>
            obtain ⟨rfl, rfl⟩ := hrel
            go_wp2
            go_loop [16, 17] (fun c i => i = .int .i64 0 ∧ c = .int .i64 0) (fun _ _ => 0)
            case atStart => exact ⟨rfl, rfl⟩
            case round =>
              obtain ⟨rfl, rfl⟩ := hrel
              go_wp2
              go_ret
              exact ⟨rfl, hB4⟩
    · have U1 : Hid (Calls Tryf.prog 6 #[.slice (some ⟨b, 0, none⟩) len len, .int .i64 (8 * (len : Int))] w1 fun e w' => e = .returned (.tuple #[.slice (some ⟨w1.heap.size, 0, none⟩) (8 * len) (8 * len), .nilIface]) ∧ Below w1.heap.size w1 w' ∧ Bools w' w1.heap.size (8 * len) (bitAt xs)) :=
        unpack_full (.inr ⟨b, 0, rfl, r⟩) len len hna.out hlen _ rfl
      go_wp2_with fail
      refine U1.out.mono ?_
      rintro e w2 ⟨rfl, hb2, hbo2⟩
      have U2 : Hid (Calls Tryf.prog 6 #[.slice (some ⟨b, 0, none⟩) k len, .int .i64 (8 * (k : Int))] w2 fun e w' => e = .returned (.tuple #[.slice (some ⟨w2.heap.size, 0, none⟩) (8 * k) (8 * k), .nilIface]) ∧ Below w2.heap.size w2 w' ∧ Bools w' w2.heap.size (8 * k) (bitAt (xs.take k))) :=
        unpack_full (.inr ⟨b, 0, rfl, (r.later hb2).take k⟩) len k (by have := hna.out; rw [List.length_take]; omega) (by omega) _ rfl
      go_wp2_with fail
      refine U2.out.mono ?_
      rintro e w3 ⟨rfl, hb3, hbo3⟩
      have ra3 : Row w3 b 0 xs := (r.later hb2).later hb3
      have RD : Hid (RowO w3 (some ⟨b, k, none⟩) (xs.drop k)) := .inr ⟨b, k, rfl, by have := ra3.drop k; rwa [Nat.zero_add] at this⟩
      clear U1 U2 r
      go_upto_region 13 with fail
      go_cut [10, 11] (fun v e wx => ∃ g, v = .slice (some ⟨g, 0, none⟩) (8 * (len - k)) (8 * (len - k)) ∧ e = .nilIface ∧ Below w3.heap.size w3 wx ∧ Bools wx g (8 * (len - k)) (bitAt (xs.drop k)))
      case first =>
        rcases Nat.lt_or_eq_of_le hk with hkl | rfl
        · have U3 : Hid (Calls Tryf.prog 6 #[.slice (some ⟨b, k, none⟩) (len - k) (len - k), .int .i64 (8 * ((len : Int) - (k : Int)))] w3 fun e w' => e = .returned (.tuple #[.slice (some ⟨w3.heap.size, 0, none⟩) (8 * (len - k)) (8 * (len - k)), .nilIface]) ∧ Below w3.heap.size w3 w' ∧ Bools w' w3.heap.size (8 * (len - k)) (bitAt (xs.drop k))) :=
            unpack_full RD.out (len - k) (len - k) (by have := hna.out; rw [List.length_drop]; omega) (by omega) _ (by omega)
          go_wp2_with (go_at_call 6; refine U3.out.mono ?_; rintro e w4 ⟨rfl, hb4, hbo4⟩)
          go_meet
          case rel => exact ⟨_, rfl, rfl, hb4, hbo4⟩
        · go_wp2_with (go_at_call 6; refine (unpack_empty _ _ 0 0 _ rfl rfl).mono ?_; rintro e w4 ⟨rfl, hb4⟩)
          go_meet
          case rel => exact ⟨w3.heap.size, by simp, rfl, hb4, fun j hj => absurd hj (by omega)⟩
      case rest =>
        obtain ⟨g3, rfl, rfl, hb4, hbo4⟩ := hcut
        obtain ⟨w4, rfl⟩ : ∃ w4 : World, w4 = wc := ⟨_, rfl⟩
        have C1 : Hid (Bools w4 w1.heap.size (8 * len) (bitAt xs)) := (hbo2.later hb3).later hb4
        have C2 : Hid (Bools w4 w2.heap.size (8 * k) (bitAt (xs.take k))) := hbo3.later hb4
        have C3 : Hid (Bools w4 g3 (8 * (len - k)) (bitAt (xs.drop k))) := hbo4
        have R4 : Hid (Row w4 b 0 xs) := ra3.later hb4
        have hB4 : Below w.heap.size w w4 := ((hb1.trans (hb2.mono hb1.size)).trans (hb3.mono (Nat.le_trans hb1.size hb2.size))).trans (hb4.mono (Nat.le_trans (Nat.le_trans hb1.size hb2.size) hb3.size))
        clear hb1 hb2 hb3 hb4 hbo2 hbo3 hbo4 ra3 RD
        go_wp2
        go_loopw [12] (fun i wr => ∃ j q : Nat, j ≤ 8 * k ∧ i = .int .i64 j ∧ wr = w4.drewN q) (fun i _ => 8 * k - (intOf i).toNat)
        case atStart => exact ⟨0, 0, Nat.zero_le _, rfl, rfl⟩
        case round =>
          obtain ⟨j, q, hj, rfl, rfl⟩ := hrel
          by_cases hlt : j < 8 * k
          · obtain ⟨v, hv⟩ : ∃ v, v = bitAt xs j := ⟨_, rfl⟩
            have hA : w4.cell? ⟨w1.heap.size, j, none⟩ = some (.bool v) := by rw [hv]; exact (C1.out j (by omega)).1
            have hB : w4.cell? ⟨w2.heap.size, j, none⟩ = some (.bool v) := by rw [hv, ← bitAt_take xs k j hlt]; exact (C2.out j hlt).1
            have hi1 : (j : Int) < 8 * (len : Int) := by omega
            have hi2 : (j : Int) < 8 * (k : Int) := by omega
            clear hv
            go_wp2
            go_quiet (fail)
            go_wp2
            go_roundw
            case rel => exact ⟨j + 1, q + nq, by omega, by go_num, rfl⟩
            case measure => simp [intOf]; omega
          · have hjk : 8 * k ≤ j := by omega
            go_wp2
            go_loopw [13] (fun i wr => ∃ j q : Nat, j ≤ 8 * (len - k) ∧ i = .int .i64 j ∧ wr = w4.drewN q) (fun i _ => 8 * (len - k) - (intOf i).toNat)
            case atStart => exact ⟨0, q, Nat.zero_le _, rfl, rfl⟩
            case round =>
              clear hlt hj hjk
              obtain ⟨j', q', hj', rfl, rfl⟩ := hrel
              by_cases hlt : j' < 8 * (len - k)
              · obtain ⟨v, hv⟩ : ∃ v, v = bitAt xs (8 * k + j') := ⟨_, rfl⟩
                have hA : w4.cell? ⟨w1.heap.size, 8 * k + j', none⟩ = some (.bool v) := by rw [hv]; exact (C1.out (8 * k + j') (by omega)).1
                have hB : w4.cell? ⟨g3, j', none⟩ = some (.bool v) := by rw [hv, ← bitAt_drop xs k j']; exact (C3.out j' hlt).1
                have hi1 : 8 * (k : Int) + (j' : Int) < 8 * (len : Int) := by omega
                have hi2 : (j' : Int) < ((8 * (len - k) : Nat) : Int) := by omega
                have hi3 : (8 * (k : Int) + (j' : Int)).toNat = 8 * k + j' := by omega
                have hi4 : (0 : Int) ≤ 8 * (k : Int) + (j' : Int) := by omega
                clear hv
                go_wp2
                go_quiet (fail)
                go_wp2
                go_roundw
                case rel => exact ⟨j' + 1, q' + nq, by omega, by go_num, rfl⟩
                case measure => simp [intOf]; omega
              · have hjk : 8 * (len - k) ≤ j' := by omega
                go_wp2
                go_loop [14, 15] (fun c i => ∃ j : Nat, j ≤ 8 * len ∧ i = .int .i64 j ∧ c = .int .i64 (cnt xs j)) (fun _ i => 8 * len - (intOf i).toNat)
                case atStart => exact ⟨0, Nat.zero_le _, rfl, rfl⟩
                case round =>
                  clear hlt hj' hjk
                  obtain ⟨j, hj, rfl, rfl⟩ := hrel
                  have hcl := cnt_le xs j
                  by_cases hlt : j < 8 * len
                  · obtain ⟨v, hv⟩ : ∃ v, v = bitAt xs j := ⟨_, rfl⟩
                    have hA : w4.cell? ⟨w1.heap.size, j, none⟩ = some (.bool v) := by rw [hv]; exact (C1.out j hlt).1
                    have hi1 : (j : Int) < 8 * (len : Int) := by omega
                    have HS : Hid (cnt xs (j + 1) = cnt xs j + if v = true then 1 else 0) := by show cnt xs (j + 1) = _; rw [cnt_succ, hv]
                    clear hv
                    cases v with
                    | false =>
                      go_wp2
                      go_round
                      case rel => exact ⟨j + 1, by omega, by go_num, by rw [HS.out]; simp⟩
                      case measure => simp [intOf]; omega
                    | true =>
                      go_wp2
                      go_round
                      case rel => exact ⟨j + 1, by omega, by go_num, by rw [HS.out]; simp⟩
                      case measure => simp [intOf]; omega
                  · have hje : j = 8 * len := by omega
                    subst hje
                    clear hlt hj hcl
                    have HT : Hid (cnt xs (8 * len) = pops xs len) := cnt_pops xs len
                    go_wp2
                    go_loop [16, 17] (fun p i => ∃ m : Nat, m ≤ len ∧ i = .int .i64 m ∧ p = .int .i64 (pops xs m)) (fun _ i => len - (intOf i).toNat)
                    case atStart => exact ⟨0, Nat.zero_le _, rfl, rfl⟩
                    case round =>
                      obtain ⟨m, hm, rfl, rfl⟩ := hrel
                      have hpl := pops_le xs m
                      by_cases hlt : m < len
                      · have hmx : m < xs.length := by rw [hna.out]; exact hlt
                        obtain ⟨hcell, hc0, hc1⟩ := R4.out m hmx
                        rw [Nat.zero_add] at hcell
                        obtain ⟨c, hc⟩ : ∃ c : Nat, (c : Int) = xs[m] := ⟨xs[m].toNat, by omega⟩
                        rw [← hc] at hcell hc0 hc1
                        have HS : Hid (pops xs (m + 1) = pops xs m + popc (c : Int)) := pops_succ xs m _ hmx hc
                        clear hmx hc
                        go_wp2
                        go_loop [16, 18] (fun p x => ∃ d P : Nat, d < 256 ∧ x = .int .u8 d ∧ p = .int .i64 P ∧ P + popc (d : Int) = pops xs m + popc (c : Int)) (fun _ x => (intOf x).toNat)
                        case atStart => exact ⟨c, pops xs m, by omega, rfl, rfl, rfl⟩
                        case round =>
                          obtain ⟨d, P, hd, rfl, rfl, hP⟩ := hrel
                          have hP' : Hid (P + popc (d : Int) = pops xs m + popc (c : Int)) := hP
                          have hpb : P ≤ 8 * m + 8 := by have := popc_le (c : Int); omega
                          clear hP
                          by_cases hz : d = 0
                          · subst hz
                            go_wp2
                            go_round
                            case rel =>
                              have hz0 : popc ((0 : Nat) : Int) = 0 := popc_zero
                              have hPe : P = pops xs (m + 1) := by have := hP'.out; have := HS.out; omega
                              exact ⟨m + 1, by omega, by go_num, by rw [hPe]⟩
                            case measure => simp [intOf]; omega
                          · obtain ⟨k1, k2⟩ := kern ⟨d, hd⟩ hz
                            obtain ⟨d', hd'⟩ : ∃ d', d' = d &&& (d - 1) := ⟨_, rfl⟩
                            have hbt : bits BinOp.and IntKind.u8 (d : Int) ((d : Int) - 1) = (d' : Int) := by
                              rw [show (d : Int) - 1 = ((d - 1 : Nat) : Int) from by omega, u8_and _ _ (Int.natCast_nonneg _) (by omega) (Int.natCast_nonneg _) (by omega), Int.toNat_natCast, Int.toNat_natCast, hd']
                            have hne : ((d : Int) != 0) = true := by simp; omega
                            simp only [] at k1 k2
                            rw [← hd'] at k1 k2
                            have K1 : Hid (popc (d' : Int) + 1 = popc (d : Int)) := k1
                            have hd1 : 1 ≤ d := by omega
                            clear k1 hd' hz
                            go_wp2
                            go_round
                            case rel => exact ⟨d', P + 1, by omega, rfl, by go_num, by have := hP'.out; have := K1.out; omega⟩
                            case measure => simp [intOf]; omega
                      · have hml : m = len := by omega
                        subst hml
                        go_wp2
                        go_ret
                        exact ⟨by rw [HT.out]; simp, below_drewN hB4 _⟩

set_option maxRecDepth 100000 in
set_option maxHeartbeats 800000 in
theorem join_far (ao : Option Addr) (len cap : Nat) (k : Int) (w : World) (h : 8192 < len ∨ k < 0 ∨ (len : Int) < k) (hm : len ≤ maxLen) :
    Calls Tryf.prog 4 #[.slice ao len cap, .int .i64 k] w fun e w' => e = .returned (.bool true) ∧ Below w.heap.size w w' := by
  by_cases h1 : 1048576 < len
  · have B1 : Hid (Calls Tryf.prog 7 #[.slice ao len cap, .int .i64 k] w fun e w' => e = .returned (.bool false) ∧ w' = w) := bytes2_no _ _ _ _ _ h1 hm
    clear h h1 hm
    go_enter Tryf.func4, Tryf.ntmps4
    go_wp2_with (go_at_call 7; refine B1.out.mono ?_; rintro e w' ⟨rfl, hw'⟩; subst w')
    go_ret
    exact ⟨rfl, Below.refl _ _⟩
  · have B1 : Hid (Calls Tryf.prog 7 #[.slice ao len cap, .int .i64 k] w fun e w' => e = .returned (.bool true) ∧ w' = w) := bytes2_yes _ _ _ _ _ (by omega)
    by_cases h0 : 8192 < len
    · clear h hm
      go_enter Tryf.func4, Tryf.ntmps4
      go_wp2_with (go_at_call 7; refine B1.out.mono ?_; rintro e w' ⟨rfl, hw'⟩; subst w')
      go_ret
      exact ⟨rfl, Below.refl _ _⟩
    · by_cases h2 : k < 0
      · have hd : decide (k < 0) = true := decide_eq_true h2
        clear h hm
        go_enter Tryf.func4, Tryf.ntmps4
        go_wp2_with (go_at_call 7; refine B1.out.mono ?_; rintro e w' ⟨rfl, hw'⟩; subst w')
        go_ret
        exact ⟨rfl, Below.refl _ _⟩
      · have hd : decide (k < 0) = false := decide_eq_false h2
        have hd2 : decide ((len : Int) < k) = true := decide_eq_true (by omega)
        clear h hm
        go_enter Tryf.func4, Tryf.ntmps4
        go_wp2_with (go_at_call 7; refine B1.out.mono ?_; rintro e w' ⟨rfl, hw'⟩; subst w')
        go_ret
        exact ⟨rfl, Below.refl _ _⟩
end Go.Proofs.Qxb6630518aFmt
