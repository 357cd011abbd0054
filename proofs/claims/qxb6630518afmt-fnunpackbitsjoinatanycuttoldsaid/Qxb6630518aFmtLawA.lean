/-
  THE WALK OF FnUnpackBitsExact (function 3).
-/
import Derived.Test.Qxb6630518aFmtWalks
namespace Go.Proofs.Qxb6630518aFmt
open Go.RowKit Go.Extern.Stop Go.Stop Go.Extern
open Plain

theorem Tryf.info5 : (Tryf.prog.info? 5).map (fun i => (i.zero, i.size, i.bytes)) = some (some (.int .u8 0), 1, 1) := by kernel_rfl
theorem Tryf.size5 : (Tryf.prog.info? 5).map (·.size) = some 1 := by kernel_rfl

/-- 'make([]byte, n)': a new block of n cells. -/
theorem make_bytes (n : Nat) (hn : n ≤ 1048576) : ∃ Z : List Value, Z.length = n ∧ ∀ w : World,
    (Instr.makeSlice 22 (.int .i64 n) (.int .i64 n)).run Tryf.prog w = .ok (.slice (some ⟨w.heap.size, 0, none⟩) n n) (w.alloc (.cells Z.toArray 5)) := by
  obtain ⟨i0, hi, hz0, hz1, hz2⟩ := info_parts Tryf.info5
  refine ⟨(madeCells (Value.int .u8 0).cells (n * i0.size)).toList, ?_, fun w => ?_⟩
  · rw [hz1]; simp [madeCells, Value.cells]
  · have := run_make (P := Tryf.prog) w 22 5 i0 (.int .u8 0) Tryf.underlying22 hi hz0 .i64 .i64 n n (by omega) (Int.le_refl _) (by rw [hz2]; omega) (by omega)
    simpa using this

/-- What a copy of a row of bytes leaves. -/
theorem row_of_splice {w : World} {g : Nat} {Z : List Value} {xs : List Int} (hZ : Z.length = xs.length) (hb : ∀ n ∈ xs, 0 ≤ n ∧ n ≤ 255)
    (h : w.heap[g]? = some (.cells (splice Z 0 (xs.map (Value.int .u8))).toArray 5 (0, 0))) : Row w g 0 xs := by
  intro j hj
  have e : splice Z 0 (xs.map (Value.int .u8)) = xs.map (Value.int .u8) := by
    simp only [splice, List.take_zero, List.nil_append, Nat.zero_add, List.length_map]
    rw [← hZ, List.drop_length, List.append_nil]
  rw [e] at h
  refine ⟨?_, hb _ (List.getElem_mem hj)⟩
  rw [cell_of_row w g (0 + j) _ 5 (0, 0) h]
  simp [hj]

/-- WHAT 'make' AND 'copy' LEAVE OF A ROW THAT CAME IN, laid ahead of the walk. -/
theorem copy_parts (x : Addr) (n : Nat) (xs : List Int) (hn : xs.length = n) (hlen : n ≤ 1048576) (hb : ∀ c ∈ xs, 0 ≤ c ∧ c ≤ 255) (w : World)
    (hcell : ∀ j v, (xs.map (Value.int .u8))[j]? = some v → w.cell? (x.add j) = some v) :
    ∃ (Z cs : List Value), (∀ wx : World, (Instr.makeSlice 22 (.int .i64 n) (.int .i64 n)).run Tryf.prog wx = .ok (.slice (some ⟨wx.heap.size, 0, none⟩) n n) (wx.alloc (.cells Z.toArray 5))) ∧
      Hid ((w.alloc (.cells Z.toArray 5)).heap[w.heap.size]? = some (.cells Z.toArray 5 (0, 0))) ∧ Hid (cs.length = Nat.min n n) ∧
      Hid (∀ j v, cs[j]? = some v → (w.alloc (.cells Z.toArray 5)).cell? (x.add j) = some v) ∧ Hid (0 + cs.length ≤ Z.length) ∧ Hid (∀ v ∈ cs, v.oneCell' = true) ∧
      Below w.heap.size w (w.alloc (.cells Z.toArray 5)) ∧
      Hid (∀ w2 : World, w2.heap[w.heap.size]? = some (.cells (splice Z 0 cs).toArray 5 (0, 0)) → Row w2 w.heap.size 0 xs) := by
  obtain ⟨Z, hZ, hmk⟩ := make_bytes n hlen
  have hbel : Below w.heap.size w (w.alloc (.cells Z.toArray 5)) := (Below.refl _ _).alloc (Nat.le_refl _) _
  refine ⟨Z, xs.map (Value.int .u8), hmk, heap_alloc_new w _, ?_, fun j v h => cell_later hbel (hcell j v h), ?_, ints_oneCell _ _, hbel, fun w2 h => row_of_splice (by rw [hZ, hn]) hb h⟩
  · show (xs.map (Value.int .u8)).length = _; simp [hn]
  · show 0 + (xs.map (Value.int .u8)).length ≤ _; simp [hn, hZ]

/-- A slice whose elements are the bytes 'xs'; of an empty one nothing is known but its length. -/
def RowO (w : World) (sa : Option Addr) (xs : List Int) : Prop := xs = [] ∨ ∃ b off, sa = some ⟨b, off, none⟩ ∧ Row w b off xs

theorem Row.later {w w' : World} {b off : Nat} {xs : List Int} (hb : Below w.heap.size w w') (h : Row w b off xs) : Row w' b off xs :=
  fun j hj => ⟨cell_later hb (h j hj).1, (h j hj).2⟩
theorem RowO.later {w w' : World} {sa : Option Addr} {xs : List Int} (hb : Below w.heap.size w w') (h : RowO w sa xs) : RowO w' sa xs := by
  rcases h with h | ⟨b, off, e, r⟩
  · exact .inl h
  · exact .inr ⟨b, off, e, r.later hb⟩
theorem RowO.some {w : World} {sa : Option Addr} {xs : List Int} (h : RowO w sa xs) (hl : 1 ≤ xs.length) : ∃ b off, sa = .some ⟨b, off, none⟩ ∧ Row w b off xs := by
  rcases h with rfl | h
  · simp at hl
  · exact h

set_option maxHeartbeats 400000 in
theorem unpack_empty (ao : Option Addr) (cap len n : Nat) (w : World) (hl : Hid (len = 0)) (hn : Hid (n = 0)) :
    Calls Tryf.prog 6 #[.slice ao len cap, .int .i64 n] w fun e w' => e = .returned (.tuple #[.slice (some ⟨w.heap.size, 0, none⟩) n n, .nilIface]) ∧ Below w.heap.size w w' := by
  have ht : ((len : Int) != ((n : Int) + 7) / 8) = false := by have := hl.out; have := hn.out; simp; omega
  have hn' : n ≤ 100 := by have := hn.out; omega
  have hl' : len ≤ 100 := by have := hl.out; omega
  obtain ⟨i0, hi, hz0, hz1, hz2⟩ := info_parts Tryf.info4
  go_enter Tryf.func6, Tryf.ntmps6
  go_wp2_with (at_make; refine wpList_make_full _ rfl _ _ 24 rfl w.heap.size 4 i0 (.bool false) 1 Tryf.underlying24 hi hz0 hz1 .i64 .i64 _ _ n rfl rfl rfl rfl (by rw [hz2]; omega) (by unfold maxLen; omega) (Nat.le_refl _) ?_; intro w1 hown hgrow)
  have hb1 : Below w.heap.size w w1 := (Below.refl _ _).grown hgrow (Nat.le_refl _) (by intro k h; cases h)
  clear hown hgrow
  go_loop [27] (fun i => i = .int .i64 0) (fun i => len * 8 - (intOf i).toNat)
  case atStart => rfl
  case round =>
    subst hrel
    have hz : ¬ ((0 : Int) < (len : Int) * 8) := by have := hl.out; omega
    go_wp2
    go_ret2
    exact ⟨rfl, hb1⟩

/-- UnpackBits at the length that n pieces take, for every row. -/
theorem unpack_any {w : World} {sa : Option Addr} {xs : List Int} (hr : RowO w sa xs) (cap n len : Nat) (hx : xs.length = len) (hn : n ≤ 65536) (hl : len ≤ 65536) (h : len = (n + 7) / 8) :
    Calls Tryf.prog 6 #[.slice sa len cap, .int .i64 n] w fun e w' => Below w.heap.size w w' ∧
      ((e = .returned (.tuple #[.slice (some ⟨w.heap.size, 0, none⟩) n n, .nilIface]) ∧ Bools w' w.heap.size n (bitAt xs) ∧ ∀ j, n ≤ j → j < len * 8 → bitAt xs j = false) ∨
       ((∃ a, e = .returned (.tuple #[.slice none 0 0, .iface 34 (.pointer (some a))])) ∧ ∃ j, n ≤ j ∧ j < len * 8 ∧ bitAt xs j = true)) := by
  rcases hr with rfl | ⟨b, off, rfl, r⟩
  · obtain rfl : len = 0 := hx.symm
    obtain rfl : n = 0 := by omega
    refine (unpack_empty sa cap 0 0 w rfl rfl).mono fun e w' ⟨he, hb⟩ => ⟨hb, .inl ⟨he, fun j hj => absurd hj (Nat.not_lt_zero _), fun j _ hj => absurd hj (by omega)⟩⟩
  · exact unpack_in b off cap n len xs w r hx hn hl h

theorem i64_and7 (n : Int) : bits .and .i64 n 7 = n % 8 := by
  have h7 : (BitVec.ofInt 64 7).toNat = 2 ^ 3 - 1 := by decide
  have key : (BitVec.ofInt 64 n &&& BitVec.ofInt 64 7).toNat = (n % ((2 ^ 64 : Nat) : Int)).toNat % 2 ^ 3 := by
    rw [BitVec.toNat_and, BitVec.toNat_ofInt, h7, Nat.and_two_pow_sub_one_eq_mod]
  show IntKind.i64.wrap ((BitVec.ofInt 64 n &&& BitVec.ofInt 64 7).toNat : Nat) = n % 8
  rw [key, IntKind.wrap_i64]
  omega
theorem and7_nat (k : Nat) : bits .and .i64 (k : Int) 7 = ((k % 8 : Nat) : Int) := by rw [i64_and7]; omega
theorem shift_bit' (c : Int) (h0 : 0 ≤ c) (h1 : c ≤ 255) (m : Nat) (hm : m < 8) : (bits .and .u8 (c / 2 ^ (7 - m)) 1 == 1) = bit c m := by
  have e := shift_bit ⟨c.toNat, by omega⟩ ⟨m, hm⟩
  obtain ⟨a, rfl⟩ := Int.eq_ofNat_of_zero_le h0
  have hq : (a : Int) / 2 ^ (7 - m) = ((a / 2 ^ (7 - m) : Nat) : Int) := by simp
  have hle : a / 2 ^ (7 - m) ≤ a := Nat.div_le_self _ _
  rw [hq, u8_and _ 1 (Int.natCast_nonneg _) (by omega) (by decide) (by decide)]
  unfold bit
  rw [← e, Int.toNat_natCast, Bool.eq_iff_iff]; simp; omega

theorem mask_small : ∀ r : Fin 8, 1 ≤ r.val → ((2 : Int) ^ (8 - r.val) - 1) % 256 = ((2 ^ (8 - r.val) - 1 : Nat) : Int) ∧ 2 ^ (8 - r.val) - 1 < 256 := by decide +kernel
/-- The law's own test of the spare low bits, and what UnpackBits refuses. -/
theorem spare_iff (xs : List Int) (n len : Nat) (c : Int) (hl : len = (n + 7) / 8) (hr : ¬ n % 8 = 0) (hx : xs.length = len) (hk : len - 1 < xs.length) (hc : c = xs[len - 1]) (h0 : 0 ≤ c) (h1 : c ≤ 255) :
    (bits .and .u8 c ((2 ^ (8 - n % 8) - 1) % 256) != 0) = true ↔ ∃ j, n ≤ j ∧ j < len * 8 ∧ bitAt xs j = true := by
  obtain ⟨hm1, hm2⟩ := mask_small ⟨n % 8, by omega⟩ (by simp; omega)
  have e := spare_mask ⟨c.toNat, by omega⟩ ⟨n % 8, by omega⟩
  simp only [] at hm1 hm2 e
  rw [hm1, u8_and c _ h0 (by omega) (Int.natCast_nonneg _) (by omega), Int.toNat_natCast]
  have e2 : ((((c.toNat &&& (2 ^ (8 - n % 8) - 1) : Nat) : Int) != 0) = true) ↔ ((c.toNat &&& (2 ^ (8 - n % 8) - 1)) != 0) = true := by
    generalize (c.toNat &&& (2 ^ (8 - n % 8) - 1)) = z
    simp
  rw [e2, e, List.any_eq_true]
  constructor
  · rintro ⟨k, hk8, hb⟩
    rw [List.mem_range] at hk8
    rw [Bool.and_eq_true, decide_eq_true_eq] at hb
    refine ⟨(len - 1) * 8 + k, by omega, by omega, ?_⟩
    rw [bitAt_eq xs _ c (by omega) (by rw [hc]; congr 1; omega)]
    unfold bit
    rw [show ((len - 1) * 8 + k) % 8 = k from by omega]
    exact hb.2
  · rintro ⟨j, j1, j2, hb⟩
    have hj : j / 8 = len - 1 := by omega
    rw [bitAt_eq xs j c (by omega) (by rw [hc]; congr 1; exact hj.symm)] at hb
    exact ⟨j % 8, by rw [List.mem_range]; omega, by rw [Bool.and_eq_true, decide_eq_true_eq]; exact ⟨by omega, hb⟩⟩

set_option maxRecDepth 100000 in
set_option maxHeartbeats 1600000 in
theorem exact_in (F : Interp) (ao : Option Addr) (len cap n : Nat) (xs : List Int) (w : World) (hF : F.answers w.tape) (hna : Hid (xs.length = len)) (hlen : len ≤ 1048576) (hn : n ≤ 65536)
    (hba : Hid (∀ n ∈ xs, 0 ≤ n ∧ n ≤ 255)) (hao : Hid (ao = none → len = 0 ∧ cap = 0))
    (hca : Hid (∀ x, ao = some x → ∀ j v, (xs.map (Value.int .u8))[j]? = some v → w.cell? (x.add j) = some v)) :
    Calls Tryf.prog 3 #[.slice ao len cap, .int .i64 n] w fun e w' => e = .returned (.bool true) ∧ Below w.heap.size w w' := by
  have hne := fun wx => run_neq_slice_nil_any (P := Tryf.prog) wx 22 5 ao len cap 0 0 Tryf.underlying22
  have hd1 : decide ((n : Int) < 0) = false := decide_eq_false (by omega)
  have hd2 : decide ((65536 : Int) < (n : Int)) = false := decide_eq_false (by omega)
  go_enter Tryf.func3, Tryf.ntmps3
  go_upto_if 28 with (go_at_call 5; refine (bytes_yes _ _ _ _ _ (by omega)).mono ?_; rintro e w' ⟨rfl, hw'⟩; subst w')
  go_cut [0] (fun v wx => ∃ sa, v = .slice sa len len ∧ RowO wx sa xs ∧ Below w.heap.size w wx)
  case first =>
    cases ao with
    | none =>
      obtain ⟨rfl, rfl⟩ := hao.out rfl
      go_wp2
      go_meet
      case rel => exact ⟨none, rfl, .inl (List.eq_nil_of_length_eq_zero hna.out), Below.refl _ _⟩
    | some x =>
      obtain ⟨Z, cs, hmk, hg, hmin, hsrc, hfit, h1c, hbel, hrow⟩ := copy_parts x len xs hna.out (by omega) hba.out w (hca.out x rfl)
      go_wp2_with (refine wpList_copy_splice rfl (.tmp 32) (.tmp 33) 22 22 rfl 5 Tryf.underlying22 Tryf.size5 _ _ _ _ _ _ rfl rfl w.heap.size 0 Z 5 hg.out cs hmin.out (fun _ => ⟨rfl, x, rfl, hsrc.out⟩) hfit.out h1c.out w.heap.size w hbel (Nat.le_refl _) ?_; intro w2 HG2 hB2)
      go_meet
      case rel => exact ⟨_, rfl, .inr ⟨_, _, rfl, hrow.out _ HG2.out⟩, hB2⟩
  case rest =>
    obtain ⟨sa, rfl, ra, hb1⟩ := hcut
    clear hne hca hao
    have hF1 : F.answers wc.tape := by rw [hb1.tape]; exact hF
    have hnn := fun wx => Lib.run_eql_slice_nil (P := Tryf.prog) wx 24 4 none 0 0 0 0 Tryf.underlying24
    by_cases hl : len = (n + 7) / 8
    · have HL : Hid (len = (n + 7) / 8) := hl
      have hlen' : len ≤ 8193 := by omega
      have U := unpack_any ra len n len hna.out hn (by omega) hl
      by_cases hm : n % 8 = 0
      · have hm' : ((n : Int) % 8 != 0) = false := by simp; omega
        have hq : ((len : Int) != (n : Int) / 8) = false := by simp; omega
        have U0 : Hid (Calls Tryf.prog 6 #[.slice sa len len, .int .i64 n] wc fun e w' => e = .returned (.tuple #[.slice (some ⟨wc.heap.size, 0, none⟩) n n, .nilIface]) ∧ Below wc.heap.size wc w' ∧ Bools w' wc.heap.size n (bitAt xs)) := by
          refine U.mono ?_
          rintro e w' ⟨hb, ⟨he, hbo, _⟩ | ⟨_, j, h1, h2, _⟩⟩
          · exact ⟨he, hb, hbo⟩
          · omega
        have HM : Hid (n % 8 = 0) := hm
        clear U hm hl hnn
        go_wp2_with (go_at_call 6; refine U0.out.mono ?_; rintro e w' ⟨rfl, hbu, hbo⟩)
        go_loop [11] (fun i => ∃ k : Nat, k ≤ n ∧ i = .int .i64 k) (fun i => n - (intOf i).toNat)
        case atStart => exact ⟨0, Nat.zero_le _, rfl⟩
        case round =>
          obtain ⟨k, hk, rfl⟩ := hrel
          by_cases hlt : k < n
          · have hkx : k / 8 < xs.length := by rw [hna.out, HL.out]; omega
            obtain ⟨b, off, rfl, r⟩ := ra.some (by omega)
            obtain ⟨c, hc⟩ : ∃ c, c = xs[k / 8] := ⟨_, rfl⟩
            obtain ⟨hcell, hc0, hc1⟩ := r (k / 8) hkx
            rw [← hc] at hcell hc0 hc1
            have hcell' := cell_later hbu hcell
            have hbk := (hbo k hlt).1
            obtain ⟨m, hmk⟩ : ∃ m, m = k % 8 := ⟨_, rfl⟩
            have hm7 : m ≤ 7 := by omega
            have h7 : bits BinOp.and IntKind.i64 (k : Int) 7 = (m : Int) := by rw [hmk]; exact and7_nat k
            have hi1 : ((k : Int) / 8) < (len : Int) := by have := hna.out; omega
            have hi0 : (0 : Int) ≤ (k : Int) / 8 := by omega
            obtain ⟨v, hv⟩ : ∃ v, v = bitAt xs k := ⟨_, rfl⟩
            have hbt : (bits BinOp.and IntKind.u8 (c / 2 ^ (7 - m)) 1 == 1) = v := by rw [shift_bit' c hc0 hc1 m (by omega), hv, hmk]; exact (bitAt_eq xs k c hkx hc).symm
            rw [← hv] at hbk
            clear hmk hkx hv hcell hc
            go_wp2
            go_round
            case rel => exact ⟨k + 1, by omega, by go_num⟩
            case measure => simp [intOf]; omega
          · go_wp2
            go_ret
            exact ⟨rfl, hb1.trans (hbu.mono hb1.size)⟩
      · have hm' : ((n : Int) % 8 != 0) = true := by simp; omega
        have hq : ((len : Int) != (n : Int) / 8 + 1) = false := by simp; omega
        have hkx : len - 1 < xs.length := by rw [hna.out]; omega
        obtain ⟨b, off, rfl, r⟩ := ra.some (by omega)
        obtain ⟨c, hc⟩ : ∃ c, c = xs[len - 1] := ⟨_, rfl⟩
        obtain ⟨hcell, hc0, hc1⟩ := r (len - 1) hkx
        rw [← hc] at hcell hc0 hc1
        have hi1 : (0 : Int) ≤ (len : Int) - 1 := by omega
        have hi2 : ((len : Int) - 1).toNat = len - 1 := by omega
        have hsi := spare_iff xs n len c hl hm hna.out hkx hc hc0 hc1
        by_cases hs : ∃ j, n ≤ j ∧ j < len * 8 ∧ bitAt xs j = true
        · have U0 : Hid (Calls Tryf.prog 6 #[.slice (some ⟨b, off, none⟩) len len, .int .i64 n] wc fun e w' => (∃ a, e = .returned (.tuple #[.slice none 0 0, .iface 34 (.pointer (some a))])) ∧ Below wc.heap.size wc w') := by
            refine U.mono ?_
            rintro e w' ⟨hb, ⟨_, _, hno⟩ | ⟨he, _⟩⟩
            · obtain ⟨j, h1, h2, h3⟩ := hs
              rw [hno j h1 h2] at h3; cases h3
            · exact ⟨he, hb⟩
          have hmask : (bits BinOp.and IntKind.u8 c ((2 ^ (8 - n % 8) - 1) % 256) != 0) = true := hsi.2 hs
          have HM : Hid (¬ n % 8 = 0) := hm
          clear U hm hl hsi hs hc hkx
          go_wp2_with (go_at_call 6; refine U0.out.mono ?_; rintro e w' ⟨⟨a, rfl⟩, hbu⟩; have hcell' := cell_later hbu hcell)
          go_ret
          exact ⟨rfl, hb1.trans (hbu.mono hb1.size)⟩
        · have U0 : Hid (Calls Tryf.prog 6 #[.slice (some ⟨b, off, none⟩) len len, .int .i64 n] wc fun e w' => e = .returned (.tuple #[.slice (some ⟨wc.heap.size, 0, none⟩) n n, .nilIface]) ∧ Below wc.heap.size wc w' ∧ Bools w' wc.heap.size n (bitAt xs)) := by
            refine U.mono ?_
            rintro e w' ⟨hb, ⟨he, hbo, _⟩ | ⟨_, he⟩⟩
            · exact ⟨he, hb, hbo⟩
            · exact absurd he hs
          have hmask : (bits BinOp.and IntKind.u8 c ((2 ^ (8 - n % 8) - 1) % 256) != 0) = false := by
            cases e : (bits BinOp.and IntKind.u8 c ((2 ^ (8 - n % 8) - 1) % 256) != 0) with
            | false => rfl
            | true => exact absurd (hsi.1 e) hs
          have HM : Hid (¬ n % 8 = 0) := hm
          clear U hm hl hsi hs hc hkx hnn
          go_wp2_with (go_at_call 6; refine U0.out.mono ?_; rintro e w' ⟨rfl, hbu, hbo⟩; have hcell'' := cell_later hbu hcell)
          clear hmask hcell'' hcell hi1 hi2 hc0 hc1
          go_loop [11] (fun i => ∃ k : Nat, k ≤ n ∧ i = .int .i64 k) (fun i => n - (intOf i).toNat)
          case atStart => exact ⟨0, Nat.zero_le _, rfl⟩
          case round =>
            obtain ⟨k, hk, rfl⟩ := hrel
            by_cases hlt : k < n
            · have hkx : k / 8 < xs.length := by rw [hna.out, HL.out]; omega
              obtain ⟨c, hc⟩ : ∃ c, c = xs[k / 8] := ⟨_, rfl⟩
              obtain ⟨hcell, hc0, hc1⟩ := r (k / 8) hkx
              rw [← hc] at hcell hc0 hc1
              have hcell' := cell_later hbu hcell
              have hbk := (hbo k hlt).1
              obtain ⟨m, hmk⟩ : ∃ m, m = k % 8 := ⟨_, rfl⟩
              have hm7 : m ≤ 7 := by omega
              have h7 : bits BinOp.and IntKind.i64 (k : Int) 7 = (m : Int) := by rw [hmk]; exact and7_nat k
              have hi1 : ((k : Int) / 8) < (len : Int) := by have := hna.out; omega
              have hi0 : (0 : Int) ≤ (k : Int) / 8 := by omega
              obtain ⟨v, hv⟩ : ∃ v, v = bitAt xs k := ⟨_, rfl⟩
              have hbt : (bits BinOp.and IntKind.u8 (c / 2 ^ (7 - m)) 1 == 1) = v := by rw [shift_bit' c hc0 hc1 m (by omega), hv, hmk]; exact (bitAt_eq xs k c hkx hc).symm
              rw [← hv] at hbk
              clear hmk hkx hv hcell hc
              go_wp2
              go_round
              case rel => exact ⟨k + 1, by omega, by go_num⟩
              case measure => simp [intOf]; omega
            · go_wp2
              go_ret
              exact ⟨rfl, hb1.trans (hbu.mono hb1.size)⟩
    · by_cases hm : n % 8 = 0
      · have hm' : ((n : Int) % 8 != 0) = false := by simp; omega
        have hq : ((len : Int) != (n : Int) / 8) = true := by simp; omega
        clear hm
        go_wp2_with (go_at_call 6; refine (unpack_len F sa len len n _ (by exact hF1) hn hl).mono ?_; rintro e w' ⟨⟨a, rfl⟩, hbu⟩)
        go_ret
        exact ⟨rfl, hb1.trans (hbu.mono hb1.size)⟩
      · have hm' : ((n : Int) % 8 != 0) = true := by simp; omega
        have hq : ((len : Int) != (n : Int) / 8 + 1) = true := by simp; omega
        clear hm
        go_wp2_with (go_at_call 6; refine (unpack_len F sa len len n _ (by exact hF1) hn hl).mono ?_; rintro e w' ⟨⟨a, rfl⟩, hbu⟩)
        go_ret
        exact ⟨rfl, hb1.trans (hbu.mono hb1.size)⟩

set_option maxHeartbeats 800000 in
theorem exact_far (ao : Option Addr) (len cap : Nat) (n : Int) (w : World) (h : 1048576 < len ∨ n < 0 ∨ 65536 < n) (hm : len ≤ maxLen) :
    Calls Tryf.prog 3 #[.slice ao len cap, .int .i64 n] w fun e w' => e = .returned (.bool true) ∧ Below w.heap.size w w' := by
  by_cases h1 : 1048576 < len
  · have B1 : Hid (Calls Tryf.prog 5 #[.slice ao len cap, .int .i64 n] w fun e w' => e = .returned (.bool false) ∧ w' = w) := bytes_no _ _ _ _ _ h1 hm
    clear h h1 hm
    go_enter Tryf.func3, Tryf.ntmps3
    go_wp2_with (go_at_call 5; refine B1.out.mono ?_; rintro e w' ⟨rfl, hw'⟩; subst w')
    go_ret
    exact ⟨rfl, Below.refl _ _⟩
  · have B1 : Hid (Calls Tryf.prog 5 #[.slice ao len cap, .int .i64 n] w fun e w' => e = .returned (.bool true) ∧ w' = w) := bytes_yes _ _ _ _ _ (by omega)
    by_cases h2 : n < 0
    · have hd : decide (n < 0) = true := decide_eq_true h2
      clear h hm
      go_enter Tryf.func3, Tryf.ntmps3
      go_wp2_with (go_at_call 5; refine B1.out.mono ?_; rintro e w' ⟨rfl, hw'⟩; subst w')
      go_ret
      exact ⟨rfl, Below.refl _ _⟩
    · have hd : decide (n < 0) = false := decide_eq_false h2
      have hd2 : decide (65536 < n) = true := decide_eq_true (by omega)
      clear h hm
      go_enter Tryf.func3, Tryf.ntmps3
      go_wp2_with (go_at_call 5; refine B1.out.mono ?_; rintro e w' ⟨rfl, hw'⟩; subst w')
      go_ret
      exact ⟨rfl, Below.refl _ _⟩

/-- WHAT THE WALK IS TOLD OF A SLICE OF BYTES THAT CAME IN, in the words of the walk above: the bytes by themselves. -/
theorem bytes_of_row {w : World} {x : Addr} {len cap : Nat} {zs : List Int} (hl : len ≤ cap) (hz : zs.length = cap) (hcell : ∀ i, i < zs.length → w.cell? (x.add i) = some (.int .u8 (zs.getD i 0))) (hwf : ∀ n ∈ zs, (Lit.int .u8 n).wf = true) :
    (zs.take len).length = len ∧ (∀ n ∈ zs.take len, 0 ≤ n ∧ n ≤ 255) ∧ ∀ j v, ((zs.take len).map (Value.int .u8))[j]? = some v → w.cell? (x.add j) = some v := by
  refine ⟨by rw [List.length_take]; omega, fun n hn => ?_, fun j v h => ?_⟩
  · exact bounds_u8 (hwf n (List.mem_of_mem_take hn))
  · rw [List.getElem?_map, List.getElem?_take] at h
    split at h
    · rename_i hj
      have hjz : j < zs.length := by omega
      rw [List.getElem?_eq_getElem hjz] at h
      simp only [Option.map_some, Option.some.injEq] at h
      rw [hcell j hjz, ← h]; simp [List.getD, hjz]
    · simp at h
end Go.Proofs.Qxb6630518aFmt
