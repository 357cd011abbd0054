import Derived.Test.Qxb6630518aFmtFacts
import Derived.Test.Qxb6630518aFmtPlain
import Derived.Laws.CopyOwn
import Derived.OpenShut
import Derived.Deep.DeepCutAuto
import Derived.Deep.QuietTactic
import Derived.BigQuiet
import Derived.Laws.BitsAllLaws
import Derived.WalkSmall
namespace Go.Proofs.Qxb6630518aFmt
open Go.RowKit Go.Extern.Stop Go.Stop Go.Extern
open Plain

/-- The bytes 'xs' lie in block b from place 'off' on. -/
def Row (w : World) (b off : Nat) (xs : List Int) : Prop := ∀ j, (h : j < xs.length) → w.cell? ⟨b, off + j, none⟩ = some (.int .u8 xs[j]) ∧ 0 ≤ xs[j] ∧ xs[j] ≤ 255

set_option maxHeartbeats 400000 in
/-- Another length than n pieces take: refused. -/
theorem unpack_len (F : Interp) (ao : Option Addr) (len cap n : Nat) (w : World) (hF : F.answers w.tape) (hn : n ≤ 65536) (h : ¬ len = (n + 7) / 8) :
    Calls Tryf.prog 6 #[.slice ao len cap, .int .i64 n] w fun e w' => (∃ a, e = .returned (.tuple #[.slice none 0 0, .iface 34 (.pointer (some a))])) ∧ Below w.heap.size w w' := by
  have ht : ((len : Int) != ((n : Int) + 7) / 8) = true := by simp; omega
  go_enter Tryf.func6, Tryf.ntmps6
  go_wp2_with (go_at_call 8; refine (errorf_any F len n w.heap.size _ (by exact hF) (by simp) (by simp)).mono ?_; rintro e w' ⟨⟨a, rfl⟩, hb⟩)
  go_ret2
  exact ⟨⟨a, rfl⟩, ((Below.refl _ _).alloc (Nat.le_refl _) _).trans (hb.mono (by simp))⟩

theorem Tryf.info4 : (Tryf.prog.info? 4).map (fun i => (i.zero, i.size, i.bytes)) = some (some (.bool false), 1, 1) := by kernel_rfl

/-- The n cells of block g, from its head on, hold the Bools f 0, f 1, ..; they may be written. -/
def Bools (w : World) (g n : Nat) (f : Nat → Bool) : Prop := ∀ j, j < n → w.cell? ⟨g, j, none⟩ = some (.bool (f j)) ∧ w.frozen? ⟨g, j, none⟩ = false

theorem Bools.drew {w : World} {g n : Nat} {f : Nat → Bool} (h : Bools w g n f) (q : Nat) : Bools (w.drewN q) g n f := fun j hj => h j hj
theorem Bools.congr {w : World} {g n : Nat} {f f' : Nat → Bool} (h : Bools w g n f) (e : ∀ j, j < n → f j = f' j) : Bools w g n f' := fun j hj => by rw [← e j hj]; exact h j hj
theorem Bools.store {w : World} {g n k : Nat} {f f' : Nat → Bool} (h : Bools w g n f) (hk : k < n) (v : Bool) (h1 : f' k = v) (h2 : ∀ j, j < n → j ≠ k → f' j = f j) : Bools (w.setCell ⟨g, k, none⟩ (.bool v)) g n f' := by
  intro j hj
  refine ⟨?_, by rw [World.frozen?_setCell]; exact (h j hj).2⟩
  by_cases e : j = k
  · subst e; rw [World.cell?_setCell_same _ _ _ (h j hj).1, h1]
  · rw [World.cell?_setCell_other _ _ _ _ (by intro h'; exact e (by injection h' with _ h'; exact h'.symm)), h2 j hj e]; exact (h j hj).1
theorem mask_bit (c : Int) (h0 : 0 ≤ c) (h1 : c ≤ 255) (k : Nat) (hk : k < 8) : (bits .and .u8 c (128 / 2 ^ k) != 0) = bit c k := by
  have e := and_mask ⟨c.toNat, by omega⟩ ⟨k, hk⟩
  have hp : 1 ≤ 2 ^ k := Nat.one_le_two_pow
  have hq : (128 : Int) / 2 ^ k = ((128 / 2 ^ k : Nat) : Int) := by simp
  have hle : 128 / 2 ^ k ≤ 128 := Nat.div_le_self _ _
  rw [hq, u8_and c _ h0 (by omega) (Int.natCast_nonneg _) (by omega)]
  unfold bit
  rw [← e, Int.toNat_natCast]
  rw [Bool.eq_iff_iff]; simp

set_option maxHeartbeats 400000 in
theorem unpack_in (b off cap n len : Nat) (xs : List Int) (w : World) (hrow : Row w b off xs) (hx : Hid (xs.length = len)) (hn : n ≤ 65536) (hl : len ≤ 65536) (h : len = (n + 7) / 8) :
    Calls Tryf.prog 6 #[.slice (some ⟨b, off, none⟩) len cap, .int .i64 n] w fun e w' => Below w.heap.size w w' ∧
      ((e = .returned (.tuple #[.slice (some ⟨w.heap.size, 0, none⟩) n n, .nilIface]) ∧ Bools w' w.heap.size n (bitAt xs) ∧ ∀ j, n ≤ j → j < len * 8 → bitAt xs j = false) ∨
       ((∃ a, e = .returned (.tuple #[.slice none 0 0, .iface 34 (.pointer (some a))])) ∧ ∃ j, n ≤ j ∧ j < len * 8 ∧ bitAt xs j = true)) := by
  have ht : ((len : Int) != ((n : Int) + 7) / 8) = false := by simp; omega
  have H : Hid (len = (n + 7) / 8) := h
  clear h
  obtain ⟨i0, hi, hz0, hz1, hz2⟩ := info_parts Tryf.info4
  go_enter Tryf.func6, Tryf.ntmps6
  go_wp2_with (at_make; refine wpList_make_full _ rfl _ _ 24 rfl w.heap.size 4 i0 (.bool false) 1 Tryf.underlying24 hi hz0 hz1 .i64 .i64 _ _ n rfl rfl rfl rfl (by rw [hz2]; omega) (by unfold maxLen; omega) (Nat.le_refl _) ?_; intro w1 hown hgrow)
  have hb1 : Below w.heap.size w w1 := (Below.refl _ _).grown hgrow (Nat.le_refl _) (by intro k h; cases h)
  have hbs : Bools w1 w.heap.size n (fun j => decide (j < 0) && bitAt xs j) := by
    intro j hj
    refine ⟨?_, hown.frozenAt j⟩
    rw [hown.cellAt j (by omega)]
    simp [madeCells, Value.cells, hj, Nat.mod_one]
  clear hown hgrow
  go_loopw [27] (fun i wr => ∃ k : Nat, k ≤ len * 8 ∧ i = .int .i64 k ∧ Bools wr w.heap.size n (fun j => decide (j < k) && bitAt xs j) ∧ Below w.heap.size w wr ∧ ∀ j, n ≤ j → j < k → bitAt xs j = false)
    (fun i _ => len * 8 - (intOf i).toNat)
  case atStart => exact ⟨0, Nat.zero_le _, rfl, hbs, hb1, fun j _ h => absurd h (Nat.not_lt_zero _)⟩
  case round =>
    obtain ⟨k, hk, rfl, hbk, hb, hno⟩ := hrel
    have HNO : Hid (∀ j, n ≤ j → j < k → bitAt xs j = false) := hno
    clear hno hb1 hbs
    by_cases hlt : k < len * 8
    · have hkx : k / 8 < xs.length := by rw [hx.out]; omega
      obtain ⟨c, hc⟩ : ∃ c, c = xs[k / 8] := ⟨_, rfl⟩
      obtain ⟨hcell, hc0, hc1⟩ := hrow (k / 8) hkx
      rw [← hc] at hcell hc0 hc1
      have hcell' := cell_later hb hcell
      have hi1 : ((k : Int) / 8) < (len : Int) := by omega
      have hi0 : (0 : Int) ≤ (k : Int) / 8 := by omega
      have hm0 : (0 : Int) ≤ (k : Int) % 8 := by omega
      have hm1 : (k : Int) % 8 < 8 := by omega
      have hmb := mask_bit c hc0 hc1 (k % 8) (by omega)
      have hba := bitAt_eq xs k c hkx hc
      obtain ⟨v, hv⟩ : ∃ v, v = bit c (k % 8) := ⟨_, rfl⟩
      rw [← hv] at hmb hba
      have HBA : Hid (bitAt xs k = v) := hba
      have HBK : Hid (Bools wr w.heap.size n (fun j => decide (j < k) && bitAt xs j)) := hbk
      clear hba hcell hc hv
      by_cases hkn : k < n
      · have hd : decide ((n : Int) ≤ (k : Int)) = false := decide_eq_false (by omega)
        have hfz := (hbk k hkn).2
        have hcl := (hbk k hkn).1
        simp only [Nat.lt_irrefl, decide_false, Bool.false_and] at hcl
        clear hbk
        go_wp2
        go_quiet (fail)
        go_wp2
        go_roundw
        case rel =>
          refine ⟨k + 1, by omega, by go_num, (HBK.out.drew nq).store hkn v (by simp [HBA.out]) (fun j _ hne => ?_), (below_drewN hb nq).setCell (Nat.le_refl _) _, fun j h1 h2 => ?_⟩
          · congr 1; rw [decide_eq_decide]; omega
          · omega
        case measure => simp [intOf]; omega
      · have hd : decide ((n : Int) ≤ (k : Int)) = true := decide_eq_true (by omega)
        clear hbk
        cases v with
        | false =>
          go_wp2
          go_quiet (fail)
          go_wp2
          go_roundw
          case rel =>
            refine ⟨k + 1, by omega, by go_num, (HBK.out.drew nq).congr (fun j hj => ?_), below_drewN hb nq, fun j h1 h2 => ?_⟩
            · congr 1; rw [decide_eq_decide]; omega
            · by_cases e : j = k
              · rw [e]; exact HBA.out
              · exact HNO.out j h1 (by omega)
          case measure => simp [intOf]; omega
        | true =>
          go_wp2
          go_quiet (fail)
          go_wp2_with (go_at_call 9; refine (new_any _ _).mono ?_; rintro e w' ⟨⟨a, rfl⟩, hbn⟩)
          go_ret2
          exact ⟨(below_drewN hb nq).trans (hbn.mono hb.size), .inr ⟨⟨a, rfl⟩, k, by omega, hlt, HBA.out⟩⟩
    · go_wp2
      go_ret2
      have hkl : k = len * 8 := by omega
      exact ⟨hb, .inl ⟨rfl, hbk.congr (fun j hj => by have hl' := H.out; rw [decide_eq_true (by omega)]; rfl), fun j h1 h2 => HNO.out j h1 (by omega)⟩⟩

set_option maxHeartbeats 400000 in
theorem bytes_no (ao : Option Addr) (len cap : Nat) (n : Int) (w : World) (h : 1048576 < len) (hb : len ≤ maxLen) :
    Calls Tryf.prog 5 #[.slice ao len cap, .int .i64 n] w fun e w' => e = .returned (.bool false) ∧ w' = w := by
  unfold maxLen at hb
  go_enter Tryf.func5, Tryf.ntmps5
  go_wp2
  go_ret
  exact ⟨rfl, rfl⟩
set_option maxHeartbeats 400000 in
theorem bytes_yes (ao : Option Addr) (len cap : Nat) (n : Int) (w : World) (h : len ≤ 1048576) :
    Calls Tryf.prog 5 #[.slice ao len cap, .int .i64 n] w fun e w' => e = .returned (.bool true) ∧ w' = w := by
  go_enter Tryf.func5, Tryf.ntmps5
  go_wp2
  go_ret
  exact ⟨rfl, rfl⟩
set_option maxHeartbeats 400000 in
theorem bytes2_no (ao : Option Addr) (len cap : Nat) (n : Int) (w : World) (h : 1048576 < len) (hb : len ≤ maxLen) :
    Calls Tryf.prog 7 #[.slice ao len cap, .int .i64 n] w fun e w' => e = .returned (.bool false) ∧ w' = w := by
  unfold maxLen at hb
  go_enter Tryf.func7, Tryf.ntmps7
  go_wp2
  go_ret
  exact ⟨rfl, rfl⟩
set_option maxHeartbeats 400000 in
theorem bytes2_yes (ao : Option Addr) (len cap : Nat) (n : Int) (w : World) (h : len ≤ 1048576) :
    Calls Tryf.prog 7 #[.slice ao len cap, .int .i64 n] w fun e w' => e = .returned (.bool true) ∧ w' = w := by
  go_enter Tryf.func7, Tryf.ntmps7
  go_wp2
  go_ret
  exact ⟨rfl, rfl⟩
end Go.Proofs.Qxb6630518aFmt
