/-
  zzHasPrefix (8) and zzHasSuffix (9), where what they look for is there.
-/
import Derived.Test.Qxb6631248aStr
import Derived.Deep.QuietTactic
import Derived.BigQuiet
namespace Go.Proofs.Qxb6631248a
open Go.RowKit
open Plain

set_option maxHeartbeats 1600000 in
theorem prefix_any (s p : ByteArray) (w : World) (hs : s.size ≤ 1099511627776) (h : p.size ≤ s.size) (he : ∀ i, (h1 : i < p.size) → (h2 : i < s.size) → s[i] = p[i]) :
    Calls Try.prog 8 #[.string s, .string p] w fun e w' => e = .returned (.bool true) ∧ ∃ q, w' = w.drewN q := by
  go_enter Try.func8, Try.ntmps8
  go_wp2_with fail
  go_loopw [5] (fun i w' => ∃ k q : Nat, k ≤ p.size ∧ i = .int .i64 k ∧ w' = w.drewN q) (fun i _ => p.size - (intOf i).toNat)
  case atStart => exact ⟨0, 0, Nat.zero_le _, rfl, rfl⟩
  case round =>
    obtain ⟨k, q, hk, rfl, rfl⟩ := hrel
    by_cases hlt : k < p.size
    · have b1 : (k : Int) < (p.size : Int) := by omega
      have b2 : (k : Int) < (s.size : Int) := by omega
      have b3 : k < s.size := by omega
      have b4 : (((s[k]).toNat : Int) != ((p[k]).toNat : Int)) = false := by rw [he k hlt b3]; simp
      go_wp2_with fail
      go_quiet (fail)
      go_wp2_with fail
      go_roundw
      case rel => exact ⟨k + 1, q + nq, by omega, by go_num, rfl⟩
      case measure => simp [intOf]; omega
    · go_wp2_with fail
      go_ret
      exact ⟨rfl, q, rfl⟩

set_option maxHeartbeats 1600000 in
theorem suffix_any (s p : ByteArray) (w : World) (hs : s.size ≤ 1099511627776) (d : Nat) (h : s.size = d + p.size) (he : ∀ i, (h1 : i < p.size) → (h2 : d + i < s.size) → s[d + i] = p[i]) :
    Calls Try.prog 9 #[.string s, .string p] w fun e w' => e = .returned (.bool true) ∧ ∃ q, w' = w.drewN q := by
  have hps : p.size ≤ s.size := by omega
  have hd : ((s.size : Int) - (p.size : Int)) = (d : Int) := by omega
  go_enter Try.func9, Try.ntmps9
  go_wp2_with fail
  go_loopw [6] (fun i w' => ∃ k q : Nat, k ≤ p.size ∧ i = .int .i64 k ∧ w' = w.drewN q) (fun i _ => p.size - (intOf i).toNat)
  case atStart => exact ⟨0, 0, Nat.zero_le _, rfl, rfl⟩
  case round =>
    obtain ⟨k, q, hk, rfl, rfl⟩ := hrel
    by_cases hlt : k < p.size
    · have b1 : (k : Int) < (p.size : Int) := by omega
      obtain ⟨x, hx⟩ : ∃ x, x = d + k := ⟨_, rfl⟩
      have b3 : x < s.size := by omega
      have b4 : (((s[x]).toNat : Int) != ((p[k]).toNat : Int)) = false := by subst hx; rw [he k hlt b3]; simp
      have b6 : IntKind.i64.wrap ((d : Int) + (k : Int)) = (x : Int) := by rw [IntKind.wrap_i64]; omega
      have b2 : (x : Int) < (s.size : Int) := by omega
      go_wp2_with fail
      clear h hd hx
      go_quiet (fail)
      go_wp2_with fail
      go_roundw
      case rel => exact ⟨k + 1, q + nq, by omega, by go_num, rfl⟩
      case measure => simp [intOf]; omega
    · go_wp2_with fail
      go_ret
      exact ⟨rfl, q, rfl⟩
end Go.Proofs.Qxb6631248a
