import Derived.Test.Qxb6000997aHex
import Derived.Test.Qxb6000997aArr
import Derived.Test.Qxb6000997aLowUpLaw
import Derived.Deep.QuietTactic
import Derived.BigQuiet
namespace Go.Proofs.Qxb6000997a
open Go.RowKit

theorem lo_nat (k : Nat) (hk : k < 16) (hp : k < (ByteArray.mk #[48, 49, 50, 51, 52, 53, 54, 55, 56, 57, 97, 98, 99, 100, 101, 102]).size) :
    (((ByteArray.mk #[48, 49, 50, 51, 52, 53, 54, 55, 56, 57, 97, 98, 99, 100, 101, 102])[k]'hp).toNat : Int) = loCh (k : Int) :=
  lo_at (k : Int) (by omega) (by omega) hp

theorem alpha_hit {c : Int} {k : Nat} (hk : k < 16) (h : loCh (k : Int) = c) : hexB c = true := by
  rw [hexB_true, ← h]; unfold loCh; split <;> omega
theorem alpha_miss {c : Int} (h : ∀ j : Nat, j < 16 → loCh (j : Int) ≠ c) : hexB c = false := by
  rw [hexB_false]
  intro hc
  rcases hc with ⟨h1, h2⟩ | ⟨h1, h2⟩
  · exact h (c - 48).toNat (by omega) (by unfold loCh; rw [if_pos (by omega)]; omega)
  · exact h (c - 87).toNat (by omega) (by unfold loCh; rw [if_neg (by omega)]; omega)

set_option maxHeartbeats 800000 in
theorem alpha_some (b off len cap : Nat) (f : Nat → Int) (w : World) (hl : len ≤ 9223372036854775807)
    (hc : ∀ i, i < len → w.cell? ⟨b, off + i, none⟩ = some (.int .u8 (f i))) :
    Calls Try.prog 10 #[.slice (some ⟨b, off, none⟩) len cap] w fun e w' => e = .returned (.bool (hexAll f len)) ∧ ∃ n, w' = w.drewN n := by
  go_enter Try.func10, Try.ntmps10
  go_wp2
  go_loopw [3] (fun i wr => ∃ k : Nat, k ≤ len ∧ i = .int .i64 k ∧ hexAll f k = true ∧ ∃ n, wr = w.drewN n) (fun i _ => len - (intOf i).toNat)
  case atStart => exact ⟨0, Nat.zero_le _, rfl, rfl, 0, rfl⟩
  case round =>
    obtain ⟨k, hk, rfl, hh, n0, rfl⟩ := hrel
    have HH : Hid (hexAll f k = true) := hh
    clear hh
    by_cases hlt : k < len
    · have hck := hc k hlt
      have HC : Hid _ := hc
      clear hc
      go_wp2_with fail
      go_loopw [4, 5] (fun s i wr => ∃ j : Nat, j ≤ 16 ∧ i = .int .i64 j ∧ s = .bool false ∧ (∀ m : Nat, m < j → loCh (m : Int) ≠ f k) ∧ ∃ n, wr = w.drewN n) (fun _ i _ => 16 - (intOf i).toNat)
      case atStart => exact ⟨0, by omega, rfl, rfl, fun m hm => by omega, n0, rfl⟩
      case round =>
        obtain ⟨j, hj, rfl, rfl, hmiss, n1, rfl⟩ := hrel
        have HM : Hid _ := hmiss
        clear hmiss
        by_cases hjl : j < 16
        · go_wp2_with fail
          go_quiet (fail)
          go_wp2_with fail
          · have hit : (((ByteArray.mk #[48, 49, 50, 51, 52, 53, 54, 55, 56, 57, 97, 98, 99, 100, 101, 102])[j]'hjl).toNat : Int) = f k := by
              refine beq_iff_eq.1 ?_
              assumption
            rw [lo_nat j hjl hjl] at hit
            go_roundw
            case rel => exact ⟨k + 1, by omega, by go_num, by rw [hexAll, HH.out, alpha_hit hjl hit]; rfl, _, rfl⟩
            case measure => simp [intOf]; omega
          · have miss : ¬ (((ByteArray.mk #[48, 49, 50, 51, 52, 53, 54, 55, 56, 57, 97, 98, 99, 100, 101, 102])[j]'hjl).toNat : Int) = f k := by
              refine beq_eq_false_iff_ne.1 ?_
              assumption
            rw [lo_nat j hjl hjl] at miss
            go_roundw
            case rel => exact ⟨j + 1, by omega, by go_num, rfl, fun m hm => by
              by_cases e : m = j
              · subst e; exact miss
              · exact HM.out m (by omega), _, rfl⟩
            case measure => simp [intOf]; omega
        · obtain rfl : j = 16 := by omega
          go_wp2_with fail
          go_ret
          exact ⟨ret_bool (hexAll_false hlt (alpha_miss HM.out)).symm, n1, rfl⟩
    · obtain rfl : k = len := by omega
      go_wp2
      go_ret
      exact ⟨ret_bool HH.out.symm, n0, rfl⟩

set_option maxHeartbeats 400000 in
theorem alpha_zero (a : Option Addr) (cap : Nat) (w : World) :
    Calls Try.prog 10 #[.slice a 0 cap] w fun e w' => e = .returned (.bool true) ∧ ∃ n, w' = w.drewN n := by
  go_enter Try.func10, Try.ntmps10
  go_wp2
  go_loop [3] (fun i => i = .int .i64 0) (fun _ => 0)
  case atStart => rfl
  case round =>
    subst hrel
    go_wp2
    go_ret
    exact ⟨rfl, 0, rfl⟩

theorem alpha_any (a : Option Addr) (len cap : Nat) (f : Nat → Int) (w : World) (hl : len ≤ 9223372036854775807)
    (hc : 0 < len → ∃ b off, a = some ⟨b, off, none⟩ ∧ ∀ i, i < len → w.cell? ⟨b, off + i, none⟩ = some (.int .u8 (f i))) :
    Calls Try.prog 10 #[.slice a len cap] w fun e w' => e = .returned (.bool (hexAll f len)) ∧ ∃ n, w' = w.drewN n := by
  by_cases h : 0 < len
  · obtain ⟨b, off, rfl, hc2⟩ := hc h
    exact alpha_some b off len cap f w hl hc2
  · obtain rfl : len = 0 := by omega
    exact alpha_zero a cap w
end Go.Proofs.Qxb6000997a
