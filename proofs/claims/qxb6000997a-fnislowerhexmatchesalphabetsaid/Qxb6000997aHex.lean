import Derived.Test.Qxb6000997aRows
import Derived.WalkKit
import Derived.WalkSpells
import Derived.WalkLawsBesides
namespace Go.Proofs.Qxb6000997a
open Go.RowKit

/-- A lower-case hex digit. -/
def hexB (c : Int) : Bool := decide ((48 ≤ c ∧ c ≤ 57) ∨ (97 ≤ c ∧ c ≤ 102))
/-- The first n are all lower-case hex digits. -/
def hexAll (f : Nat → Int) : Nat → Bool
  | 0 => true
  | n + 1 => hexAll f n && hexB (f n)

theorem hexAll_iff (f : Nat → Int) (n : Nat) : hexAll f n = true ↔ ∀ i, i < n → hexB (f i) = true := by
  induction n with
  | zero => simp [hexAll]
  | succ n ih =>
    simp only [hexAll, Bool.and_eq_true, ih]
    constructor
    · rintro ⟨h, k⟩ i hi
      by_cases e : i = n
      · subst e; exact k
      · exact h i (by omega)
    · intro h
      exact ⟨fun i hi => h i (by omega), h n (by omega)⟩

theorem hexAll_false {f : Nat → Int} {n k : Nat} (hk : k < n) (h : hexB (f k) = false) : hexAll f n = false := by
  cases e : hexAll f n with
  | false => rfl
  | true => rw [(hexAll_iff f n).1 e k hk] at h; cases h

theorem ret_bool {a b : Bool} (h : a = b) : Ending.returned (.bool a) = .returned (.bool b) := by rw [h]

set_option maxHeartbeats 400000 in
theorem isHex_some (b off len cap : Nat) (f : Nat → Int) (w : World) (hl : len ≤ 9223372036854775807)
    (hc : ∀ i, i < len → w.cell? ⟨b, off + i, none⟩ = some (.int .u8 (f i))) :
    Calls Try.prog 15 #[.slice (some ⟨b, off, none⟩) len cap] w fun e w' => e = .returned (.bool (hexAll f len)) ∧ w = w' := by
  go_enter Try.func15, Try.ntmps15
  go_wp2
  go_loop [7] (fun i => ∃ k : Nat, k ≤ len ∧ i = .int .i64 k ∧ hexAll f k = true) (fun i => len - (intOf i).toNat)
  case atStart => exact ⟨0, Nat.zero_le _, rfl, rfl⟩
  case round =>
    obtain ⟨k, hk, rfl, hh⟩ := hrel
    by_cases hlt : k < len
    · have hck := hc k hlt
      have HH : Hid (hexAll f k = true) := hh
      clear hh
      go_wp2
      all_goals first
        | (go_ret
           exact ⟨ret_bool (hexAll_false hlt (by simp only [hexB, decide_eq_false_iff_not]; omega)).symm, rfl⟩)
        | (go_round
           case rel => exact ⟨k + 1, by omega, by go_num, by rw [hexAll, HH.out, Bool.true_and]; simp only [hexB, decide_eq_true_eq]; omega⟩
           case measure => simp [intOf]; omega)
    · have e : k = len := by omega
      subst e
      have HH : Hid (hexAll f k = true) := hh
      clear hh
      go_wp2
      go_ret
      exact ⟨ret_bool HH.out.symm, rfl⟩

set_option maxHeartbeats 400000 in
theorem isHex_zero (a : Option Addr) (cap : Nat) (w : World) :
    Calls Try.prog 15 #[.slice a 0 cap] w fun e w' => e = .returned (.bool true) ∧ w = w' := by
  go_enter Try.func15, Try.ntmps15
  go_wp2
  go_loop [7] (fun i => i = .int .i64 0) (fun _ => 0)
  case atStart => rfl
  case round =>
    subst hrel
    go_wp2
    go_ret
    exact ⟨rfl, rfl⟩

/-- 'isLowerHex' of a slice of whatever make. -/
theorem isHex_any (a : Option Addr) (len cap : Nat) (f : Nat → Int) (w : World) (hl : len ≤ 9223372036854775807)
    (hc : 0 < len → ∃ b off, a = some ⟨b, off, none⟩ ∧ ∀ i, i < len → w.cell? ⟨b, off + i, none⟩ = some (.int .u8 (f i))) :
    Calls Try.prog 15 #[.slice a len cap] w fun e w' => e = .returned (.bool (hexAll f len)) ∧ w = w' := by
  by_cases h : 0 < len
  · obtain ⟨b, off, rfl, hc2⟩ := hc h
    exact isHex_some b off len cap f w hl hc2
  · obtain rfl : len = 0 := by omega
    exact isHex_zero a cap w

set_option maxHeartbeats 400000 in
/-- 'ZZisLowerHex' hands on. -/
theorem zzHex_any (a : Option Addr) (len cap : Nat) (f : Nat → Int) (w : World) (hl : len ≤ 9223372036854775807)
    (hc : 0 < len → ∃ b off, a = some ⟨b, off, none⟩ ∧ ∀ i, i < len → w.cell? ⟨b, off + i, none⟩ = some (.int .u8 (f i))) :
    Calls Try.prog 9 #[.slice a len cap] w fun e w' => e = .returned (.bool (hexAll f len)) ∧ w = w' := by
  go_enter Try.func9, Try.ntmps9
  go_wp2_with (go_at_call 15; refine (isHex_any a len cap f _ hl hc).mono ?_; rintro e w' ⟨rfl, rfl⟩)
  go_ret
  exact ⟨rfl, rfl⟩
end Go.Proofs.Qxb6000997a
