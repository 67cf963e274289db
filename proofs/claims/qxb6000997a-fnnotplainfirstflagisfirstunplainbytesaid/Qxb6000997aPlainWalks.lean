import Derived.Test.Qxb6000997aRows
import Derived.WalkKit
import Derived.WalkSpells
import Derived.WalkLawsBesides
import Derived.Test.Qxb6000997aPlain
namespace Go.Proofs.Qxb6000997a
open Go.RowKit

theorem ret_i {k : IntKind} {a b : Int} (h : a = b) : Ending.returned (.int k a) = .returned (.int k b) := by rw [h]
theorem ret_b {a b : Bool} (h : a = b) : Ending.returned (.bool a) = .returned (.bool b) := by rw [h]

set_option maxHeartbeats 400000 in
theorem notPlain_any (x : Nat) (w : World) (hx : x < 18446744073709551616) :
    Calls Try.prog 16 #[.int .u64 (x : Int)] w fun e w' => e = .returned (.int .u64 ((npN x : Nat) : Int)) ∧ w = w' := by
  have HX := npl_nat x hx
  have H : Hid _ := HX
  clear HX
  go_enter Try.func16, Try.ntmps16
  go_wp2
  go_ret
  exact ⟨ret_i H.out, rfl⟩

set_option maxHeartbeats 400000 in
theorem zzNotPlain_any (x : Nat) (w : World) (hx : x < 18446744073709551616) :
    Calls Try.prog 13 #[.int .u64 (x : Int)] w fun e w' => e = .returned (.int .u64 ((npN x : Nat) : Int)) ∧ w = w' := by
  go_enter Try.func13, Try.ntmps13
  go_wp2_with (go_at_call 16; refine (notPlain_any x _ hx).mono ?_; rintro e w' ⟨rfl, rfl⟩)
  go_ret
  exact ⟨rfl, rfl⟩

theorem bad_yes {c : Nat} (h : c < 32 ∨ 128 ≤ c ∨ c = 34 ∨ c = 92) : badB c = true := by unfold badB; exact decide_eq_true h
theorem bad_no {c : Nat} (h : ¬ (c < 32 ∨ 128 ≤ c ∨ c = 34 ∨ c = 92)) : badB c = false := by unfold badB; exact decide_eq_false h

set_option maxHeartbeats 400000 in
theorem plainByte_int (c : Int) (w : World) (h0 : 0 ≤ c) :
    Calls Try.prog 14 #[.int .u8 c] w fun e w' => e = .returned (.bool (!badB c.toNat)) ∧ w = w' := by
  go_enter Try.func14, Try.ntmps14
  go_wp2
  all_goals go_ret
  · subst_vars
    exact ⟨rfl, rfl⟩
  · refine ⟨ret_b ?_, rfl⟩
    by_cases h : c = 92
    · subst h; rfl
    · rw [bad_no (by omega)]; simp; omega
  · exact ⟨ret_b (by rw [bad_yes (by omega)]; rfl), rfl⟩
  · exact ⟨ret_b (by rw [bad_yes (by omega)]; rfl), rfl⟩

theorem plainByte_any (c : Nat) (w : World) :
    Calls Try.prog 14 #[.int .u8 (c : Int)] w fun e w' => e = .returned (.bool (!badB c)) ∧ w = w' := by
  have := plainByte_int (c : Int) w (by omega)
  rw [Int.toNat_natCast] at this
  exact this
end Go.Proofs.Qxb6000997a
