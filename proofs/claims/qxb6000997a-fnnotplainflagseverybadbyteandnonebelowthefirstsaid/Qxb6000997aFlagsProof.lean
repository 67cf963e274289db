import Derived.Test.Qxb6000997aRows
import Derived.WalkKit
import Derived.ProofKit
import Derived.OpenShut
import Derived.ShutString
import Derived.Test.Qxb6000997aPlainWalks
namespace Go.Proofs.Qxb6000997a.fnNotPlainFlagsEveryBadByteAndNoneBelowTheFirst
open Go.ChangeShapes Go.WideShapes Go.ChangeAt Go.RowKit
open Go.ChangeMaps (open_string shut_string)
set_option linter.unusedVariables false

theorem own : ownKnob Try.prog.godebug = none := by kernel_rfl

/-! ### STEP 1: THE WALK -/
def anyBad (x : Nat) : Nat → Bool
  | 0 => false
  | n + 1 => anyBad x n || badB (byteN x n)

theorem anyBad_false {x k : Nat} (h : anyBad x k = false) : ∀ j, j < k → badB (byteN x j) = false := by
  induction k with
  | zero => intro j hj; omega
  | succ n ih =>
    simp only [anyBad, Bool.or_eq_false_iff] at h
    intro j hj
    by_cases e : j = n
    · subst e; exact h.2
    · exact ih h.1 j (by omega)

theorem flag_eq (n j : Nat) (hn : n < 18446744073709551616) : (bits .and .u64 ((n : Int) / 2 ^ j) 1 == 1) = n.testBit j := by
  have e : ((n : Int) / 2 ^ j) = ((n / 2 ^ j : Nat) : Int) := by simp
  have hlt : n / 2 ^ j < 18446744073709551616 := Nat.lt_of_le_of_lt (Nat.div_le_self _ _) hn
  have := u64_and_nat (n / 2 ^ j) 1 hlt (by decide)
  rw [e, show (1 : Int) = ((1 : Nat) : Int) from rfl, this, Nat.testBit_eq_decide_div_mod_eq, nat_mask1]
  rw [Bool.eq_iff_iff, beq_iff_eq, decide_eq_true_eq]
  omega

theorem byte_eq (x k : Nat) : ((x : Int) / 2 ^ (8 * k) % 256) = ((byteN x k : Nat) : Int) := by
  unfold byteN; simp

theorem plain_at (x k : Nat) (w : World) :
    Calls Try.prog 14 #[.int .u8 ((x : Int) / 2 ^ (8 * k) % 256)] w fun e w' => e = .returned (.bool (!badB (byteN x k))) ∧ w = w' := by
  rw [byte_eq]; exact plainByte_any _ _

set_option maxHeartbeats 400000 in
theorem walk6 (x : Nat) (hx : x < 18446744073709551616) (w : World) :
    Calls Try.prog 6 #[.int .u64 (x : Int)] w fun e w' => e = .returned (.bool true) ∧ w = w' := by
  have hh : bits .andNot .u64 ((npN x : Nat) : Int) 9259542123273814144 = 0 := by
    rw [show (9259542123273814144 : Int) = ((9259542123273814144 : Nat) : Int) from rfl, u64_andNot_nat _ _ (np_lt x) (by decide), np_highs]; rfl
  have hn := np_lt x
  go_enter Try.func6, Try.ntmps6
  go_wp2_with (go_at_call 13; refine (zzNotPlain_any x _ hx).mono ?_; rintro e w' ⟨rfl, rfl⟩)
  clear hh
  go_loop [4, 5] (fun s i => ∃ k : Nat, k ≤ 8 ∧ i = .int .u64 k ∧ s = .bool (anyBad x k)) (fun _ i => 8 - (intOf i).toNat)
  case atStart => exact ⟨0, by omega, rfl, rfl⟩
  case round =>
    obtain ⟨k, hk, rfl, rfl⟩ := hrel
    by_cases hlt : k < 8
    · have hfl := flag_eq (npN x) (8 * k + 7) hn
      have key : (badB (byteN x k) = true ∧ (npN x).testBit (8 * k + 7) = true) ∨ (badB (byteN x k) = false ∧ ((npN x).testBit (8 * k + 7) = false ∨ anyBad x k = true)) := by
        cases hb : badB (byteN x k) with
        | true => exact .inl ⟨rfl, np_bad x k hx hlt hb⟩
        | false =>
          refine .inr ⟨rfl, ?_⟩
          cases ha : anyBad x k with
          | true => exact .inr rfl
          | false =>
            refine .inl (np_good x k hx hlt fun j hj => ?_)
            by_cases e : j = k
            · subst e; exact hb
            · exact anyBad_false ha j (by omega)
      have step : anyBad x (k + 1) = (anyBad x k || badB (byteN x k)) := rfl
      rcases key with ⟨hb, hf⟩ | ⟨hb, hf | hs⟩
      · rw [hf] at hfl
        rw [hb, Bool.or_true] at step
        have S : Hid _ := step
        clear step
        go_wp2_with (go_at_call 14; refine (plain_at x k _).mono ?_; rintro e w' ⟨rfl, rfl⟩)
        go_round
        case rel => exact ⟨k + 1, by omega, by go_num, by rw [S.out]⟩
        case measure => simp [intOf]; omega
      · rw [hf] at hfl
        rw [hb, Bool.or_false] at step
        have S : Hid _ := step
        clear step
        go_wp2_with (go_at_call 14; refine (plain_at x k _).mono ?_; rintro e w' ⟨rfl, rfl⟩)
        go_round
        case rel => exact ⟨k + 1, by omega, by go_num, by rw [S.out]⟩
        case measure => simp [intOf]; omega
      · rw [hb, Bool.or_false] at step
        have S : Hid _ := step
        clear step
        cases hf : (npN x).testBit (8 * k + 7)
        all_goals
          rw [hf] at hfl
          go_wp2_with (go_at_call 14; refine (plain_at x k _).mono ?_; rintro e w' ⟨rfl, rfl⟩)
          go_round
          case rel => exact ⟨k + 1, by omega, by go_num, by rw [S.out, hs]⟩
          case measure => simp [intOf]; omega
    · go_wp2
      go_ret
      exact ⟨rfl, rfl⟩

theorem walk (a0 : Int) (w0 : (Lit.int .u64 a0).wf = true) (w : World) :
    Calls Try.prog 6 #[.int .u64 a0] w fun e w' => e = .returned (.bool true) ∧ Grown w w' := by
  have hb := bounds_u64 w0
  obtain ⟨x, rfl⟩ : ∃ x : Nat, a0 = x := ⟨a0.toNat, by omega⟩
  refine (walk6 x (by omega) w).mono ?_
  rintro e w' ⟨rfl, rfl⟩
  exact ⟨rfl, Grown.refl _⟩

/-! ### THE ROW's STEP: WRITTEN OUT: LEAVE IT -/
set_option maxRecDepth 100000 in
theorem lifted (os : Os) (started : os.Started) (H : Type) (enc : TypeId × Value → H) :
    ReturnsInHanded {} Try.checked os 6 .any (Rows.fnNotPlainFlagsEveryBadByteAndNoneBelowTheFirstSpec.pre6 enc Try.prog Try.f6 Rows.fnNotPlainFlagsEveryBadByteAndNoneBelowTheFirstRow.domain false) (Rows.fnNotPlainFlagsEveryBadByteAndNoneBelowTheFirstSpec.post enc Try.prog Try.f6 false true false false) := by
  refine returnsInHanded_of_change (C := Try.checked) own started (by kernel_rfl) Try.func6
    (ChangeSpec.witness6 (enc := enc) (C := Try.checked) false ⟨#[], #[.int .u64 0], []⟩ 8 (by kernel_rfl) (by kernel_rfl) (by kernel_rfl) (by kernel_rfl)) ?_
  intro W base args ds gs before hval0 hW hcnd _
  have hval : ∀ (j : Nat) t v, Try.f6.params[j]? = some t → args[j]? = some v → Value.okWide Try.prog W .any base t v := hval0
  have hW' := hW
  obtain ⟨p, q, hA0, hV, rfl, hfz, hnd⟩ := hW
  have hA : DataW.TrodAll enc Try.prog W 0 (fun _ => true) true Try.f6.params.toList args.toList ds p := hA0
  rw [Try.params6] at hA hval
  obtain ⟨v0, vs0, d0, ds0, p0, q0, hargs, rfl, rfl, h0, r0⟩ := trodAll_cons hA
  obtain ⟨rfl, rfl, rfl⟩ := trodAll_nil r0
  obtain rfl : args = #[v0] := by cases args; simp_all
  obtain ⟨rfl, rfl⟩ := trodVars_none hV
  obtain ⟨a0, rfl, rfl, rfl, w0⟩ := open_int Try.underlying26 (hval 0 26 v0 rfl rfl) h0
  clear hA0 hval0
  simp only [List.append_nil] at hW'
  refine (walk a0 w0 W).mono fun e W' ⟨he, hg⟩ => ?_
  subst he
  exact ⟨_, rfl, post_of_same (pa := []) (pv := []) hW' (fun _ _ _ => (trodAll_cons_mk (shut_bool Try.underlying4 _) trodAll_mk0)) (fun sp _ => (trodAll_cons_mk (shut_int Try.underlying26 w0) trodAll_mk0)) (fun _ _ => rfl) rfl
    (hg.frame _) hg.2.1 (ok_one (by kernel_rfl) rfl (okWide_bool_mk Try.underlying4 _))⟩

theorem over : Rows.fnNotPlainFlagsEveryBadByteAndNoneBelowTheFirstRow.holds Try.pinned (OpenSpec.ofChange Rows.fnNotPlainFlagsEveryBadByteAndNoneBelowTheFirstSpec) :=
  OpenClaim.holds_of_wide 6 Try.f6 rfl rfl rfl rfl rfl rfl rfl ⟨rfl, rfl, rfl, rfl, rfl⟩ rfl rfl rfl rfl rfl (by kernel_rfl) Try.func6 (by kernel_rfl)
    (of_decide_eq_true (by kernel_rfl)) (by unfold Func.isWrapper; first | (rw [if_pos (by decide +kernel)]; kernel_rfl) | (rw [if_neg (by decide +kernel)]; exact ⟨rfl, rfl⟩))
    (fun os started H enc _ => lifted os started H enc)

/-- ████ THE STATEMENT ████ -/
theorem proved : Rows.FnNotPlainFlagsEveryBadByteAndNoneBelowTheFirstSaid :=
  over
end Go.Proofs.Qxb6000997a.fnNotPlainFlagsEveryBadByteAndNoneBelowTheFirst
