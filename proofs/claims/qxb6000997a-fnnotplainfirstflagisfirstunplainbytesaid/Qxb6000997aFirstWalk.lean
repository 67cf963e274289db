import Derived.Test.Qxb6000997aPlainWalks
import Derived.Below
namespace Go.Proofs.Qxb6000997a
open Go.RowKit

/-- The word of the top m bytes. -/
def accN (f : Nat → Nat) : Nat → Nat
  | 0 => 0
  | m + 1 => accN f m * 256 + f (7 - m)

theorem accN_lt (f : Nat → Nat) (hf : ∀ i, f i < 256) (m : Nat) : accN f m < 256 ^ m := by
  induction m with
  | zero => simp [accN]
  | succ m ih =>
    have := hf (7 - m)
    rw [accN, Nat.pow_succ]
    omega

theorem accN_seven (f : Nat → Nat) (hf : ∀ i, f i < 256) (m : Nat) (hm : m < 8) : accN f m < 72057594037927936 := by
  have h1 := accN_lt f hf m
  have h2 : 256 ^ m ≤ 256 ^ 7 := Nat.pow_le_pow_right (by decide) (by omega)
  omega

theorem acc_step (f : Nat → Nat) (hf : ∀ i, f i < 256) (m : Nat) (hm : m < 8) :
    bits .or .u64 (IntKind.u64.wrap ((accN f m : Int) * 256)) ((f (7 - m) : Nat) : Int) = ((accN f (m + 1) : Nat) : Int) := by
  have h1 := accN_seven f hf m hm
  have h2 := hf (7 - m)
  rw [IntKind.wrap_u64, show ((accN f m : Int) * 256) % 18446744073709551616 = ((accN f m * 256 : Nat) : Int) from by omega, u64_or_nat _ _ (by omega) (by omega),
    nat_join 8 _ _ (by omega) (by omega), accN]

theorem acc_byte (f : Nat → Nat) (hf : ∀ i, f i < 256) (i : Nat) (hi : i < 8) : byteN (accN f 8) i = f i := by
  have h0 := hf 0; have h1 := hf 1; have h2 := hf 2; have h3 := hf 3; have h4 := hf 4; have h5 := hf 5; have h6 := hf 6; have h7 := hf 7
  have e : accN f 8 = (((((((0 * 256 + f 7) * 256 + f 6) * 256 + f 5) * 256 + f 4) * 256 + f 3) * 256 + f 2) * 256 + f 1) * 256 + f 0 := rfl
  unfold byteN
  rw [e]
  rcases lt8 hi with rfl | rfl | rfl | rfl | rfl | rfl | rfl | rfl <;> simp only [Nat.reduceMul, Nat.reducePow] <;> omega

theorem acc_lt (f : Nat → Nat) (hf : ∀ i, f i < 256) : accN f 8 < 18446744073709551616 := by
  have := accN_lt f hf 8
  omega

theorem np_below (x k t : Nat) (hx : x < 18446744073709551616) (h : ∀ j, j < k → badB (byteN x j) = false) (ht : t < 8 * k + 7) (ht8 : t < 64) : (npN x).testBit t = false := by
  cases e : (npN x).testBit t with
  | false => rfl
  | true =>
    obtain ⟨i, hi, rfl⟩ := np_only x t e
    rw [np_good x i hx hi (fun j hj => h j (by omega))] at e
    cases e

theorem np_zero (x : Nat) (hx : x < 18446744073709551616) (h : ∀ j, j < 8 → badB (byteN x j) = false) : npN x = 0 := by
  apply Nat.eq_of_testBit_eq
  intro t
  rw [Nat.zero_testBit]
  cases e : (npN x).testBit t with
  | false => rfl
  | true =>
    obtain ⟨i, hi, rfl⟩ := np_only x t e
    rw [np_good x i hx hi (fun j hj => h j (by omega))] at e
    cases e

theorem bit_eq (n j : Nat) (hn : n < 18446744073709551616) : (bits .and .u64 ((n : Int) / 2 ^ j) 1 == 0) = !n.testBit j := by
  have e : ((n : Int) / 2 ^ j) = ((n / 2 ^ j : Nat) : Int) := by simp
  have hlt : n / 2 ^ j < 18446744073709551616 := Nat.lt_of_le_of_lt (Nat.div_le_self _ _) hn
  have := u64_and_nat (n / 2 ^ j) 1 hlt (by decide)
  rw [e, show (1 : Int) = ((1 : Nat) : Int) from rfl, this, Nat.testBit_eq_decide_div_mod_eq, nat_mask1]
  rw [Bool.eq_iff_iff, beq_iff_eq, Bool.not_eq_true', decide_eq_false_iff_not]
  omega

theorem box_cell (f : Nat → Nat) (w : World) (i : Nat) (hi : i < 8) : (w.alloc (.cells #[.int .u8 (f 0), .int .u8 (f 1), .int .u8 (f 2), .int .u8 (f 3), .int .u8 (f 4), .int .u8 (f 5), .int .u8 (f 6), .int .u8 (f 7)] 30)).cell? ⟨w.heap.size, i, none⟩ = some (.int .u8 (f i)) := by
  rw [World.cell?_alloc_at _ _ _ _ rfl]
  rcases lt8 hi with rfl | rfl | rfl | rfl | rfl | rfl | rfl | rfl <;> rfl

set_option maxHeartbeats 800000 in
theorem walk7 (f : Nat → Nat) (hf : ∀ i, f i < 256) (w : World) :
    Calls Try.prog 7 #[.agg #[.int .u8 (f 0), .int .u8 (f 1), .int .u8 (f 2), .int .u8 (f 3), .int .u8 (f 4), .int .u8 (f 5), .int .u8 (f 6), .int .u8 (f 7)]] w fun e w' => e = .returned (.bool true) ∧ Below w.heap.size w w' := by
  have hc := box_cell f w
  have hB := (Below.refl w.heap.size w).alloc (Nat.le_refl _) (.cells #[.int .u8 (f 0), .int .u8 (f 1), .int .u8 (f 2), .int .u8 (f 3), .int .u8 (f 4), .int .u8 (f 5), .int .u8 (f 6), .int .u8 (f 7)] 30)
  have H1 : Hid _ := hc
  have H2 : Hid _ := hB
  clear hc hB
  go_enter Try.func7, Try.ntmps7
  go_wp2
  have hc := H1.out
  have hB := H2.out
  clear H1 H2
  generalize hW : w.alloc (.cells #[.int .u8 (f 0), .int .u8 (f 1), .int .u8 (f 2), .int .u8 (f 3), .int .u8 (f 4), .int .u8 (f 5), .int .u8 (f 6), .int .u8 (f 7)] 30) = W at *
  clear hW
  generalize hS : w.heap.size = B at *
  have HS : Hid _ := hS
  clear hS
  go_loop [3, 4] (fun s i => ∃ m : Nat, m ≤ 8 ∧ i = .int .i64 (7 - (m : Int)) ∧ s = .int .u64 (accN f m)) (fun _ i => (intOf i + 1).toNat)
  case atStart => exact ⟨0, by omega, rfl, rfl⟩
  case round =>
    obtain ⟨m, hm, rfl, rfl⟩ := hrel
    by_cases hlt : m < 8
    · have hc1 := hc (7 - m) (by omega)
      have hfm := hf (7 - m)
      have hst := acc_step f hf m hlt
      have ST : Hid _ := hst
      clear hc hst
      go_wp2_with fail
      go_round
      case rel => exact ⟨m + 1, by omega, by go_num, by rw [ST.out]⟩
      case measure => simp [intOf]; omega
    · obtain rfl : m = 8 := by omega
      have hx := acc_lt f hf
      have hby := acc_byte f hf
      generalize accN f 8 = x at hx hby
      have hnx := np_lt x
      go_wp2_with fail
      go_loop [5, 6] (fun s i => ∃ k : Nat, k ≤ 8 ∧ i = .int .i64 k ∧ s = .int .i64 8 ∧ ∀ j, j < k → badB (byteN x j) = false) (fun _ i => 8 - (intOf i).toNat)
      case atStart => exact ⟨0, by omega, rfl, rfl, fun j hj => by omega⟩
      case round =>
        obtain ⟨k, hk, rfl, rfl, hg⟩ := hrel
        by_cases hkl : k < 8
        · have hck := hc k hkl
          have hbk := hby k hkl
          cases hb : badB (f k) with
          | true =>
            have hbx : badB (byteN x k) = true := by rw [hbk]; exact hb
            have hbit := np_bad x k hx hkl hbx
            have hno : ∀ t, t < 8 * k + 7 → (npN x).testBit t = false := fun t ht => np_below x k t hx hg ht (by omega)
            have HG : Hid _ := hg
            have HB : Hid _ := hbit
            have HN : Hid _ := hno
            clear hg hbit hno hby hbk hbx hf hc
            go_wp2_with (first | (go_at_call 14; refine (plainByte_any (f k) _).mono ?_; rintro e w' ⟨rfl, rfl⟩) | (go_at_call 13; refine (zzNotPlain_any x _ hx).mono ?_; rintro e w' ⟨rfl, rfl⟩))
            go_loop [8] (fun s => ∃ t : Nat, t ≤ 8 * k + 7 ∧ s = .int .i64 t) (fun s => 64 - (intOf s).toNat)
            case atStart => exact ⟨0, by omega, rfl⟩
            case round =>
              obtain ⟨t, ht, rfl⟩ := hrel
              have hbe := bit_eq (npN x) t hnx
              by_cases htl : t < 8 * k + 7
              · rw [HN.out t htl] at hbe
                go_wp2_with fail
                go_round
                case rel => exact ⟨t + 1, by omega, by go_num⟩
                case measure => simp [intOf]; omega
              · obtain rfl : t = 8 * k + 7 := by omega
                rw [HB.out] at hbe
                go_wp2_with fail
                go_ret
                exact ⟨ret_b (by simp), by rw [HS.out]; exact hB⟩
          | false =>
            have HG : Hid _ := hg
            have HK : Hid _ := hbk
            have HB : Hid _ := hb
            clear hg hby hbk hf hc
            go_wp2_with (first | (go_at_call 14; refine (plainByte_any (f k) _).mono ?_; rintro e w' ⟨rfl, rfl⟩))
            go_round
            case rel => exact ⟨k + 1, by omega, by go_num, rfl, fun j hj => by
              by_cases e : j = k
              · subst e; rw [HK.out]; exact HB.out
              · exact HG.out j (by omega)⟩
            case measure => simp [intOf]; omega
        · obtain rfl : k = 8 := by omega
          have hz := np_zero x hx hg
          clear hg hby hf hc
          go_wp2_with (go_at_call 13; refine (zzNotPlain_any x _ hx).mono ?_; rintro e w' ⟨rfl, rfl⟩)
          go_ret
          exact ⟨rfl, by rw [HS.out]; exact hB⟩
end Go.Proofs.Qxb6000997a
