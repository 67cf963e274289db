import Derived.Test.Qxb6001235aComp
namespace Go.Proofs.Qxb6001235a
open Go.RowKit Go.Deep

/-- The outer cells, as a walk reads them. -/
theorem EdgesAt.row {w : World} {R : List (List Int)} {a : Option Addr} {n cap : Nat} (h : EdgesAt w (.slice a n cap) R) : n = R.length ∧ ∀ v, v < n → ∃ b off ra rc, a = some ⟨b, off, none⟩ ∧ w.cell? ⟨b, off + v, none⟩ = some (.slice ra (R.getD v []).length rc) ∧
    (0 < (R.getD v []).length → ∃ rb roff, ra = some ⟨rb, roff, none⟩ ∧ ∀ i, i < (R.getD v []).length → w.cell? ⟨rb, roff + i, none⟩ = some (.int .i64 ((R.getD v []).getD i 0))) := by
  obtain ⟨a', cap', hv, hc⟩ := h
  cases hv
  refine ⟨rfl, fun v hv => ?_⟩
  obtain ⟨b, off, rfl, hcell⟩ := hc (by omega)
  obtain ⟨u, hu, ra, rc, rfl, hr⟩ := hcell v hv
  exact ⟨b, off, ra, rc, rfl, hu, hr⟩

/-- It answers a bool, the world stands; where the answer is true, P. -/
def BoolPost (w : World) (P : Prop) (e : Ending) (w' : World) : Prop := ∃ b : Bool, e = .returned (.bool b) ∧ w = w' ∧ (b = true → P)
theorem BoolPost.no {w : World} {P : Prop} : BoolPost w P (.returned (.bool false)) w := ⟨false, rfl, rfl, fun h => by cases h⟩
theorem BoolPost.yes {w : World} {P : Prop} (h : P) : BoolPost w P (.returned (.bool true)) w := ⟨true, rfl, rfl, fun _ => h⟩

set_option maxHeartbeats 400000 in
theorem fit_any (R : List (List Int)) (a : Option Addr) (n cap : Nat) (w : World) (he : EdgesAt w (.slice a n cap) R) (hn : n ≤ 9223372036854775807) (hrl : ∀ v, v < n → (R.getD v []).length ≤ 9223372036854775807) :
    Calls Try.prog 11 #[.slice a n cap] w fun e w' => BoolPost w (∀ v, v < n → (R.getD v []).length ≤ 131072) e w' := by
  have hrow := he.row.2
  have HR : Hid _ := hrow
  have HL : Hid _ := hrl
  clear hrow hrl he
  by_cases h1 : n ≤ 131072
  · go_enter Try.func11, Try.ntmps11
    go_wp2
    go_loop [3, 4] (fun t i => ∃ (k : Nat) (T : Int), k ≤ n ∧ i = .int .i64 k ∧ t = .int .i64 T ∧ 0 ≤ T ∧ T ≤ 1048576 ∧ ∀ v, v < k → (R.getD v []).length ≤ 131072) (fun _ i => n - (intOf i).toNat)
    case atStart => exact ⟨0, _, Nat.zero_le _, rfl, rfl, by omega, by omega, fun v hv => by omega⟩
    case round =>
      obtain ⟨k, T, hk, rfl, rfl, hT0, hT1, hall⟩ := hrel
      have HA : Hid _ := hall
      clear hall
      by_cases hlt : k < n
      · obtain ⟨b, off, ra, rc, rfl, hcell, _⟩ := HR.out k hlt
        have hl := HL.out k hlt
        obtain ⟨rl, hrl⟩ : ∃ rl, rl = (R.getD k []).length := ⟨_, rfl⟩
        rw [← hrl] at hcell hl
        have HRL : Hid _ := hrl
        clear hrl
        go_wp2
        · go_ret
          exact BoolPost.no
        · go_ret
          exact BoolPost.no
        · have hle : rl ≤ 131072 := by omega
          go_round
          case rel => exact ⟨k + 1, _, by omega, by go_num, rfl, by omega, by omega, fun v hv => by
            by_cases e : v = k
            · subst e; rw [← HRL.out]; exact hle
            · exact HA.out v (by omega)⟩
          case measure => simp [intOf]; omega
      · obtain rfl : n = k := by omega
        go_wp2
        go_ret
        exact BoolPost.yes HA.out
  · go_enter Try.func11, Try.ntmps11
    go_wp2
    go_ret
    exact BoolPost.no

set_option maxHeartbeats 400000 in
theorem bytes10_any (R : List (List Int)) (a : Option Addr) (n cap : Nat) (w : World) (he : EdgesAt w (.slice a n cap) R) (hn : n ≤ 9223372036854775807) (hrl : ∀ v, v < n → (R.getD v []).length ≤ 9223372036854775807) :
    Calls Try.prog 10 #[.slice a n cap] w fun e w' => BoolPost w True e w' := by
  have hrow := he.row.2
  have HR : Hid _ := hrow
  have HL : Hid _ := hrl
  clear hrow hrl he
  by_cases h1 : n ≤ 1048576
  · go_enter Try.func10, Try.ntmps10
    go_wp2
    go_loop [3, 4] (fun t i => ∃ (k : Nat) (T : Int), k ≤ n ∧ i = .int .i64 k ∧ t = .int .i64 T ∧ 0 ≤ T ∧ T ≤ 1048576) (fun _ i => n - (intOf i).toNat)
    case atStart => exact ⟨0, _, Nat.zero_le _, rfl, rfl, by omega, by omega⟩
    case round =>
      obtain ⟨k, T, hk, rfl, rfl, hT0, hT1⟩ := hrel
      by_cases hlt : k < n
      · obtain ⟨b, off, ra, rc, rfl, hcell, _⟩ := HR.out k hlt
        have hl := HL.out k hlt
        generalize (R.getD k []).length = rl at hcell hl
        go_wp2
        · go_ret
          exact BoolPost.no
        · go_ret
          exact BoolPost.no
        · go_round
          case rel => exact ⟨k + 1, _, by omega, by go_num, rfl, by omega, by omega⟩
          case measure => simp [intOf]; omega
      · obtain rfl : n = k := by omega
        go_wp2
        go_ret
        exact BoolPost.yes trivial
  · go_enter Try.func10, Try.ntmps10
    go_wp2
    go_ret
    exact BoolPost.no

set_option maxHeartbeats 400000 in
theorem bytes15_any (R : List (List Int)) (a : Option Addr) (n cap : Nat) (w : World) (he : EdgesAt w (.slice a n cap) R) (hn : n ≤ 9223372036854775807) (hrl : ∀ v, v < n → (R.getD v []).length ≤ 9223372036854775807) :
    Calls Try.prog 15 #[.slice a n cap] w fun e w' => BoolPost w True e w' := by
  have hrow := he.row.2
  have HR : Hid _ := hrow
  have HL : Hid _ := hrl
  clear hrow hrl he
  by_cases h1 : n ≤ 1048576
  · go_enter Try.func15, Try.ntmps15
    go_wp2
    go_loop [3, 4] (fun t i => ∃ (k : Nat) (T : Int), k ≤ n ∧ i = .int .i64 k ∧ t = .int .i64 T ∧ 0 ≤ T ∧ T ≤ 1048576) (fun _ i => n - (intOf i).toNat)
    case atStart => exact ⟨0, _, Nat.zero_le _, rfl, rfl, by omega, by omega⟩
    case round =>
      obtain ⟨k, T, hk, rfl, rfl, hT0, hT1⟩ := hrel
      by_cases hlt : k < n
      · obtain ⟨b, off, ra, rc, rfl, hcell, _⟩ := HR.out k hlt
        have hl := HL.out k hlt
        generalize (R.getD k []).length = rl at hcell hl
        go_wp2
        · go_ret
          exact BoolPost.no
        · go_ret
          exact BoolPost.no
        · go_round
          case rel => exact ⟨k + 1, _, by omega, by go_num, rfl, by omega, by omega⟩
          case measure => simp [intOf]; omega
      · obtain rfl : n = k := by omega
        go_wp2
        go_ret
        exact BoolPost.yes trivial
  · go_enter Try.func15, Try.ntmps15
    go_wp2
    go_ret
    exact BoolPost.no

set_option maxHeartbeats 400000 in
theorem bytes16_any (R : List (List Int)) (a : Option Addr) (n cap : Nat) (w : World) (he : EdgesAt w (.slice a n cap) R) (hn : n ≤ 9223372036854775807) (hrl : ∀ v, v < n → (R.getD v []).length ≤ 9223372036854775807) :
    Calls Try.prog 16 #[.slice a n cap] w fun e w' => BoolPost w True e w' := by
  have hrow := he.row.2
  have HR : Hid _ := hrow
  have HL : Hid _ := hrl
  clear hrow hrl he
  by_cases h1 : n ≤ 1048576
  · go_enter Try.func16, Try.ntmps16
    go_wp2
    go_loop [3, 4] (fun t i => ∃ (k : Nat) (T : Int), k ≤ n ∧ i = .int .i64 k ∧ t = .int .i64 T ∧ 0 ≤ T ∧ T ≤ 1048576) (fun _ i => n - (intOf i).toNat)
    case atStart => exact ⟨0, _, Nat.zero_le _, rfl, rfl, by omega, by omega⟩
    case round =>
      obtain ⟨k, T, hk, rfl, rfl, hT0, hT1⟩ := hrel
      by_cases hlt : k < n
      · obtain ⟨b, off, ra, rc, rfl, hcell, _⟩ := HR.out k hlt
        have hl := HL.out k hlt
        generalize (R.getD k []).length = rl at hcell hl
        go_wp2
        · go_ret
          exact BoolPost.no
        · go_ret
          exact BoolPost.no
        · go_round
          case rel => exact ⟨k + 1, _, by omega, by go_num, rfl, by omega, by omega⟩
          case measure => simp [intOf]; omega
      · obtain rfl : n = k := by omega
        go_wp2
        go_ret
        exact BoolPost.yes trivial
  · go_enter Try.func16, Try.ntmps16
    go_wp2
    go_ret
    exact BoolPost.no

set_option maxHeartbeats 400000 in
theorem bytes18_any (R : List (List Int)) (a : Option Addr) (n cap : Nat) (st : Int) (w : World) (he : EdgesAt w (.slice a n cap) R) (hn : n ≤ 9223372036854775807) (hrl : ∀ v, v < n → (R.getD v []).length ≤ 9223372036854775807) :
    Calls Try.prog 18 #[.slice a n cap, .int .i64 st] w fun e w' => BoolPost w True e w' := by
  have hrow := he.row.2
  have HR : Hid _ := hrow
  have HL : Hid _ := hrl
  clear hrow hrl he
  by_cases h1 : n ≤ 1048576
  · go_enter Try.func18, Try.ntmps18
    go_wp2
    go_loop [5, 6] (fun t i => ∃ (k : Nat) (T : Int), k ≤ n ∧ i = .int .i64 k ∧ t = .int .i64 T ∧ 0 ≤ T ∧ T ≤ 1048576) (fun _ i => n - (intOf i).toNat)
    case atStart => exact ⟨0, _, Nat.zero_le _, rfl, rfl, by omega, by omega⟩
    case round =>
      obtain ⟨k, T, hk, rfl, rfl, hT0, hT1⟩ := hrel
      by_cases hlt : k < n
      · obtain ⟨b, off, ra, rc, rfl, hcell, _⟩ := HR.out k hlt
        have hl := HL.out k hlt
        generalize (R.getD k []).length = rl at hcell hl
        go_wp2
        · go_ret
          exact BoolPost.no
        · go_ret
          exact BoolPost.no
        · go_round
          case rel => exact ⟨k + 1, _, by omega, by go_num, rfl, by omega, by omega⟩
          case measure => simp [intOf]; omega
      · obtain rfl : n = k := by omega
        go_wp2
        go_ret
        exact BoolPost.yes trivial
  · go_enter Try.func18, Try.ntmps18
    go_wp2
    go_ret
    exact BoolPost.no

set_option maxHeartbeats 400000 in
theorem range_any (R : List (List Int)) (a : Option Addr) (n cap : Nat) (w : World) (he : EdgesAt w (.slice a n cap) R) (hn : n ≤ 131072) (hrl : ∀ v, v < n → (R.getD v []).length ≤ 131072) :
    Calls Try.prog 12 #[.slice a n cap] w fun e w' => BoolPost w (∀ v, v < n → ∀ i, i < (R.getD v []).length → 0 ≤ (R.getD v []).getD i 0 ∧ (R.getD v []).getD i 0 < n) e w' := by
  have hrow := he.row.2
  have HR : Hid _ := hrow
  have HL : Hid _ := hrl
  clear hrow hrl he
  go_enter Try.func12, Try.ntmps12
  go_wp2
  go_loop [4] (fun i => ∃ (k : Nat), k ≤ n ∧ i = .int .i64 k ∧ ∀ v, v < k → ∀ i, i < (R.getD v []).length → 0 ≤ (R.getD v []).getD i 0 ∧ (R.getD v []).getD i 0 < n) (fun i => n - (intOf i).toNat)
  case atStart => exact ⟨0, Nat.zero_le _, rfl, fun v hv => by omega⟩
  case round =>
    obtain ⟨k, hk, rfl, hall⟩ := hrel
    have HA : Hid _ := hall
    clear hall
    by_cases hlt : k < n
    · obtain ⟨b, off, ra, rc, rfl, hcell, hrow⟩ := HR.out k hlt
      have hl := HL.out k hlt
      obtain ⟨row, hrd⟩ : ∃ row, row = R.getD k [] := ⟨_, rfl⟩
      rw [← hrd] at hcell hl hrow
      have HRD : Hid _ := hrd
      have HROW : Hid _ := hrow
      clear hrd hrow
      go_wp2_with fail
      go_loop [6] (fun i => ∃ (j : Nat), j ≤ row.length ∧ i = .int .i64 j ∧ ∀ i, i < j → 0 ≤ row.getD i 0 ∧ row.getD i 0 < n) (fun i => row.length - (intOf i).toNat)
      case atStart => exact ⟨0, Nat.zero_le _, rfl, fun v hv => by omega⟩
      case round =>
        obtain ⟨j, hj, rfl, hrow⟩ := hrel
        have HB : Hid _ := hrow
        clear hrow
        by_cases hjl : j < row.length
        · obtain ⟨rb, roff, rfl, hrc⟩ := HROW.out (by omega)
          have hcj := hrc j hjl
          obtain ⟨x, hx⟩ : ∃ x, x = row.getD j 0 := ⟨_, rfl⟩
          rw [← hx] at hcj
          have HX : Hid _ := hx
          clear hx hrc
          by_cases h1 : x < 0
          · go_wp2_with fail
            go_ret
            exact BoolPost.no
          · by_cases h2 : (n : Int) ≤ x
            · go_wp2_with fail
              go_ret
              exact BoolPost.no
            · go_wp2_with fail
              go_round
              case rel => exact ⟨j + 1, by omega, by go_num, fun i hi => by
                by_cases e : i = j
                · subst e; rw [← HX.out]; omega
                · exact HB.out i (by omega)⟩
              case measure => simp [intOf]; omega
        · obtain rfl : row.length = j := by omega
          go_wp2_with fail
          go_round
          case rel => exact ⟨k + 1, by omega, by go_num, fun v hv => by
            by_cases e : v = k
            · subst e; rw [← HRD.out]; exact HB.out
            · exact HA.out v (by omega)⟩
          case measure => simp [intOf]; omega
    · obtain rfl : n = k := by omega
      go_wp2
      go_ret
      exact BoolPost.yes HA.out
end Go.Proofs.Qxb6001235a
