import Derived.Test.Qxb6001235aPartWalk
namespace Go.Proofs.Qxb6001235a
open Go.RowKit Go.Deep

/-- The rows, as the law reads them: the numbers are vertices. -/
theorem EdgesAt.vert {w : World} {R : List (List Int)} {a : Option Addr} {n cap : Nat} (h : EdgesAt w (.slice a n cap) R) (hfit : ∀ v, v < n → (R.getD v []).length ≤ 131072)
    (hrng : ∀ v, v < n → ∀ i, i < (R.getD v []).length → 0 ≤ (R.getD v []).getD i 0 ∧ (R.getD v []).getD i 0 < n) {v : Nat} (hv : v < n) :
    ∃ b off ra rc rl, a = some ⟨b, off, none⟩ ∧ w.cell? ⟨b, off + v, none⟩ = some (.slice ra rl rc) ∧ rl = (adj R v).length ∧ rl ≤ 131072 ∧
      ∀ i, i < rl → ∃ rb roff y, ra = some ⟨rb, roff, none⟩ ∧ w.cell? ⟨rb, roff + i, none⟩ = some (.int .i64 ((y : Nat) : Int)) ∧ (adj R v)[i]? = some y ∧ y < n := by
  obtain ⟨b, off, ra, rc, h1, h2, h3⟩ := h.row.2 v hv
  refine ⟨b, off, ra, rc, _, h1, h2, (adj_len R v).symm, hfit v hv, fun i hi => ?_⟩
  obtain ⟨rb, roff, h4, h5⟩ := h3 (by omega)
  have h6 := hrng v hv i hi
  have h7 := h5 i hi
  have h8 := adj_get hi
  refine ⟨rb, roff, ((R.getD v []).getD i 0).toNat, h4, ?_, h8, by omega⟩
  rw [h7]
  congr 2
  omega

set_option maxHeartbeats 1600000 in
theorem topo_walk (R : List (List Int)) (a : Option Addr) (n cap : Nat) (w : World) (he : EdgesAt w (.slice a n cap) R) (hn : n ≤ 9223372036854775807) (hrl : ∀ u, u < n → (R.getD u []).length ≤ 9223372036854775807) :
    Calls Try.prog 4 #[.slice a n cap] w fun e w' => LawPost w e w' := by
  have hnR := he.row.1
  have HE : Hid (EdgesAt w (.slice a n cap) R) := he
  have HNR : Hid _ := hnR
  obtain ⟨Q, hQ⟩ : ∃ Q : Prop, Q = ∀ u, u < n → (R.getD u []).length ≤ 9223372036854775807 := ⟨_, rfl⟩
  have q : Q := by rw [hQ]; exact hrl
  have HQ : Hid _ := hQ
  clear he hnR hrl hQ
  go_enter Try.func4, Try.ntmps4
  go_wp2_with fail
  refine (bytes15_any R a n cap w HE.out hn (by rw [HQ.out] at q; exact q)).mono ?_
  rintro e w' ⟨b1, rfl, rfl, _⟩
  cases b1 with
  | false =>
    go_wp2_with fail
    go_ret
    exact ⟨rfl, Below.refl _ _⟩
  | true =>
  go_wp2_with fail
  refine (fit_any R a n cap w HE.out hn (by rw [HQ.out] at q; exact q)).mono ?_
  rintro e w' ⟨b2, rfl, rfl, hfit⟩
  cases b2 with
  | false =>
    go_wp2_with fail
    go_ret
    exact ⟨rfl, Below.refl _ _⟩
  | true =>
  have HFIT : Hid _ := hfit rfl
  clear hfit
  by_cases hbig : (65536 : Int) < n
  · go_wp2_with fail
    go_ret
    exact ⟨rfl, Below.refl _ _⟩
  go_wp2_with fail
  refine (range_any R a n cap w HE.out (by omega) HFIT.out).mono ?_
  rintro e w' ⟨b3, rfl, rfl, hrng⟩
  cases b3 with
  | false =>
    go_wp2_with fail
    go_ret
    exact ⟨rfl, Below.refl _ _⟩
  | true =>
  have HRNG : Hid _ := hrng rfl
  clear hrng
  go_wp2_with fail
  refine (clone_any R a n cap w HE.out (by omega) HFIT.out).mono ?_
  rintro e w1 ⟨ev, rfl, hE1, hB1⟩
  obtain ⟨a1, cap1, rfl⟩ := hE1.shape HNR.out
  go_wp2_with fail
  refine (comp_got R n HNR.out _ w1 hE1 (by omega) HFIT.out HRNG.out).mono ?_
  rintro e w2 ⟨comp, sizes, ca, cc, za, zc, rfl, K, hB2⟩
  have hB : Below w.heap.size w w2 := hB1.trans (hB2.mono hB1.size)
  have hV := fun v (hv : v < n) => (hE1.below hB2).vert HFIT.out HRNG.out hv
  have HV : Hid _ := hV
  clear hV HE HFIT HRNG hE1 hB1 hB2 q HQ
  go_wp2_with fail
  go_loopw [6] (fun i wr => ∃ k : Nat, k ≤ n ∧ i = .int .i64 k ∧ Below w2.heap.size w2 wr) (fun i _ => n - (intOf i).toNat)
  case atStart => exact ⟨0, Nat.zero_le _, rfl, Below.refl _ _⟩
  case round =>
    obtain ⟨k, hk, rfl, hW⟩ := hrel
    by_cases hlt : k < n
    · obtain ⟨b, off, ra, rc, rl, rfl, h2, h3, h4, h5⟩ := HV.out k hlt
      have c1 := (hW.cell (World.block_lt_of_cell? w2 _ h2)).trans h2
      have HROW : Hid _ := h5
      clear h2 h3 h5
      go_wp2_with fail
      go_loopw [8] (fun i wr => ∃ j : Nat, j ≤ rl ∧ i = .int .i64 j ∧ Below w2.heap.size w2 wr) (fun i _ => rl - (intOf i).toNat)
      case atStart => exact ⟨0, Nat.zero_le _, rfl, hW⟩
      case round =>
        clear hW c1
        obtain ⟨j, hj, rfl, hW⟩ := hrel
        by_cases hjl : j < rl
        · obtain ⟨rb, roff, y, rfl, h6, h7, h8⟩ := HROW.out j hjl
          have c1 := (hW.cell (World.block_lt_of_cell? w2 _ h6)).trans h6
          obtain ⟨cb, coff, rfl, h9⟩ := K.crow y h8
          have c2 := (hW.cell (World.block_lt_of_cell? w2 _ h9)).trans h9
          obtain ⟨cb', coff', he, h10⟩ := K.crow k hlt
          cases he
          have c3 := (hW.cell (World.block_lt_of_cell? w2 _ h10)).trans h10
          have htop := K.comps.top k y hlt (List.mem_of_getElem? h7)
          generalize comp y = cy at c2 htop
          generalize comp k = ck at c3 htop
          clear h6 h7 h9 h10
          go_wp2_with fail
          go_quiet (fail)
          go_wp2_with fail
          go_roundw
          case rel => exact ⟨j + 1, by omega, by go_num, below_drewN hW _⟩
          case measure => simp [intOf]; omega
        · obtain rfl : rl = j := by omega
          go_wp2_with fail
          go_roundw
          case rel => exact ⟨k + 1, by omega, by go_num, hW⟩
          case measure => simp [intOf]; omega
    · obtain rfl : n = k := by omega
      go_wp2_with fail
      go_ret
      exact ⟨rfl, hB.trans (hW.mono hB.size)⟩
end Go.Proofs.Qxb6001235a
