import Derived.Test.Qxb6001235aReachWalk
namespace Go.Proofs.Qxb6001235a
open Go.RowKit Go.Deep

theorem info30 : (Try.prog.info? 30).map (fun i => (i.zero, i.size, i.bytes)) = some (some (.slice none 0 0), 1, 24) := by kernel_rfl

/-- A row of the matrix. -/
def MRow (R : List (List Int)) (n g : Nat) (w : World) (u : Nat) (x : Value) : Prop := ∃ (gu : Nat) (seen : Nat → Bool), g < gu ∧ x = .slice (some ⟨gu, 0, none⟩) n n ∧ HasRow w gu 4 (cellsF n (fun i => .bool (seen i))) ∧ ∀ y, y < n → (seen y = true ↔ Reach (adj R) u y)

theorem MRow.below {R : List (List Int)} {n g : Nat} {w w' : World} {u : Nat} {x : Value} (h : MRow R n g w u x) (hb : Below w.heap.size w w') : MRow R n g w' u x := by
  obtain ⟨gu, seen, h1, h2, h3, h4⟩ := h
  exact ⟨gu, seen, h1, h2, h3.below hb h3.lt, h4⟩
theorem MRow.store {R : List (List Int)} {n g : Nat} {w : World} {u : Nat} {x : Value} (h : MRow R n g w u x) (j : Nat) (z : Value) : MRow R n g (w.setCell ⟨g, j, none⟩ z) u x := by
  obtain ⟨gu, seen, h1, h2, h3, h4⟩ := h
  exact ⟨gu, seen, h1, h2, h3.other (by simp only []; omega) _, h4⟩

structure RMat (R : List (List Int)) (n g : Nat) (w wr : World) (k : Nat) (F : Nat → Value) : Prop where
  row : HasRow wr g 30 (cellsF n F)
  bel : Below g w wr
  done : ∀ u, u < k → MRow R n g wr u (F u)
  rest : ∀ u, k ≤ u → F u = .slice none 0 0

theorem RMat.step {R : List (List Int)} {n g : Nat} {w wr wx : World} {k : Nat} {F : Nat → Value} {gu : Nat} {seen : Nat → Bool} (h : RMat R n g w wr k F) (hb : Below wr.heap.size wr wx) (hg : wr.heap.size ≤ gu) (hr : HasRow wx gu 4 (cellsF n (fun i => .bool (seen i)))) (hs : ∀ y, y < n → (seen y = true ↔ Reach (adj R) k y)) :
    RMat R n g w (wx.setCell ⟨g, k, none⟩ (.slice (some ⟨gu, 0, none⟩) n n)) (k + 1) (upd F k (.slice (some ⟨gu, 0, none⟩) n n)) := by
  have hgl := h.row.lt
  refine ⟨?_, (h.bel.trans (hb.mono (by omega))).setCell (Nat.le_refl _) _, fun u hu => ?_, fun u hu => ?_⟩
  · rw [← cellsF_set]
    exact (h.row.below hb hgl).set k _
  · by_cases e : u = k
    · subst e
      rw [upd_same]
      exact ⟨gu, seen, by omega, rfl, hr.other (by simp only []; omega) _, hs⟩
    · rw [upd_other _ _ e]
      exact ((h.done u (by omega)).below hb).store k _
  · rw [upd_other _ _ (by omega)]
    exact h.rest u (by omega)

def MatPost (R : List (List Int)) (n : Nat) (w : World) (e : Ending) (w' : World) : Prop := ∃ (g : Nat) (F : Nat → Value), e = .returned (.slice (some ⟨g, 0, none⟩) n n) ∧ RMat R n g w w' n F ∧ w.heap.size = g

set_option maxHeartbeats 800000 in
theorem matrix_any (R : List (List Int)) (a : Option Addr) (n cap : Nat) (w : World) (hV : VertAt R n w a) (hn : n ≤ 65536) :
    Calls Try.prog 17 #[.slice a n cap] w fun e w' => MatPost R n w e w' := by
  have hmk := fun w => run_make_row' (P := Try.prog) 28 30 (.slice none 0 0) 24 Try.underlying28 info30 rfl .i64 .i64 n (by omega) (by omega) w
  have hM0 : RMat R n w.heap.size w (w.alloc (.cells (madeCells #[.slice none 0 0] n) 30)) 0 (fun _ => .slice none 0 0) :=
    ⟨by rw [made_eq]; exact HasRow.new _ _ _, (Below.refl _ w).alloc (Nat.le_refl _) _, fun v hv => by omega, fun _ _ => rfl⟩
  go_enter Try.func17, Try.ntmps17
  go_wp2_with fail
  generalize w.alloc (.cells (madeCells #[.slice none 0 0] n) 30) = w1 at *
  generalize hG : w.heap.size = g at *
  have HG : Hid _ := hG
  clear hG hmk
  go_loopw [5] (fun i wr => ∃ (k : Nat) (F : Nat → Value), k ≤ n ∧ i = .int .i64 k ∧ RMat R n g w wr k F) (fun i _ => n - (intOf i).toNat)
  case atStart => exact ⟨0, _, Nat.zero_le _, rfl, hM0⟩
  case round =>
    clear hM0
    obtain ⟨k, F, hk, rfl, M⟩ := hrel
    by_cases hlt : k < n
    · have hVr : VertAt R n wr a := hV.below (by rw [HG.out]; exact M.bel)
      have hgl := M.row.lt
      have hF := M.rest k (Nat.le_refl _)
      have HF : Hid _ := hF
      clear hF
      go_wp2_with (go_at_call 27; refine (reachFrom_any R a n cap k wr hVr hlt hn).mono ?_; rintro e w2 ⟨seen, gu, rfl, hge, hrow, hreach, hb⟩; have cg := (M.row.below hb hgl).cell k; rw [cellsF_get _ _ _ hlt, HF.out] at cg; have fg := (M.row.below hb hgl).frozen k)
      go_roundw
      case rel => exact ⟨k + 1, _, by omega, by go_num, M.step hb hge hrow hreach⟩
      case measure => simp [intOf]; omega
    · obtain rfl : n = k := by omega
      go_wp2_with fail
      go_ret
      exact ⟨g, F, rfl, M, HG.out⟩

set_option maxHeartbeats 1600000 in
theorem mutual_walk (R : List (List Int)) (a : Option Addr) (n cap : Nat) (w : World) (he : EdgesAt w (.slice a n cap) R) (hn : n ≤ 9223372036854775807) (hrl : ∀ u, u < n → (R.getD u []).length ≤ 9223372036854775807) :
    Calls Try.prog 5 #[.slice a n cap] w fun e w' => LawPost w e w' := by
  have hnR := he.row.1
  have HE : Hid (EdgesAt w (.slice a n cap) R) := he
  have HNR : Hid _ := hnR
  obtain ⟨Q, hQ⟩ : ∃ Q : Prop, Q = ∀ u, u < n → (R.getD u []).length ≤ 9223372036854775807 := ⟨_, rfl⟩
  have q : Q := by rw [hQ]; exact hrl
  have HQ : Hid _ := hQ
  clear he hnR hrl hQ
  go_enter Try.func5, Try.ntmps5
  go_wp2_with fail
  refine (bytes16_any R a n cap w HE.out hn (by rw [HQ.out] at q; exact q)).mono ?_
  rintro e w' ⟨b1, rfl, rfl, _⟩
  cases b1 with
  | false =>
    go_wp2_with fail
    go_ret
    exact ⟨rfl, Below.refl _ _⟩
  | true =>
  go_wp2_with fail
  refine (fit_any R a n cap w HE.out hn (by rw [HQ.out] at q; exact q)).mono ?_
  rintro e w' ⟨b2, rfl, rfl, hfit⟩
  cases b2 with
  | false =>
    go_wp2_with fail
    go_ret
    exact ⟨rfl, Below.refl _ _⟩
  | true =>
  have HFIT : Hid _ := hfit rfl
  clear hfit
  by_cases hbig : (256 : Int) < n
  · go_wp2_with fail
    go_ret
    exact ⟨rfl, Below.refl _ _⟩
  go_wp2_with fail
  refine (range_any R a n cap w HE.out (by omega) HFIT.out).mono ?_
  rintro e w' ⟨b3, rfl, rfl, hrng⟩
  cases b3 with
  | false =>
    go_wp2_with fail
    go_ret
    exact ⟨rfl, Below.refl _ _⟩
  | true =>
  have HRNG : Hid _ := hrng rfl
  clear hrng
  go_wp2_with fail
  refine (clone_any R a n cap w HE.out (by omega) HFIT.out).mono ?_
  rintro e w1 ⟨ev, rfl, hE1, hB1⟩
  obtain ⟨a1, cap1, rfl⟩ := hE1.shape HNR.out
  go_wp2_with fail
  refine (comp_got R n HNR.out _ w1 hE1 (by omega) HFIT.out HRNG.out).mono ?_
  rintro e w2 ⟨comp, sizes, ca, cc, za, zc, rfl, K, hB2⟩
  have hB : Below w.heap.size w w2 := hB1.trans (hB2.mono hB1.size)
  have hV : VertAt R n w2 a1 := fun v hv => (hE1.below hB2).vert HFIT.out HRNG.out hv
  have hE := hV.adj_lt
  have HAE : Hid _ := hE
  clear HE HFIT HRNG hE1 hB1 hB2 q HQ hE
  go_wp2_with fail
  refine (matrix_any R a1 n cap1 w2 hV (by omega)).mono ?_
  rintro e w3 ⟨g, F, rfl, M, hg⟩
  have hB3 : Below w2.heap.size w2 w3 := by rw [hg]; exact M.bel
  have K3 := K.below hB3
  have HG : Hid _ := hg
  clear K hg
  go_wp2_with fail
  go_loopw [7] (fun i wr => ∃ k : Nat, k ≤ n ∧ i = .int .i64 k ∧ Below w3.heap.size w3 wr) (fun i _ => n - (intOf i).toNat)
  case atStart => exact ⟨0, Nat.zero_le _, rfl, Below.refl _ _⟩
  case round =>
    obtain ⟨u, hu, rfl, hW⟩ := hrel
    by_cases hlt : u < n
    · go_wp2_with fail
      go_loopw [8] (fun i wr => ∃ j : Nat, j ≤ n ∧ i = .int .i64 j ∧ Below w3.heap.size w3 wr) (fun i _ => n - (intOf i).toNat)
      case atStart => exact ⟨0, Nat.zero_le _, rfl, hW⟩
      case round =>
        clear hW
        obtain ⟨v, hv, rfl, hW⟩ := hrel
        by_cases hvl : v < n
        · obtain ⟨cb, coff, rfl, h9⟩ := K3.crow u hlt
          have c1 := (hW.cell (World.block_lt_of_cell? w3 _ h9)).trans h9
          obtain ⟨cb', coff', he, h10⟩ := K3.crow v hvl
          cases he
          have c2 := (hW.cell (World.block_lt_of_cell? w3 _ h10)).trans h10
          have hsame := K3.comps.same_iff HAE.out hlt hvl
          obtain ⟨gu, su, hgu, hFu, hru, hsu⟩ := M.done u hlt
          obtain ⟨gv, sv, hgv, hFv, hrv, hsv⟩ := M.done v hvl
          have d1 := (M.row.below hW M.row.lt).cell u
          rw [cellsF_get _ _ _ hlt, hFu] at d1
          have d2 := (M.row.below hW M.row.lt).cell v
          rw [cellsF_get _ _ _ hvl, hFv] at d2
          have d3 := (hru.below hW hru.lt).cell v
          rw [cellsF_get _ _ _ hvl] at d3
          have d4 := (hrv.below hW hrv.lt).cell u
          rw [cellsF_get _ _ _ hlt] at d4
          have hs1 := hsu v hvl
          have hs2 := hsv u hlt
          have key : (comp u == comp v) = (su v && sv u) := by
            rw [Bool.eq_iff_iff, beq_iff_eq, Bool.and_eq_true, hs1, hs2]
            exact hsame
          clear h9 h10 hsame hs1 hs2 hsu hsv hFu hFv hru hrv
          generalize comp u = cu at *
          generalize comp v = cv at *
          go_wp2_with fail
          go_quiet (fail)
          cases hb1 : su v
          all_goals cases hb2 : sv u
          all_goals
            rw [hb1] at d3 key
            rw [hb2] at d4 key
            simp only [Bool.and_true, Bool.and_false] at key
            clear hb1 hb2
            go_wp2_with fail
            go_roundw
            case rel => exact ⟨v + 1, by omega, by go_num, below_drewN hW _⟩
            case measure => simp [intOf]; omega
        · obtain rfl : n = v := by omega
          go_wp2_with fail
          go_roundw
          case rel => exact ⟨u + 1, by omega, by go_num, hW⟩
          case measure => simp [intOf]; omega
    · obtain rfl : n = u := by omega
      go_wp2_with fail
      go_ret
      exact ⟨rfl, hB.trans ((hB3.trans (hW.mono hB3.size)).mono hB.size)⟩
end Go.Proofs.Qxb6001235a
