import Derived.Test.Qxb6001235aOpen
namespace Go.Proofs.Qxb6001235a
open Go.RowKit Go.Deep

theorem rows_of {R : List (List Int)} {n : Nat} (hn : n = R.length) (h : ∀ v, v < n → (R.getD v []).length ≤ 131072) : ∀ v, (R.getD v []).length ≤ 131072 := by
  intro v
  by_cases hv : v < n
  · exact h v hv
  · have : R.getD v [] = [] := by
      rw [List.getD_eq_getElem?_getD, List.getElem?_eq_none (by omega)]; rfl
    rw [this]; simp

theorem rng_of {R : List (List Int)} {n : Nat} (hn : n = R.length) (h : ∀ v, v < n → ∀ i, i < (R.getD v []).length → 0 ≤ (R.getD v []).getD i 0 ∧ (R.getD v []).getD i 0 < n) : ∀ v x, x ∈ R.getD v [] → 0 ≤ x ∧ x < R.length := by
  intro v x hx
  by_cases hv : v < n
  · obtain ⟨i, hi, rfl⟩ := List.mem_iff_getElem.1 hx
    have := h v hv i hi
    rw [List.getD_eq_getElem?_getD (l := R.getD v []), List.getElem?_eq_getElem hi] at this
    simp only [Option.getD_some] at this
    omega
  · have : R.getD v [] = [] := by
      rw [List.getD_eq_getElem?_getD, List.getElem?_eq_none (by omega)]; rfl
    rw [this] at hx; simp at hx

/-- What the components' call leaves, as a law reads it. -/
structure Got (R : List (List Int)) (n : Nat) (comp : Nat → Int) (sizes : List Int) (w : World) (ca za : Option Addr) : Prop where
  comps : Comps n (adj R) comp sizes
  crow : ∀ v, v < n → ∃ b off, ca = some ⟨b, off, none⟩ ∧ w.cell? ⟨b, off + v, none⟩ = some (.int .i64 (comp v))
  zrow : ∀ c, c < sizes.length → ∃ b off, za = some ⟨b, off, none⟩ ∧ w.cell? ⟨b, off + c, none⟩ = some (.int .i64 (sizes.getD c 0))

def CompPost (R : List (List Int)) (n : Nat) (w : World) (e : Ending) (w' : World) : Prop := ∃ comp sizes ca cc za zc, e = .returned (.tuple #[.slice ca n cc, .slice za sizes.length zc]) ∧ Got R n comp sizes w' ca za ∧ Below w.heap.size w w'

theorem comp_got (R : List (List Int)) (n : Nat) (hn : n = R.length) (ev : Value) (w : World) (he : EdgesAt w ev R) (small : n ≤ 65536) (hfit : ∀ v, v < n → (R.getD v []).length ≤ 131072)
    (hrng : ∀ v, v < n → ∀ i, i < (R.getD v []).length → 0 ≤ (R.getD v []).getD i 0 ∧ (R.getD v []).getD i 0 < n) :
    Calls Try.prog 14 #[ev] w fun e w' => CompPost R n w e w' := by
  refine (zzComp_any R ev w he (by omega) (rows_of hn hfit) (rng_of hn hrng)).mono ?_
  subst hn
  rintro e w' ⟨comp, sizes, cv, zv, rfl, hc, ⟨ca, cc, rfl, h1⟩, ⟨za, zc, rfl, h2⟩, hb⟩
  have e1 : ((List.range R.length).map comp).length = R.length := by simp
  rw [e1] at h1 ⊢
  refine ⟨comp, sizes, ca, cc, za, zc, rfl, ⟨hc, fun v hv => ?_, fun c hcl => ?_⟩, hb⟩
  · obtain ⟨b, off, rfl, hcell⟩ := h1 (by omega)
    refine ⟨b, off, rfl, ?_⟩
    rw [hcell v hv]
    simp [List.getD_eq_getElem?_getD, hv]
  · obtain ⟨b, off, rfl, hcell⟩ := h2 (by omega)
    exact ⟨b, off, rfl, hcell c hcl⟩

theorem Got.below {R : List (List Int)} {n : Nat} {comp : Nat → Int} {sizes : List Int} {w w' : World} {ca za : Option Addr} (h : Got R n comp sizes w ca za) (hb : Below w.heap.size w w') : Got R n comp sizes w' ca za := by
  refine ⟨h.comps, fun v hv => ?_, fun c hc => ?_⟩
  · obtain ⟨b, off, h1, h2⟩ := h.crow v hv
    exact ⟨b, off, h1, (hb.cell (World.block_lt_of_cell? w _ h2)).trans h2⟩
  · obtain ⟨b, off, h1, h2⟩ := h.zrow c hc
    exact ⟨b, off, h1, (hb.cell (World.block_lt_of_cell? w _ h2)).trans h2⟩

theorem EdgesAt.shape {w : World} {v : Value} {R : List (List Int)} {n : Nat} (h : EdgesAt w v R) (hn : n = R.length) : ∃ a cap, v = .slice a n cap := by
  obtain ⟨a, cap, hv, _⟩ := h
  exact ⟨a, cap, by rw [hv, hn]⟩

/-- The law's end: true; nothing old has turned. -/
def LawPost (w : World) (e : Ending) (w' : World) : Prop := e = .returned (.bool true) ∧ Below w.heap.size w w'

/-- 'count[c]++' -/
theorem count_next {comp : Nat → Int} {k c : Nat} (hc : comp k = (c : Int)) :
    upd (fun i => Value.int .i64 ((cnt (fun x => comp x == (i : Int)) k : Nat) : Int)) c (.int .i64 ((cnt (fun x => comp x == (c : Int)) k : Nat) + 1)) = fun i => .int .i64 ((cnt (fun x => comp x == (i : Int)) (k + 1) : Nat) : Int) := by
  funext i
  by_cases e : i = c
  · subst e
    rw [upd_same, cnt, hc]
    simp
  · rw [upd_other _ _ e, cnt, hc]
    have : ((c : Int) == (i : Int)) = false := by simp; omega
    rw [this]
    simp

set_option maxHeartbeats 1600000 in
theorem part_walk (R : List (List Int)) (a : Option Addr) (n cap : Nat) (w : World) (he : EdgesAt w (.slice a n cap) R) (hn : n ≤ 9223372036854775807) (hrl : ∀ u, u < n → (R.getD u []).length ≤ 9223372036854775807) :
    Calls Try.prog 3 #[.slice a n cap] w fun e w' => LawPost w e w' := by
  have hnR := he.row.1
  have HE : Hid (EdgesAt w (.slice a n cap) R) := he
  have HNR : Hid _ := hnR
  obtain ⟨Q, hQ⟩ : ∃ Q : Prop, Q = ∀ u, u < n → (R.getD u []).length ≤ 9223372036854775807 := ⟨_, rfl⟩
  have q : Q := by rw [hQ]; exact hrl
  have HQ : Hid _ := hQ
  clear he hnR hrl hQ
  go_enter Try.func3, Try.ntmps3
  go_wp2_with fail
  refine (bytes10_any R a n cap w HE.out hn (by rw [HQ.out] at q; exact q)).mono ?_
  rintro e w' ⟨b1, rfl, rfl, _⟩
  cases b1 with
  | false =>
    go_wp2_with fail
    go_ret
    exact ⟨rfl, Below.refl _ _⟩
  | true =>
  go_wp2_with fail
  refine (fit_any R a n cap w HE.out hn (by rw [HQ.out] at q; exact q)).mono ?_
  rintro e w' ⟨b2, rfl, rfl, hfit⟩
  cases b2 with
  | false =>
    go_wp2_with fail
    go_ret
    exact ⟨rfl, Below.refl _ _⟩
  | true =>
  have HFIT : Hid _ := hfit rfl
  clear hfit
  by_cases hbig : (65536 : Int) < n
  · go_wp2_with fail
    go_ret
    exact ⟨rfl, Below.refl _ _⟩
  go_wp2_with fail
  refine (range_any R a n cap w HE.out (by omega) HFIT.out).mono ?_
  rintro e w' ⟨b3, rfl, rfl, hrng⟩
  cases b3 with
  | false =>
    go_wp2_with fail
    go_ret
    exact ⟨rfl, Below.refl _ _⟩
  | true =>
  have HRNG : Hid _ := hrng rfl
  clear hrng
  go_wp2_with fail
  refine (clone_any R a n cap w HE.out (by omega) HFIT.out).mono ?_
  rintro e w1 ⟨ev, rfl, hE1, hB1⟩
  obtain ⟨a1, cap1, rfl⟩ := hE1.shape HNR.out
  go_wp2_with fail
  refine (comp_got R n HNR.out _ w1 hE1 (by omega) HFIT.out HRNG.out).mono ?_
  rintro e w2 ⟨comp, sizes, ca, cc, za, zc, rfl, K, hB2⟩
  have hcap := K.comps.cap
  have hB : Below w.heap.size w w2 := hB1.trans (hB2.mono hB1.size)
  obtain ⟨m, hm⟩ : ∃ m, m = sizes.length := ⟨_, rfl⟩
  rw [← hm] at hcap ⊢
  have HM : Hid _ := hm
  clear hm HE HFIT HRNG hE1 hB1 hB2 q HQ
  have hmk := fun w => run_make_row' (P := Try.prog) 25 3 (.int .i64 0) 8 Try.underlying25 info3 rfl .i64 .i64 m (by omega) (by omega) w
  have hnm : decide (n < m) = false := by simp; omega
  have hI0 : Hid (Below w2.heap.size w2 (w2.alloc (.cells (madeCells #[.int .i64 0] m) 3)) ∧ HasRow (w2.alloc (.cells (madeCells #[.int .i64 0] m) 3)) w2.heap.size 3 (cellsF m (fun i => .int .i64 ((cnt (fun x => comp x == (i : Int)) 0 : Nat) : Int)))) :=
    ⟨(Below.refl _ w2).alloc (Nat.le_refl _) _, by rw [made_eq]; exact HasRow.new _ _ _⟩
  go_wp2_with fail
  have hI := hI0.out
  clear hI0 hmk
  generalize w2.alloc (.cells (madeCells #[.int .i64 0] m) 3) = w3 at *
  generalize hg : w2.heap.size = g at *
  have HG : Hid _ := hg
  clear hg
  go_loopw [7] (fun i wr => ∃ k : Nat, k ≤ n ∧ i = .int .i64 k ∧ Below g w2 wr ∧ HasRow wr g 3 (cellsF m (fun i => .int .i64 ((cnt (fun x => comp x == (i : Int)) k : Nat) : Int)))) (fun i _ => n - (intOf i).toNat)
  case atStart => exact ⟨0, Nat.zero_le _, rfl, hI.1, hI.2⟩
  case round =>
    clear hI
    obtain ⟨k, hk, rfl, hW, hRow⟩ := hrel
    by_cases hlt : k < n
    · obtain ⟨b, off, rfl, hc0⟩ := K.crow k hlt
      have hbg : b < g := by rw [← HG.out]; exact World.block_lt_of_cell? w2 _ hc0
      have ck := (hW.cell (p := ⟨b, off + k, none⟩) hbg).trans hc0
      have hcr := K.comps.rng k hlt
      rw [← HM.out] at hcr
      obtain ⟨c, hc⟩ : ∃ c : Nat, comp k = (c : Int) := ⟨(comp k).toNat, by omega⟩
      rw [hc] at ck hcr
      have hcm : c < m := by omega
      have cg := hRow.cell c
      rw [cellsF_get _ _ _ hcm] at cg
      have fg := hRow.frozen c
      have hcl := cnt_le (fun x => comp x == (c : Int)) k
      have hst := hRow.set c (.int .i64 ((cnt (fun x => comp x == (c : Int)) k : Nat) + 1))
      rw [cellsF_set, count_next hc] at hst
      have HST : Hid _ := hst
      have HC : Hid _ := hc
      clear hst hc hc0
      generalize cnt (fun x => comp x == (c : Int)) k = y at *
      have hW2 : Hid _ := hW.setCell (p := ⟨g, c, none⟩) (Nat.le_refl _) (.int .i64 ((y : Int) + 1))
      go_wp2_with fail
      go_roundw
      case rel => exact ⟨k + 1, by omega, by go_num, hW2.out, HST.out⟩
      case measure => simp [intOf]; omega
    · obtain rfl : n = k := by omega
      go_wp2_with fail
      go_loopw [9] (fun i wr => ∃ k : Nat, k ≤ m ∧ i = .int .i64 k ∧ Below g w2 wr ∧ HasRow wr g 3 (cellsF m (fun i => .int .i64 ((cnt (fun x => comp x == (i : Int)) n : Nat) : Int)))) (fun i _ => m - (intOf i).toNat)
      case atStart => exact ⟨0, Nat.zero_le _, rfl, hW, hRow⟩
      case round =>
        clear hW hRow
        obtain ⟨c, hc, rfl, hW, hRow⟩ := hrel
        by_cases hcl : c < m
        · obtain ⟨b, off, rfl, hc0⟩ := K.zrow c (by rw [← HM.out]; exact hcl)
          have hbg : b < g := by rw [← HG.out]; exact World.block_lt_of_cell? w2 _ hc0
          have ck := (hW.cell (p := ⟨b, off + c, none⟩) hbg).trans hc0
          have hz := K.comps.szs c (by rw [← HM.out]; exact hcl)
          have cg := hRow.cell c
          rw [cellsF_get _ _ _ hcl, ← hz.1] at cg
          have hz1 := hz.2
          generalize sizes.getD c 0 = z at ck cg hz1
          have hzb : decide (z < 1) = false := by simp; omega
          clear hz hc0
          go_wp2_with fail
          go_quiet (fail)
          go_wp2_with fail
          go_roundw
          case rel => exact ⟨c + 1, by omega, by go_num, below_drewN hW _, hRow.drewN _⟩
          case measure => simp [intOf]; omega
        · obtain rfl : m = c := by omega
          go_wp2_with fail
          go_ret
          exact ⟨rfl, hB.trans (hW.mono (by rw [← HG.out]; exact hB.size))⟩
end Go.Proofs.Qxb6001235a
