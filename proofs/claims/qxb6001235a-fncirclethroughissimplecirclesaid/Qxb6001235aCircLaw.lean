import Derived.Test.Qxb6001235aCircFn
namespace Go.Proofs.Qxb6001235a
open Go.RowKit Go.Deep Go.Maps

theorem found_facts {n : Nat} {E : Nat → List Nat} {comp : Nat → Int} {start : Nat} {path : List Nat} (h : Found n E comp start path) (sn : start < n) :
    2 ≤ path.length ∧ path.getD 0 0 = start ∧ path.getD (path.length - 1) 0 = start ∧ (∀ k, k < path.length → path.getD k 0 < n) ∧
    (∀ k, 1 ≤ k → k + 1 < path.length → path.getD k 0 ≠ start ∧ comp (path.getD k 0) = comp start ∧ ∀ j, 1 ≤ j → j < k → path.getD j 0 ≠ path.getD k 0) ∧
    (∀ k, k + 1 < path.length → path.getD (k + 1) 0 ∈ E (path.getD k 0)) ∧ path.length ≤ cnt (fun x => comp x == comp start) n + 1 := by
  obtain ⟨inner, rfl, hnd, hin, hch⟩ := h
  have hl : (start :: (inner ++ [start])).length = inner.length + 2 := by simp
  have hmid : ∀ k, 1 ≤ k → k < inner.length + 1 → ∃ hk : k - 1 < inner.length, (start :: (inner ++ [start])).getD k 0 = inner[k - 1] := by
    intro k h1 h2
    obtain ⟨j, rfl⟩ : ∃ j, k = j + 1 := ⟨k - 1, by omega⟩
    refine ⟨by omega, ?_⟩
    rw [List.getD_eq_getElem?_getD, List.getElem?_cons_succ, List.getElem?_append_left (by omega), List.getElem?_eq_getElem (by omega)]
    rfl
  have hlast : (start :: (inner ++ [start])).getD (inner.length + 1) 0 = start := by
    rw [List.getD_eq_getElem?_getD, List.getElem?_cons_succ, List.getElem?_append_right (Nat.le_refl _)]
    simp
  refine ⟨by omega, rfl, by rw [hl]; exact hlast, ?_, ?_, fun k hk => chain_at hch k hk, ?_⟩
  · intro k hk
    rw [hl] at hk
    by_cases h0 : k = 0
    · subst h0; exact sn
    · by_cases h1 : k = inner.length + 1
      · subst h1; rw [hlast]; exact sn
      · obtain ⟨hk2, he⟩ := hmid k (by omega) (by omega)
        rw [he]
        exact (hin _ (List.getElem_mem hk2)).1
  · intro k h1 h2
    rw [hl] at h2
    obtain ⟨hk2, he⟩ := hmid k h1 (by omega)
    rw [he]
    have h3 := hin _ (List.getElem_mem hk2)
    refine ⟨h3.2.2, h3.2.1, fun j hj1 hj2 => ?_⟩
    obtain ⟨hj3, hej⟩ := hmid j hj1 (by omega)
    rw [hej]
    intro e
    have := (List.getElem_inj hnd).1 e
    omega
  · have hN : (start :: inner).Nodup := by
      rw [List.nodup_cons]
      exact ⟨fun hm => (hin start hm).2.2 rfl, hnd⟩
    have := len_le_cnt (p := fun x => comp x == comp start) hN (fun x hx => by
      rcases List.mem_cons.1 hx with rfl | hx
      · exact ⟨sn, by simp⟩
      · exact ⟨(hin x hx).1, by simp; exact (hin x hx).2.1⟩)
    rw [hl]
    simp at this
    omega

theorem hasEdge_yes (R : List (List Int)) (n : Nat) (w : World) (a : Option Addr) (cap u x : Nat) (hV : VertAt R n w a) (hu : u < n) (hx : x ∈ adj R u) :
    Calls Try.prog 19 #[.slice a n cap, .int .i64 (u : Int), .int .i64 (x : Int)] w fun e w' => e = .returned (.bool true) ∧ w = w' := by
  have h := hasEdge_any R n w a cap u x hV hu
  rw [decide_eq_true hx] at h
  exact h

set_option maxHeartbeats 1600000 in
set_option maxRecDepth 100000 in
theorem circ_walk (R : List (List Int)) (a : Option Addr) (n cap : Nat) (st : Int) (w : World) (he : EdgesAt w (.slice a n cap) R) (hn : n ≤ 9223372036854775807) (hrl : ∀ u, u < n → (R.getD u []).length ≤ 9223372036854775807) :
    Calls Try.prog 6 #[.slice a n cap, .int .i64 st] w fun e w' => LawPost w e w' := by
  have hnR := he.row.1
  have HE : Hid (EdgesAt w (.slice a n cap) R) := he
  have HNR : Hid _ := hnR
  obtain ⟨Q, hQ⟩ : ∃ Q : Prop, Q = ∀ u, u < n → (R.getD u []).length ≤ 9223372036854775807 := ⟨_, rfl⟩
  have q : Q := by rw [hQ]; exact hrl
  have HQ : Hid _ := hQ
  clear he hnR hrl hQ
  go_enter Try.func6, Try.ntmps6
  go_wp2_with fail
  refine (bytes18_any R a n cap st w HE.out hn (by rw [HQ.out] at q; exact q)).mono ?_
  rintro e w' ⟨b1, rfl, rfl, _⟩
  cases b1 with
  | false =>
    go_wp2_with fail
    go_ret
    exact ⟨rfl, Below.refl _ _⟩
  | true =>
  go_wp2_with fail
  refine (fit_any R a n cap w HE.out hn (by rw [HQ.out] at q; exact q)).mono ?_
  rintro e w' ⟨b2, rfl, rfl, hfit⟩
  cases b2 with
  | false =>
    go_wp2_with fail
    go_ret
    exact ⟨rfl, Below.refl _ _⟩
  | true =>
  have HFIT : Hid _ := hfit rfl
  clear hfit
  by_cases hbig : (65536 : Int) < n
  · go_wp2_with fail
    go_ret
    exact ⟨rfl, Below.refl _ _⟩
  go_wp2_with fail
  refine (range_any R a n cap w HE.out (by omega) HFIT.out).mono ?_
  rintro e w' ⟨b3, rfl, rfl, hrng⟩
  cases b3 with
  | false =>
    go_wp2_with fail
    go_ret
    exact ⟨rfl, Below.refl _ _⟩
  | true =>
  have HRNG : Hid _ := hrng rfl
  clear hrng
  by_cases hs1 : st < 0
  · go_wp2_with fail
    go_ret
    exact ⟨rfl, Below.refl _ _⟩
  by_cases hs2 : (n : Int) ≤ st
  · go_wp2_with fail
    go_ret
    exact ⟨rfl, Below.refl _ _⟩
  obtain ⟨s, rfl⟩ : ∃ s : Nat, st = (s : Int) := ⟨st.toNat, by omega⟩
  have sn : s < n := by omega
  have hs1' : decide ((s : Int) < 0) = false := by simp
  have hs2' : decide (n ≤ s) = false := by simp; omega
  clear hs1 hs2
  go_wp2_with fail
  refine (clone_any R a n cap w HE.out (by omega) HFIT.out).mono ?_
  rintro e w1 ⟨ev, rfl, hE1, hB1⟩
  obtain ⟨a1, cap1, rfl⟩ := hE1.shape HNR.out
  go_wp2_with fail
  refine (comp_got R n HNR.out _ w1 hE1 (by omega) HFIT.out HRNG.out).mono ?_
  rintro e w2 ⟨comp, sizes, ca, cc, za, zc, rfl, K, hB2⟩
  have hB : Below w.heap.size w w2 := hB1.trans (hB2.mono hB1.size)
  have hV : VertAt R n w2 a1 := fun v hv => (hE1.below hB2).vert HFIT.out HRNG.out hv
  have hC : CompAt n comp w2 ca := K.crow
  have hcomps := K.comps
  clear HE HFIT HRNG hE1 hB1 hB2 q HQ hs1' hs2' HNR
  obtain ⟨cb, coff, rfl, hc0⟩ := K.crow s sn
  have hcr := K.comps.rng s sn
  obtain ⟨c, hc⟩ : ∃ c : Nat, comp s = (c : Int) := ⟨(comp s).toNat, by omega⟩
  rw [hc] at hc0 hcr
  have hcm : c < sizes.length := by omega
  have hcap := K.comps.cap
  obtain ⟨zb, zoff, rfl, hz0⟩ := K.zrow c hcm
  have hzz := K.comps.szs c hcm
  obtain ⟨z, hz⟩ : ∃ z, z = sizes.getD c 0 := ⟨_, rfl⟩
  rw [← hz] at hz0 hzz
  have hcn := cnt_le (fun x => comp x == (c : Int)) n
  have hzn : z ≤ 65536 := by omega
  have HZ : Hid _ := hzz.1
  have HC : Hid _ := hc
  have hz1 := hzz.2
  clear hzz hc hz
  obtain ⟨m, hm⟩ : ∃ m, m = sizes.length := ⟨_, rfl⟩
  rw [← hm] at hcm hcr hcap ⊢
  have HM : Hid _ := hm
  clear hm hcn
  go_upto_region 19 with fail
  go_cut [71] (fun t wc => w2 = wc ∧ ((t = .bool true ∧ True) ∨ (t = .bool false ∧ ((∃ y, y < n ∧ y ≠ s ∧ comp y = comp s) ∨ s ∈ adj R s))))
  case first =>
    by_cases hz2 : z < 2
    · go_wp2_with (go_at_call 19; refine (hasEdge_any R n w2 a1 cap1 s s hV sn).mono ?_; rintro e w' ⟨rfl, rfl⟩)
      go_meet
      by_cases hse : s ∈ adj R s
      · exact ⟨rfl, .inr ⟨by simp [hse], .inr hse⟩⟩
      · exact ⟨rfl, .inl ⟨by simp [hse], trivial⟩⟩
    · have hz2' : decide (z < 2) = false := by simpa using hz2
      have hoth := other_of_cnt (p := fun x => comp x == (c : Int)) (n := n) (s := s) (by have := HZ.out; omega)
      obtain ⟨y, hy1, hy2, hy3⟩ := hoth
      have hy4 : comp y = comp s := by rw [HC.out]; simpa using hy3
      have HY : Hid _ := hy4
      clear hy3 hy4
      go_wp2_with fail
      go_meet
      exact ⟨rfl, .inr ⟨rfl, .inl ⟨y, hy1, hy2, HY.out⟩⟩⟩
  case rest =>
  obtain ⟨hw, ht⟩ := hcut
  subst hw
  rcases ht with ⟨rfl, _⟩ | ⟨rfl, hcirc⟩
  · go_wp2_with fail
    go_ret
    exact ⟨rfl, hB⟩
  obtain ⟨Q2, hQ2⟩ : ∃ Q2 : Prop, Q2 = ((∃ y, y < n ∧ y ≠ s ∧ comp y = comp s) ∨ s ∈ adj R s) := ⟨_, rfl⟩
  have q2 : Q2 := by rw [hQ2]; exact hcirc
  have HQ2 : Hid _ := hQ2
  clear hcirc hQ2
  go_wp2_with fail
  refine (zzThrough_any R n comp sizes s w2 a1 cap1 (some ⟨cb, coff, none⟩) cc (by omega) sn hV hC hcomps (by rw [HQ2.out] at q2; exact q2)).mono ?_
  rintro e w3 ⟨path, pa, cp, rfl, hP, hF, hB3⟩
  obtain ⟨f1, f2, f3, f4, f5, f6, f7⟩ := found_facts hF sn
  have hz3 := (hB3.cell (World.block_lt_of_cell? w2 _ hz0)).trans hz0
  have hBw : Below w.heap.size w w3 := hB.trans (hB3.mono hB.size)
  have hV3 := hV.below hB3
  have hC3 : CompAt n comp w3 (some ⟨cb, coff, none⟩) := fun v hv => by
    obtain ⟨b, off, h1, h2⟩ := hC v hv
    exact ⟨b, off, h1, (hB3.cell (World.block_lt_of_cell? w2 _ h2)).trans h2⟩
  rw [HC.out] at f7
  have f7' : (path.length : Int) ≤ z + 1 := by have := HZ.out; omega
  obtain ⟨pb, poff, rfl, p0⟩ := hP 0 (by omega)
  obtain ⟨pb', poff', he, pl⟩ := hP (path.length - 1) (by omega)
  cases he
  rw [f2, Nat.add_zero] at p0
  rw [f3] at pl
  have HP : Hid (PathAt w3 path (some ⟨pb, poff, none⟩)) := hP
  have H4 : Hid _ := f4
  have H5 : Hid _ := f5
  have H6 : Hid _ := f6
  obtain ⟨L, hL⟩ : ∃ L, L = path.length := ⟨_, rfl⟩
  rw [← hL] at f1 f7' pl ⊢
  have HL : Hid _ := hL
  clear hL hP f2 f3 f4 f5 f6 f7 q2 HQ2 hF hV hC hcomps hz0 hc0 hB K
  go_wp2_with fail
  go_loop [10] (fun i => ∃ k : Nat, 1 ≤ k ∧ k ≤ L ∧ i = .int .i64 k) (fun i => L - (intOf i).toNat)
  case atStart => exact ⟨1, by omega, by omega, rfl⟩
  case round =>
    obtain ⟨k, hk1, hk, rfl⟩ := hrel
    by_cases hlt : k < L
    · have hlt' : k < path.length := by rw [← HL.out]; exact hlt
      obtain ⟨_, _, he, pk⟩ := HP.out k hlt'
      cases he
      obtain ⟨_, _, he, pk1⟩ := HP.out (k - 1) (by omega)
      cases he
      have hx := H4.out k hlt'
      have hx1 := H4.out (k - 1) (by omega)
      have hed := H6.out (k - 1) (by omega)
      rw [show k - 1 + 1 = k from by omega] at hed
      generalize path.getD k 0 = x at pk hx hed
      generalize path.getD (k - 1) 0 = x1 at pk1 hx1 hed
      clear hlt' p0 pl
      go_wp2_with (go_at_call 19; refine (hasEdge_yes R n w3 a1 cap1 x1 x hV3 hx1 hed).mono ?_; rintro e w' ⟨rfl, rfl⟩)
      go_round
      case rel => exact ⟨k + 1, by omega, by omega, by go_num⟩
      case measure => simp [intOf]; omega
    · obtain rfl : L = k := by omega
      have hmb := fun w => run_make_row' (P := Try.prog) 30 4 (.bool false) 1 Try.underlying30 info4 rfl .i64 .i64 n (by omega) (by omega) w
      have hI0 : Hid (Below w3.heap.size w3 (w3.alloc (.cells (madeCells #[.bool false] n) 4)) ∧ HasRow (w3.alloc (.cells (madeCells #[.bool false] n) 4)) w3.heap.size 4 (cellsF n (fun i => .bool ((fun _ => false) i)))) :=
        ⟨(Below.refl _ w3).alloc (Nat.le_refl _) _, by rw [made_eq]; exact HasRow.new _ _ _⟩
      clear p0 pl
      go_wp2_with fail
      have hI := hI0.out
      clear hI0 hmb
      generalize w3.alloc (.cells (madeCells #[.bool false] n) 4) = w4 at *
      generalize hg : w3.heap.size = g at *
      have HG : Hid _ := hg
      clear hg
      go_loopw [13] (fun i wr => ∃ (k : Nat) (mk : Nat → Bool), 1 ≤ k ∧ k + 1 ≤ L ∧ i = .int .i64 k ∧ Below g w3 wr ∧ HasRow wr g 4 (cellsF n (fun i => .bool (mk i))) ∧ ∀ y, mk y = true → ∃ j, 1 ≤ j ∧ j < k ∧ path.getD j 0 = y) (fun i _ => L - (intOf i).toNat)
      case atStart => exact ⟨1, fun _ => false, by omega, by omega, rfl, hI.1, hI.2, fun y hy => by cases hy⟩
      case round =>
        clear hI
        obtain ⟨k, mk, hk1, hk, rfl, hW, hRow, hmk⟩ := hrel
        have HMK : Hid _ := hmk
        clear hmk
        by_cases hlt : k + 1 < L
        · have hlt' : k + 1 < path.length := by rw [← HL.out]; exact hlt
          obtain ⟨_, _, he, pk⟩ := HP.out k (by omega)
          cases he
          have hx := H4.out k (by omega)
          have h5 := H5.out k hk1 hlt'
          have hmx : mk (path.getD k 0) = false := by
            cases e : mk (path.getD k 0) with
            | false => rfl
            | true =>
              obtain ⟨j, h1, h2, h3⟩ := HMK.out _ e
              exact absurd h3 (h5.2.2 j h1 h2)
          obtain ⟨x, hxx⟩ : ∃ x, x = path.getD k 0 := ⟨_, rfl⟩
          rw [← hxx] at pk hx h5 hmx
          have HXX : Hid _ := hxx
          clear hxx
          have ck := (hW.cell (by rw [← HG.out]; exact World.block_lt_of_cell? w3 _ pk)).trans pk
          obtain ⟨_, _, he, cx⟩ := hC3 x hx
          cases he
          have ckx := (hW.cell (by rw [← HG.out]; exact World.block_lt_of_cell? w3 _ cx)).trans cx
          rw [h5.2.1, HC.out] at ckx
          have cm := hRow.cell x
          rw [cellsF_get _ _ _ hx, hmx] at cm
          have fm := hRow.frozen x
          have hxs : ((x : Int) == (s : Int)) = false := by simp; have := h5.1; omega
          have hst := hRow.set x (.bool true)
          rw [cellsF_set, upd_map] at hst
          have hW2 : Hid _ := hW.setCell (p := ⟨g, x, none⟩) (Nat.le_refl _) (.bool true)
          clear pk cx h5 hmx hlt'
          go_wp2_with fail
          go_roundw
          case rel => exact ⟨k + 1, upd mk x true, by omega, by omega, by go_num, hW2.out, hst, fun y hy => by
            by_cases e : y = x
            · exact ⟨k, hk1, by omega, by rw [e]; exact HXX.out.symm⟩
            · rw [upd_other _ _ e] at hy
              obtain ⟨j, h1, h2, h3⟩ := HMK.out y hy
              exact ⟨j, h1, by omega, h3⟩⟩
          case measure => simp [intOf]; omega
        · go_wp2_with fail
          go_ret
          exact ⟨rfl, hBw.trans (hW.mono (by rw [← HG.out]; exact hBw.size))⟩
end Go.Proofs.Qxb6001235a
