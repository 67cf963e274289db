import Derived.Test.Qxb6001235aRows
import Derived.WalkKit
import Derived.WalkSpells
import Derived.WalkLawsBesides
import Derived.Deep.QuietTactic
import Derived.BigQuiet
import Derived.Deep.DeepCutAuto
import Derived.Deep.CutRange
import Derived.Deep.CutBlock
import Derived.Deep.LoopGhost
import Derived.Test.Qxb6001235aMem
namespace Go.Proofs.Qxb6001235a
open Go.RowKit

theorem info3 : (Try.prog.info? 3).map (fun i => (i.zero, i.size, i.bytes)) = some (some (.int .i64 0), 1, 8) := by kernel_rfl

/-- The graph of the rows. -/
def adj (R : List (List Int)) (v : Nat) : List Nat := (R.getD v []).map Int.toNat

structure GOk (c : Cfg) (R : List (List Int)) : Prop where
  hn : c.n = R.length
  small : R.length ≤ 65536
  rowsmall : ∀ v, (R.getD v []).length ≤ 131072
  rng : ∀ v x, x ∈ R.getD v [] → 0 ≤ x ∧ x < R.length
  edges : EdgesAt c.w0 c.ev R

theorem adj_len (R : List (List Int)) (v : Nat) : (adj R v).length = (R.getD v []).length := by simp [adj]

theorem adj_get {R : List (List Int)} {v k : Nat} (hk : k < (R.getD v []).length) : (adj R v)[k]? = some ((R.getD v []).getD k 0).toNat := by
  unfold adj
  rw [List.getElem?_map, List.getD_eq_getElem?_getD (l := R.getD v []), List.getElem?_eq_getElem hk]
  rfl

theorem GOk.adj_lt {c : Cfg} {R : List (List Int)} (g : GOk c R) (x : Nat) : ∀ y, y ∈ adj R x → y < c.n := by
  intro y hy
  simp only [adj, List.mem_map] at hy
  obtain ⟨z, hz, rfl⟩ := hy
  have := g.rng x z hz
  rw [g.hn]; omega

theorem GOk.at {c : Cfg} {R : List (List Int)} (g : GOk c R) {v k : Nat} (hk : k < (R.getD v []).length) : ∃ y : Nat, y < c.n ∧ (R.getD v []).getD k 0 = (y : Int) ∧ (adj R v)[k]? = some y := by
  have hm : (R.getD v []).getD k 0 ∈ R.getD v [] := by
    rw [List.getD_eq_getElem?_getD (l := R.getD v []), List.getElem?_eq_getElem hk]
    exact List.getElem_mem hk
  have := g.rng v _ hm
  refine ⟨((R.getD v []).getD k 0).toNat, by rw [g.hn]; omega, by omega, adj_get hk⟩

/-- The edges of v, as the walk reads them. -/
theorem GOk.row {c : Cfg} {R : List (List Int)} (g : GOk c R) {v : Nat} (hv : v < c.n) : ∃ (b off cap : Nat) (ra : Option Addr) (rc : Nat),
    c.ev = .slice (some ⟨b, off, none⟩) c.n cap ∧ c.w0.cell? ⟨b, off + v, none⟩ = some (.slice ra (R.getD v []).length rc) ∧
    (0 < (R.getD v []).length → ∃ rb roff, ra = some ⟨rb, roff, none⟩ ∧ ∀ i, i < (R.getD v []).length → c.w0.cell? ⟨rb, roff + i, none⟩ = some (.int .i64 ((R.getD v []).getD i 0))) := by
  obtain ⟨a, cap, hev, hc⟩ := g.edges
  have hn := g.hn
  obtain ⟨b, off, rfl, hcell⟩ := hc (by omega)
  obtain ⟨u, hu, ra, rc, rfl, hr⟩ := hcell v (by omega)
  exact ⟨b, off, cap, ra, rc, by rw [hev, hn], hu, hr⟩

theorem owns_shape {w : World} {base : Nat} {e : TypeId} {size : Nat} {v : Value} {n : Nat} {xs : List Value} (h : w.ownsRow base e size v n xs) : ∃ a cap, v = .slice a n cap := by
  rcases h.2 with ⟨h1, h2⟩ | ⟨g, cap, cur, h1, _⟩
  · exact ⟨none, 0, by rw [h1, h2]⟩
  · exact ⟨_, _, h1⟩

theorem snoc_cases {α : Type} : ∀ l : List α, l = [] ∨ ∃ l' b, l = l' ++ [b]
  | [] => .inl rfl
  | a :: l => .inr (by
    rcases snoc_cases l with rfl | ⟨l', b, rfl⟩
    · exact ⟨[], a, rfl⟩
    · exact ⟨a :: l', b, rfl⟩)

/-- The top of the stack while it is popped. -/
theorem top_split {n : Nat} {E : Nat → List Nat} {G : Nat → Prop} {S0 S : St} {v k : Nat} {s s1 q : List Nat} (L : LI n E G S0 v k S) (hs : S.stack = S0.stack ++ v :: s) (hsq : s = s1 ++ q) :
    ∃ init t, S0.stack ++ v :: s1 = init ++ [t] ∧ t < n ∧ ((t = v ∧ init = S0.stack ∧ s1 = []) ∨ (t ≠ v ∧ ∃ s2, s1 = s2 ++ [t] ∧ init = S0.stack ++ v :: s2)) := by
  rcases snoc_cases s1 with rfl | ⟨s2, t, rfl⟩
  · exact ⟨S0.stack, v, rfl, L.lt, .inl ⟨rfl, rfl, rfl⟩⟩
  · have hts : t ∈ s := by rw [hsq]; simp
    have hlt := L.new_ge hs hts
    refine ⟨S0.stack ++ v :: s2, t, by simp, (L.inv.stk t (by rw [hs]; simp [hts])).1, .inr ⟨?_, s2, rfl, rfl⟩⟩
    intro e; subst e; omega

/-- What a visit keeps: its contract, at one depth. -/
def VisitOk (c : Cfg) (R : List (List Int)) (fuel : Nat) : Prop := ∀ (G : Nat → Prop) (S : St) (v : Nat) (sv zv : Value) (w : World), c.n - S.next ≤ fuel → Pre c.n (adj R) G S v → TW c w S sv zv →
    Calls Try.prog 30 #[.int .i64 v, .pointer (some ⟨c.blk 0, 0, none⟩), .pointer (some ⟨c.blk 1, 0, none⟩), .pointer (some ⟨c.blk 2, 0, none⟩), .pointer (some ⟨c.blk 3, 0, none⟩), .pointer (some ⟨c.blk 4, 0, none⟩), .pointer (some ⟨c.blk 5, 0, none⟩), .pointer (some ⟨c.blk 6, 0, none⟩), .pointer (some ⟨c.blk 7, 0, none⟩), .pointer (some ⟨c.blk 8, 0, none⟩)] w
      fun e w' => e = .returned (.tuple #[]) ∧ ∃ S' sv' zv', Post c.n (adj R) G S v S' ∧ TW c w' S' sv' zv'

set_option maxHeartbeats 1600000 in
set_option maxRecDepth 100000 in
theorem visit_step (c : Cfg) (R : List (List Int)) (ok : COk c) (gk : GOk c R) (fuel : Nat) (ih : VisitOk c R fuel) : VisitOk c R (fuel + 1) := by
  intro G S v sv zv w hfuel pre tw
  have hv := pre.lt
  have hnx : S.next < c.n := by
    have h1 := pre.inv.whi
    have h2 := cnt_pos (p := fun x => S.ord x == -1) hv (by simp [pre.new])
    omega
  have hn16 : c.n ≤ 65536 := by rw [gk.hn]; exact gk.small
  have IH : Hid (VisitOk c R fuel) := ih
  clear ih
  go_enter Try.func30, Try.ntmps30
  go_upto_region 0 with fail
  go_cut [] (fun wc => TW c wc { S with ord := upd S.ord v S.next, low := upd S.low v S.next } sv zv)
  case first =>
    have e1 := ok.ne 9 10 (by omega) (by omega) (by omega)
    have e2 := ok.ne 9 0 (by omega) (by omega) (by omega)
    have e3 := ok.ne 9 1 (by omega) (by omega) (by omega)
    have e4 := ok.ne 9 2 (by omega) (by omega) (by omega)
    have e5 := ok.ne 10 0 (by omega) (by omega) (by omega)
    have e6 := ok.ne 10 1 (by omega) (by omega) (by omega)
    have e7 := ok.ne 10 2 (by omega) (by omega) (by omega)
    have c0 := tw.c0
    have c1 := tw.c1
    have c2 := tw.c2
    have c9 := tw.c9 v hv
    have c10 := tw.c10 v hv
    have f9 := tw.frozen 9 (by omega) v
    have f10 := tw.frozen 10 (by omega) v
    go_region
    all_goals
      go_wp2_with fail
      go_meet
      exact ((tw.setOrd ok v _).setLow ok v _).drew
  case rest =>
  clear tw
  have T := hcut
  clear hcut
  go_upto_region 1 with fail
  go_cut [] (fun wc => TW c wc { S with ord := upd S.ord v S.next, low := upd S.low v S.next, next := S.next + 1 } sv zv)
  case first =>
    have c0 := T.c0
    have f0 := T.frozen 0 (by omega) 0
    go_wp2_with fail
    go_meet
    exact T.setNext ok (S.next + 1)
  case rest =>
  clear T
  have T := hcut
  clear hcut
  go_upto_region 2 with fail
  go_cut [] (fun wc => ∃ sv', TW c wc { S with ord := upd S.ord v S.next, low := upd S.low v S.next, next := S.next + 1, stack := S.stack ++ [v] } sv' zv)
  case first =>
    have c3 := T.c3
    have hlen : S.stack.length ≤ S.next := by have := pre.inv.cap; omega
    obtain ⟨i0, hi, hz0, hz1, hz2⟩ := info_parts info3
    go_wp2_with (at_builtin; refine wpList_append_fresh _ rfl (.tmp 25) (.tmp 27) 25 rfl c.base 3 i0 (.int .i64 0) 1 8 Try.underlying25 hi hz0 hz1 hz2 rfl (by decide) _ _ _ rfl (T.stk.alloc _) ⟨_, 0, none⟩ 1 1 [.int .i64 v] rfl rfl (cell_one_new _ _ _) (by intro u hu; simp at hu; subst hu; rfl) (by unfold maxLen; simp only []; omega) (by simp only []; omega) (by have := T.big; simp; omega) ?_; intro sv' w2 hown2 hgrow2 hfr2; obtain ⟨a2, cp2, hsv2⟩ := owns_shape hown2; subst hsv2; have c32 := ((T.alloc (.cells #[.int .i64 v] 3)).kept ok hgrow2 T.row_stack 3 (by omega)).cell 0; have f32 := ((T.alloc (.cells #[.int .i64 v] 3)).kept ok hgrow2 T.row_stack 3 (by omega)).frozen 0; simp only [conts, List.getElem?_cons_zero] at c32)
    go_meet
    exact ⟨_, (T.alloc _).growStack ok hgrow2 (st := S.stack ++ [v]) (by simpa using hown2) hfr2⟩
  case rest =>
  clear T
  obtain ⟨sv1, T⟩ := hcut
  go_upto_region 3 with fail
  go_cut [] (fun wc => TW c wc (enter S v) sv1 zv)
  case first =>
    have c4 := T.c4
    have c11 := T.c11 v hv
    have f11 := T.frozen 11 (by omega) v
    go_wp2_with fail
    go_meet
    exact T.setOn ok v true
  case rest =>
  clear T
  have T := hcut
  clear hcut
  have L := enter_li pre
  obtain ⟨b, off, cap, ra, rc, hev, hrow, hcells⟩ := gk.row hv
  have hrl := gk.rowsmall v
  have hat : ∀ k, k < (R.getD v []).length → ∃ y : Nat, y < c.n ∧ (R.getD v []).getD k 0 = (y : Int) ∧ (adj R v)[k]? = some y := fun k hk => gk.at hk
  have hal := adj_len R v
  generalize R.getD v [] = row at hrow hcells hrl hat hal
  have c5 := T.c5
  rw [hev] at c5
  have crow := (T.bel.cell (World.block_lt_of_cell? c.w0 _ hrow)).trans hrow
  have HAT : Hid _ := hat
  have HAL : Hid _ := hal
  have HCELLS : Hid _ := hcells
  clear hev hcells hrow hat hal
  go_wp2_with fail
  clear c5 crow
  go_loopw [37] (fun i wr => ∃ (k : Nat) (S1 : St) (sv1 zv1 : Value), k ≤ row.length ∧ i = .int .i64 k ∧ LI c.n (adj R) G S v k S1 ∧ TW c wr S1 sv1 zv1) (fun i _ => row.length - (intOf i).toNat)
  case atStart => exact ⟨0, enter S v, sv1, zv, Nat.zero_le _, rfl, L, T⟩
  case round =>
    clear T L
    obtain ⟨k, S1, sv2, zv2, hk, rfl, L, T⟩ := hrel
    by_cases hlt : k < row.length
    · obtain ⟨y, hy, hxy, hadj⟩ := HAT.out k hlt
      obtain ⟨rb, roff, hra, hrc⟩ := HCELLS.out (by omega)
      subst hra
      have hw0 := hrc k hlt
      rw [hxy] at hw0
      have ck := (T.bel.cell (World.block_lt_of_cell? c.w0 _ hw0)).trans hw0
      have HADJ : Hid _ := hadj
      clear hrc hxy hw0 hadj
      go_upto_block 1 with fail
      go_cut [] (fun wc => ∃ (S2 : St) (sv3 zv3 : Value), LI c.n (adj R) G S v (k + 1) S2 ∧ TW c wc S2 sv3 zv3)
      case first =>
        have c1 := T.c1
        have c9 := T.c9 y hy
        by_cases hnew : S1.ord y = -1
        · rw [hnew] at c9
          have c6 := T.c6
          unfold Cfg.fv at c6
          have hf : c.n - S1.next ≤ fuel := by have := L.nxt; omega
          have HN : Hid _ := hnew
          clear hnew
          go_wp2_with (go_at_call 30; refine (IH.out (fun x => G x ∨ x = v) S1 y sv2 zv2 _ hf (child_pre L (List.mem_of_getElem? HADJ.out) hy HN.out) T).mono ?_; rintro e w' ⟨rfl, S2, sv3, zv3, P2, T2⟩)
          clear c1 c9 c6 ck T
          have c2 := T2.c2
          have c10 := T2.c10 v hv
          have c10y := T2.c10 y hy
          have f10 := T2.frozen 10 (by omega) v
          go_region
          all_goals go_wp2_with fail
          all_goals go_meet
          all_goals
            refine ⟨_, sv3, zv3, child_li (gk.adj_lt v) L HADJ.out HN.out P2, ?_⟩
            first
              | (rw [show min (S2.low v) (S2.low y) = S2.low y from by omega]; exact (T2.setLow ok v _).drew)
              | (rw [show min (S2.low v) (S2.low y) = S2.low v from by omega]; exact (T2.setLow ok v _).drew)
        · have hb : (S1.ord y == -1) = false := by simpa using hnew
          have HN : Hid _ := hnew
          clear hnew
          have c4 := T.c4
          have c11 := T.c11 y hy
          have hon := L.inv.onIff y hy
          cases ho : S1.on y with
          | true =>
            rw [ho] at c11
            have HS : Hid (y ∈ S1.stack) := hon.1 ho
            have c2 := T.c2
            have c10 := T.c10 v hv
            have f10 := T.frozen 10 (by omega) v
            clear ho hon
            go_wp2_with fail
            go_region
            all_goals go_wp2_with fail
            all_goals go_meet
            all_goals
              refine ⟨_, sv2, zv2, back_li L HADJ.out HN.out HS.out, ?_⟩
              first
                | (rw [show min (S1.low v) (S1.ord y) = S1.ord y from by omega]; exact (T.setLow ok v _).drew)
                | (rw [show min (S1.low v) (S1.ord y) = S1.low v from by omega]; exact (T.setLow ok v _).drew)
          | false =>
            rw [ho] at c11
            have HS : Hid (y ∉ S1.stack) := fun hm => by rw [hon.2 hm] at ho; cases ho
            clear ho hon
            go_wp2_with fail
            go_meet
            exact ⟨S1, sv2, zv2, skip_li L HADJ.out HN.out HS.out, T⟩
      case rest =>
        clear L T ck
        obtain ⟨S2, sv3, zv3, L, T⟩ := hcut
        go_wp2_with fail
        go_roundw
        case rel => exact ⟨k + 1, S2, sv3, zv3, by omega, by go_num, L, T⟩
        case measure => simp [intOf]; omega
    · obtain rfl : k = row.length := by omega
      have hal := HAL.out
      rw [← hal] at L
      have LL : Hid _ := L
      clear HAT HCELLS hal L
      have c1 := T.c1
      have c2 := T.c2
      have c9 := T.c9 v hv
      have c10 := T.c10 v hv
      go_upto_region 13 with fail
      go_cut [88] (fun t wc => t = .bool (S1.low v == S1.ord v) ∧ TW c wc S1 sv2 zv2)
      case first =>
        go_quiet (fail)
        go_wp2_with fail
        go_meet
        exact ⟨rfl, T.drewN _⟩
      case rest =>
      clear c1 c2 c9 c10 T
      obtain ⟨rfl, T⟩ := hcut
      by_cases hlow : S1.low v = S1.ord v
      · have hb : (S1.low v == S1.ord v) = true := by simpa using hlow
        obtain ⟨s, hs, _⟩ := LL.out.stk
        have hcap := LL.out.inv.cap
        have hwhi := LL.out.inv.whi
        have hstn : ∀ x, x ∈ S1.stack → x < c.n := fun x hx => (LL.out.inv.stk x hx).1
        have hsz : S1.sizes.length + S1.stack.length ≤ c.n := by omega
        obtain ⟨az, cz, hzv⟩ := owns_shape T.siz
        subst hzv
        have c7 := T.c7
        have HS : Hid _ := hs
        have HLOW : Hid _ := hlow
        have HE : Hid (∀ x, x < c.n → ∀ z, z ∈ adj R x → z < c.n) := fun x _ z hz => gk.adj_lt x z hz
        have HSTN : Hid _ := hstn
        clear hs hlow hstn hcap hwhi
        go_upto_region 15 with fail
        go_cut [13] (fun i wc => i = .int .i64 S1.sizes.length ∧ ∃ zv', TW c wc { S1 with sizes := S1.sizes ++ [0] } sv2 zv')
        case first =>
          obtain ⟨i0, hi, hz0, hz1, hz2⟩ := info_parts info3
          go_wp2_with (at_builtin; refine wpList_append_fresh _ rfl (.tmp 91) (.tmp 92) 25 rfl c.base 3 i0 (.int .i64 0) 1 8 Try.underlying25 hi hz0 hz1 hz2 rfl (by decide) _ _ _ rfl (T.siz.alloc _) ⟨_, 0, none⟩ 1 1 [.int .i64 0] rfl rfl (cell_one_new _ _ _) (by intro u hu; simp at hu; subst hu; rfl) (by unfold maxLen; omega) (by omega) (by have := T.big; simp; omega) ?_; intro zv' w2 hown2 hgrow2 hfr2; obtain ⟨a2, cp2, hsv2⟩ := owns_shape hown2; subst hsv2; have c72 := ((T.alloc (.cells #[.int .i64 0] 3)).kept ok hgrow2 T.row_sizes 7 (by omega)).cell 0; have f72 := ((T.alloc (.cells #[.int .i64 0] 3)).kept ok hgrow2 T.row_sizes 7 (by omega)).frozen 0; simp only [conts, List.getElem?_cons_zero] at c72)
          go_meet
          exact ⟨rfl, _, (T.alloc _).growSizes ok hgrow2 (zs := S1.sizes ++ [0]) (by simpa using hown2) hfr2⟩
        case rest =>
        clear c7 T
        obtain ⟨rfl, zv3, T⟩ := hcut
        rw [← popped_start, HS.out] at T
        go_wp2_with fail
        go_loopg [] (s.length) (fun gk wr => ∃ (s1 q : List Nat) (sv4 zv4 : Value), s = s1 ++ q ∧ gk = s1.length ∧ TW c wr (popped S1 (S.stack ++ v :: s1) q) sv4 zv4)
        case atStart => exact ⟨s, [], sv2, zv3, by simp, rfl, T⟩
        case round =>
          clear T
          obtain ⟨s1, q, sv4, zv4, hsq, hgk, T⟩ := hrel
          obtain ⟨init, t, hst, htn, hcase⟩ := top_split LL.out HS.out hsq
          rw [hst] at T
          obtain ⟨g, cap4, hsv4, ctop, hcapl, hpop⟩ := T.stack_at rfl
          subst hsv4
          have hil : init.length + 1 ≤ S1.stack.length := by
            rw [HS.out, hsq]
            have e1 := congrArg List.length hst
            simp at e1 ⊢
            omega
          have HSQ : Hid _ := hsq
          have HGK : Hid _ := hgk
          have HCASE : Hid _ := hcase
          clear hsq hgk hcase hst
          have c3 := T.c3
          have f3 := T.frozen 3 (by omega) 0
          go_upto_region 17 with fail
          go_cut [14] (fun i wc => i = .int .i64 t ∧ TW c wc { popped S1 (init ++ [t]) q with stack := init } (.slice (some ⟨g, 0, none⟩) init.length cap4) zv4)
          case first =>
            go_wp2_with fail
            go_meet
            exact ⟨rfl, T.setStack ok _ init hpop T.sep⟩
          case rest =>
          clear T ctop c3 f3
          obtain ⟨rfl, T⟩ := hcut
          have c4 := T.c4
          have c11 := T.c11 t htn
          have f11 := T.frozen 11 (by omega) t
          go_upto_region 18 with fail
          go_cut [] (fun wc => TW c wc { popped S1 (init ++ [t]) q with stack := init, on := upd (popped S1 (init ++ [t]) q).on t false } (.slice (some ⟨g, 0, none⟩) init.length cap4) zv4)
          case first =>
            go_wp2_with fail
            go_meet
            exact T.setOn ok t false
          case rest =>
          clear T c4 c11 f11
          have T := hcut
          clear hcut
          have c8 := T.c8
          have c12 := T.c12 t htn
          have f12 := T.frozen 12 (by omega) t
          go_upto_region 19 with fail
          go_cut [] (fun wc => TW c wc { popped S1 (init ++ [t]) q with stack := init, on := upd (popped S1 (init ++ [t]) q).on t false, comp := upd (popped S1 (init ++ [t]) q).comp t (S1.sizes.length : Int) } (.slice (some ⟨g, 0, none⟩) init.length cap4) zv4)
          case first =>
            go_wp2_with fail
            go_meet
            exact T.setComp ok t _
          case rest =>
          clear T c8 c12 f12
          have T := hcut
          clear hcut
          have hql : q.length ≤ 65536 := by
            have e1 := congrArg List.length HS.out
            have e2 := congrArg List.length HSQ.out
            simp at e1 e2
            omega
          obtain ⟨gz, capz, hzv4, cz, fz⟩ := T.sizes_at (zs := S1.sizes) (x := (q.length : Int)) rfl
          subst hzv4
          have c7 := T.c7
          go_upto_region 20 with fail
          go_cut [] (fun wc => TW c wc (popped S1 init (t :: q)) (.slice (some ⟨g, 0, none⟩) init.length cap4) (.slice (some ⟨gz, 0, none⟩) (S1.sizes.length + 1) capz))
          case first =>
            go_wp2_with fail
            go_meet
            rw [← popped_step]
            exact T.storeSize ok (by simp [popped]) _ _
          case rest =>
          clear T c7 cz fz
          have T := hcut
          clear hcut
          rcases HCASE.out with ⟨htv, hinit, hs1⟩ | ⟨hne, s2, hs2, hinit⟩
          · subst htv
            rw [hinit] at T
            have hsq := HSQ.out
            rw [hs1, List.nil_append] at hsq
            rw [← hsq] at T
            clear hinit hs1 HCASE
            have HSQ2 : Hid _ := hsq
            clear hsq
            go_wp2_with fail
            go_end0
            exact ⟨rfl, _, _, _, pop_post HE.out LL.out HS.out HLOW.out, T⟩
          · have hbe : ((t : Int) == (v : Int)) = false := by simp; omega
            rw [hinit] at T
            have HS2 : Hid _ := hs2
            clear hinit hs2 HCASE
            go_wp2_with fail
            go_roundg s2.length
            case measure => rw [HGK.out, HS2.out]; simp
            case rel => exact ⟨s2, t :: q, _, _, by rw [HSQ.out, HS2.out]; simp, rfl, T⟩
      · have hb : (S1.low v == S1.ord v) = false := by simpa using hlow
        go_wp2_with fail
        go_end0
        exact ⟨rfl, S1, sv2, zv2, stay_post LL.out hlow, T⟩

theorem visit_any (c : Cfg) (R : List (List Int)) (ok : COk c) (gk : GOk c R) (fuel : Nat) : VisitOk c R fuel := by
  induction fuel with
  | zero =>
    intro G S v sv zv w hfuel pre tw
    have h1 := pre.inv.whi
    have h2 := cnt_pos (p := fun x => S.ord x == -1) pre.lt (by simp [pre.new])
    omega
  | succ fuel ih => exact visit_step c R ok gk fuel ih
end Go.Proofs.Qxb6001235a
