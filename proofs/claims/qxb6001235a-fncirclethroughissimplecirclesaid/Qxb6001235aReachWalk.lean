import Derived.Test.Qxb6001235aTopoWalk
import Derived.Test.Qxb6001235aReach
namespace Go.Proofs.Qxb6001235a
open Go.RowKit Go.Deep

/-- The rows, as a walk reads them: the numbers are vertices. -/
def VertAt (R : List (List Int)) (n : Nat) (w : World) (a : Option Addr) : Prop := ∀ v, v < n →
  ∃ b off ra rc rl, a = some ⟨b, off, none⟩ ∧ w.cell? ⟨b, off + v, none⟩ = some (.slice ra rl rc) ∧ rl = (adj R v).length ∧ rl ≤ 131072 ∧
    ∀ i, i < rl → ∃ rb roff y, ra = some ⟨rb, roff, none⟩ ∧ w.cell? ⟨rb, roff + i, none⟩ = some (.int .i64 ((y : Nat) : Int)) ∧ (adj R v)[i]? = some y ∧ y < n

theorem VertAt.below {R : List (List Int)} {n : Nat} {w w' : World} {a : Option Addr} (h : VertAt R n w a) (hb : Below w.heap.size w w') : VertAt R n w' a := by
  intro v hv
  obtain ⟨b, off, ra, rc, rl, h1, h2, h3, h4, h5⟩ := h v hv
  refine ⟨b, off, ra, rc, rl, h1, (hb.cell (World.block_lt_of_cell? w _ h2)).trans h2, h3, h4, fun i hi => ?_⟩
  obtain ⟨rb, roff, y, h6, h7, h8, h9⟩ := h5 i hi
  exact ⟨rb, roff, y, h6, (hb.cell (World.block_lt_of_cell? w _ h7)).trans h7, h8, h9⟩

theorem VertAt.adj_lt {R : List (List Int)} {n : Nat} {w : World} {a : Option Addr} (h : VertAt R n w a) : ∀ x, x < n → ∀ y, y ∈ adj R x → y < n := by
  intro x hx y hy
  obtain ⟨b, off, ra, rc, rl, h1, h2, h3, h4, h5⟩ := h x hx
  obtain ⟨i, hi, rfl⟩ := List.mem_iff_getElem.1 hy
  obtain ⟨rb, roff, y, h6, h7, h8, h9⟩ := h5 i (by omega)
  rw [List.getElem?_eq_getElem hi] at h8
  cases h8
  exact h9

/-- What the search holds in memory. -/
structure RM (R : List (List Int)) (n s g : Nat) (w wr : World) (seen : Nat → Bool) (stack : List Nat) (sv : Value) (hold : Nat → Prop) : Prop where
  rf : RF n (adj R) s seen stack hold
  row : HasRow wr g 4 (cellsF n (fun i => .bool (seen i)))
  stk : wr.ownsRow (g + 1) 3 1 sv stack.length (stack.map (fun x : Nat => Value.int .i64 (x : Int)))
  bel : Below g w wr

def ReachPost (R : List (List Int)) (n s : Nat) (w : World) (e : Ending) (w' : World) : Prop := ∃ (seen : Nat → Bool) (g : Nat), e = .returned (.slice (some ⟨g, 0, none⟩) n n) ∧ w.heap.size ≤ g ∧ HasRow w' g 4 (cellsF n (fun i => .bool (seen i))) ∧
  (∀ y, y < n → (seen y = true ↔ Reach (adj R) s y)) ∧ Below w.heap.size w w'

theorem seen_start (n s : Nat) : (cellsF n (fun _ => Value.bool false)).set s (.bool true) = cellsF n (fun i => .bool (upd (fun _ => false) s true i)) := by
  rw [cellsF_set]
  congr 1
  funext i
  unfold upd
  split <;> rfl

theorem cell_one_set (w : World) (a : Addr) (x v : Value) (t : TypeId) : ∀ j u, [v][j]? = some u → ((w.setCell a x).alloc (.cells #[v] t)).cell? ((⟨w.heap.size, 0, none⟩ : Addr).add j) = some u := by
  have h := cell_one_new (w.setCell a x) v t
  have e : (w.setCell a x).heap.size = w.heap.size := by simp [World.setCell]
  rw [e] at h
  exact h

/-- The top of a growing row of vertices. -/
theorem owns_top {w : World} {base : Nat} {v : Value} {st : List Nat} {t : Nat} (hs : w.ownsRow base 3 1 v (st ++ [t]).length ((st ++ [t]).map (fun x : Nat => Value.int .i64 (x : Int)))) :
    ∃ g cap, v = .slice (some ⟨g, 0, none⟩) (st.length + 1) cap ∧ w.cell? ⟨g, st.length, none⟩ = some (.int .i64 t) ∧ st.length + 1 ≤ cap ∧ w.ownsRow base 3 1 (.slice (some ⟨g, 0, none⟩) st.length cap) st.length (st.map (fun x : Nat => Value.int .i64 (x : Int))) := by
  have hl : (st ++ [t]).length = st.length + 1 := by simp
  rw [hl, List.map_append] at hs
  have hs0 := hs
  rcases hs.2 with ⟨_, h2⟩ | ⟨g, cap, cur, h1, _, _, hcap, _⟩
  · omega
  · subst h1
    refine ⟨g, cap, rfl, ?_, hcap, ownsRow_pop (by simp) hs0⟩
    rw [hs0.cellAt st.length (by omega)]
    simp

/-- A push onto it, behind a store into the row below. -/
theorem RM.push {R : List (List Int)} {n s g v y : Nat} {w wr w2 : World} {seen : Nat → Bool} {st : List Nat} {sv sv' : Value} {hold : Nat → Prop} {o : Obj} (M : RM R n s g w wr seen st sv hold) (hv : v < n) (hvs : seen v = true) (hy : y ∈ adj R v) (hyn : y < n) (hyu : seen y = false)
    (hown : w2.ownsRow (g + 1) 3 1 sv' (st.length + 1) (st.map (fun x : Nat => Value.int .i64 (x : Int)) ++ [.int .i64 y])) (hg : ((wr.setCell ⟨g, y, none⟩ (.bool true)).alloc o).grownBy w2 sv.ownBlock) :
    RM R n s g w w2 (upd seen y true) (st ++ [y]) sv' hold := by
  have hlt := M.row.lt
  have hr1 : HasRow (wr.setCell ⟨g, y, none⟩ (.bool true)) g 4 (cellsF n (fun i => .bool (upd seen y true i))) := by
    have := M.row.set y (.bool true)
    rw [cellsF_set, upd_map] at this
    exact this
  have hne : some g ≠ sv.ownBlock := fun e => by have := (M.stk.lt g e.symm).1; omega
  refine ⟨rf_push M.rf hv hvs hy hyn hyu, (hr1.alloc o).grown hg hne, by simpa using hown, ?_⟩
  refine (((M.bel.setCell (Nat.le_refl _) _).alloc ?_ o).grown hg ?_ ?_)
  · have := hr1.lt; omega
  · have := hr1.lt; simp; omega
  · intro k hk
    have := (M.stk.lt k hk).1; omega

set_option maxHeartbeats 1600000 in
theorem reachFrom_any (R : List (List Int)) (a : Option Addr) (n cap s : Nat) (w : World) (hV : VertAt R n w a) (hs : s < n) (hn : n ≤ 65536) :
    Calls Try.prog 27 #[.slice a n cap, .int .i64 s] w fun e w' => ReachPost R n s w e w' := by
  have hmb := fun w => run_make_row' (P := Try.prog) 30 4 (.bool false) 1 Try.underlying30 info4 rfl .i64 .i64 n (by omega) (by omega) w
  obtain ⟨i0, hi, hz0, hz1, hz2⟩ := info_parts info3
  have r0 : HasRow (w.alloc (.cells (madeCells #[.bool false] n) 4)) w.heap.size 4 (cellsF n (fun _ => .bool false)) := by rw [made_eq]; exact HasRow.new _ _ _
  have c0 : (w.alloc (.cells (madeCells #[.bool false] n) 4)).cell? ⟨w.heap.size, s, none⟩ = some (.bool false) := by rw [r0.cell, cellsF_get _ _ _ hs]
  have f0 := r0.frozen s
  go_enter Try.func27, Try.ntmps27
  go_upto_region 3 with fail
  go_cut [] (fun wc => HasRow wc w.heap.size 4 (cellsF n (fun i => .bool (upd (fun _ => false) s true i))) ∧ Below w.heap.size w wc)
  case first =>
    go_wp2_with fail
    go_meet
    rw [made_eq, List.setIfInBounds_toArray, seen_start]
    exact ⟨HasRow.new _ _ _, (Below.refl _ w).alloc (Nat.le_refl _) _⟩
  case rest =>
  clear r0 c0 f0 hmb
  obtain ⟨hrow, hbel⟩ := hcut
  have hlt := hrow.lt
  generalize hg : w.heap.size = g at *
  have HG : Hid _ := hg
  clear hg
  go_wp2_with (first
    | (at_make; refine wpList_make_own _ rfl _ _ 25 rfl (g + 1) 3 i0 (.int .i64 0) 1 Try.underlying25 hi hz0 hz1 _ _ _ n rfl rfl (by omega) (by rw [hz2]; omega) (by unfold maxLen; omega) (by omega) ?_; intro w3 hown3 hgrow3)
    | (at_builtin; refine wpList_append_fresh _ rfl (.tmp 21) (.tmp 23) 25 rfl (g + 1) 3 i0 (.int .i64 0) 1 8 Try.underlying25 hi hz0 hz1 hz2 rfl (by decide) _ _ _ rfl (hown3.alloc _) ⟨_, 0, none⟩ 1 1 [.int .i64 s] rfl rfl (cell_one_new _ _ _) (by intro u hu; simp at hu; subst hu; rfl) (by unfold maxLen; omega) (by omega) (by have := hgrow3.size; simp; omega) ?_; intro sv' w4 hown4 hgrow4 hfr4))
  have hg4 : (w3.alloc (.cells #[.int .i64 s] 3)).grownBy w4 (some wc.heap.size) := hgrow4
  have hsz3 := hgrow3.size
  have hM0 : RM R n s g w w4 (upd (fun _ => false) s true) [s] sv' (fun _ => False) :=
    ⟨rf_start hs, ((hrow.grown hgrow3 (by simp)).alloc _).grown hg4 (by simp; omega), by simpa using hown4,
      ((hbel.grown hgrow3 (by omega) (fun k h => by cases h)).alloc (by omega) _).grown hg4 (by simp; omega) (fun k h => by cases h; omega)⟩
  clear hown4 hgrow4 hg4 hfr4 hown3 hgrow3 hrow hbel
  go_loopg [7] (rfM n (upd (fun _ => false) s true) [s]) (fun gk sv wr => ∃ (seen : Nat → Bool) (stack : List Nat), gk = rfM n seen stack ∧ RM R n s g w wr seen stack sv (fun _ => False))
  case atStart => exact ⟨_, _, rfl, hM0⟩
  case round =>
    clear hM0
    obtain ⟨seen, stack, hgk, M⟩ := hrel
    rcases snoc_cases stack with rfl | ⟨st, v, rfl⟩
    · obtain ⟨a2, cp2, hsv⟩ := owns_shape M.stk
      subst hsv
      have hEnd := M.rf
      have HEnd : Hid _ := hEnd
      clear hgk hEnd
      go_wp2_with fail
      go_ret
      exact ⟨seen, g, rfl, by rw [HG.out]; exact Nat.le_refl _, M.row, fun y hy => rf_end HEnd.out hs hV.adj_lt hy, by rw [HG.out]; exact M.bel⟩
    · obtain ⟨gs, cp, hsv, ctop, hcp, hpop⟩ := owns_top M.stk
      subst hsv
      have hvs := M.rf.stk v (by simp)
      have hstl : (st ++ [v]).length ≤ n := M.rf.len
      have hstl2 : st.length + 1 ≤ n := by simpa using hstl
      have M1 : RM R n s g w wr seen st (.slice (some ⟨gs, 0, none⟩) st.length cp) (fun x => x = v) := ⟨rf_pop M.rf, M.row, hpop, M.bel⟩
      rw [rf_pop_m] at hgk
      have hE := hV.adj_lt
      obtain ⟨b, off, ra, rc, rl, rfl, h2, h3, h4, h5⟩ := hV v hvs.1
      have h2 := (M1.bel.cell (by rw [← HG.out]; exact World.block_lt_of_cell? w _ h2)).trans h2
      have HROW : Hid _ := h3
      have HEL : Hid _ := h5
      have HGK : Hid _ := hgk
      have HE : Hid _ := hE
      clear hgk M hstl h5 h3 hpop hE
      go_wp2_with fail
      go_loopw [7, 10] (fun sv i wr => ∃ (j : Nat) (seen : Nat → Bool) (stack : List Nat), j ≤ rl ∧ i = .int .i64 j ∧ rfM n seen stack < gk ∧ (∀ y, y ∈ (adj R v).take j → seen y = true) ∧ seen v = true ∧ RM R n s g w wr seen stack sv (fun x => x = v)) (fun _ i _ => rl - (intOf i).toNat)
      case atStart => exact ⟨0, seen, st, Nat.zero_le _, rfl, by have := HGK.out; omega, by simp, hvs.2, M1⟩
      case round =>
        clear M1 h2 ctop
        obtain ⟨j, seen, stack, hj, rfl, hm, hdone, hvs2, M⟩ := hrel
        have HD : Hid _ := hdone
        have HM : Hid _ := hm
        clear hdone hm
        by_cases hjl : j < rl
        · obtain ⟨rb, roff, y, rfl, h6, h7, h8⟩ := HEL.out j hjl
          have c6 := (M.bel.cell (by rw [← HG.out]; exact World.block_lt_of_cell? w _ h6)).trans h6
          have cs := M.row.cell y
          rw [cellsF_get _ _ _ h8] at cs
          have fs := M.row.frozen y
          have H7 : Hid _ := h7
          clear h6 h7
          cases hsy : seen y with
          | true =>
            rw [hsy] at cs
            have HSY : Hid _ := hsy
            clear hsy
            go_wp2_with fail
            go_roundw
            case rel => exact ⟨j + 1, seen, stack, by omega, by go_num, HM.out, fun z hz => by
              rcases take_succ_mem H7.out hz with h | rfl
              · exact HD.out z h
              · exact HSY.out, hvs2, M⟩
            case measure => simp [intOf]; omega
          | false =>
            rw [hsy] at cs
            have HSY : Hid _ := hsy
            clear hsy
            have hlen := M.rf.len
            go_wp2_with (at_builtin; refine wpList_append_fresh _ rfl (.tmp 61) (.tmp 63) 25 rfl (g + 1) 3 i0 (.int .i64 0) 1 8 Try.underlying25 hi hz0 hz1 hz2 rfl (by decide) _ _ _ rfl ((ownsRow_setCell_below M.stk (Nat.lt_succ_self _) _).alloc _) ⟨_, 0, none⟩ 1 1 [.int .i64 y] rfl rfl (cell_one_set _ _ _ _ _) (by intro u hu; simp at hu; subst hu; rfl) (by unfold maxLen; omega) (by omega) (by have := M.row.lt; simp; omega) ?_; intro sv2 w5 hown5 hgrow5 hfr5)
            have M2 := M.push hvs.1 hvs2 (List.mem_of_getElem? H7.out) h8 HSY.out hown5 hgrow5
            have hm2 := rf_push_m (n := n) (seen := seen) (st := stack) h8 HSY.out
            have HM2 : Hid _ := hm2
            clear hown5 hgrow5 hfr5 hm2
            go_wp2_with fail
            go_roundw
            case rel => exact ⟨j + 1, _, _, by omega, by go_num, by have := HM.out; have := HM2.out; omega, fun z hz => by
              rcases take_succ_mem H7.out hz with h | rfl
              · by_cases e : z = y
                · subst e; exact upd_same _ _ _
                · rw [upd_other _ _ e]; exact HD.out z h
              · exact upd_same _ _ _, by
                by_cases e : v = y
                · subst e; exact upd_same _ _ _
                · rw [upd_other _ _ e]; exact hvs2, M2⟩
            case measure => simp [intOf]; omega
        · obtain rfl : rl = j := by omega
          have hd := HD.out
          rw [HROW.out, List.take_length] at hd
          have M2 : RM R n s g w wr seen stack _ (fun _ => False) := ⟨rf_done M.rf hd, M.row, M.stk, M.bel⟩
          clear hd
          go_wp2_with fail
          go_roundg (rfM n seen stack)
          case measure => exact HM.out
          case rel => exact ⟨seen, stack, rfl, M2⟩
end Go.Proofs.Qxb6001235a
