import Derived.Test.Qxb6001235aGuards
import Derived.Lib.SliceRun
namespace Go.Proofs.Qxb6001235a
open Go.RowKit Go.Deep

theorem info25 : (Try.prog.info? 25).map (fun i => (i.zero, i.size, i.bytes)) = some (some (.slice none 0 0), 1, 24) := by kernel_rfl

/-- A row that the call itself has made (or nil), above block g. -/
def RowOwn (w : World) (g : Nat) (u : Value) (xs : List Int) : Prop :=
  (u = .slice none 0 0 ∧ xs = []) ∨ ∃ gv, g < gv ∧ u = .slice (some ⟨gv, 0, none⟩) xs.length xs.length ∧ HasRow w gv 3 (xs.map (Value.int .i64))

theorem RowOwn.rowAt {w : World} {g : Nat} {u : Value} {xs : List Int} (h : RowOwn w g u xs) : RowAt w u xs := by
  rcases h with ⟨rfl, rfl⟩ | ⟨gv, _, rfl, hr⟩
  · exact ⟨none, 0, rfl, fun hp => by simp at hp⟩
  · refine ⟨_, _, rfl, fun _ => ⟨gv, 0, rfl, fun i hi => ?_⟩⟩
    rw [Nat.zero_add, hr.cell]
    simp [hi]

theorem RowOwn.below {w w' : World} {g : Nat} {u : Value} {xs : List Int} (h : RowOwn w g u xs) (hb : Below w.heap.size w w') : RowOwn w' g u xs := by
  rcases h with h | ⟨gv, h1, h2, hr⟩
  · exact .inl h
  · exact .inr ⟨gv, h1, h2, hr.below hb hr.lt⟩

theorem RowOwn.store {w : World} {g : Nat} {u : Value} {xs : List Int} (h : RowOwn w g u xs) (j : Nat) (x : Value) : RowOwn (w.setCell ⟨g, j, none⟩ x) g u xs := by
  rcases h with h | ⟨gv, h1, h2, hr⟩
  · exact .inl h
  · exact .inr ⟨gv, h1, h2, hr.other (by simp only []; omega) _⟩

/-- The first k rows are copied. -/
structure Cl (w wr : World) (g n : Nat) (R : List (List Int)) (k : Nat) (F : Nat → Value) : Prop where
  row : HasRow wr g 25 (cellsF n F)
  bel : Below g w wr
  done : ∀ v, v < k → RowOwn wr g (F v) (R.getD v [])
  rest : ∀ v, k ≤ v → F v = .slice none 0 0

theorem Cl.edges {w wr : World} {g n : Nat} {R : List (List Int)} {F : Nat → Value} (h : Cl w wr g n R n F) (hn : n = R.length) : EdgesAt wr (.slice (some ⟨g, 0, none⟩) n n) R := by
  refine ⟨_, n, by rw [hn], fun _ => ⟨g, 0, rfl, fun i hi => ⟨F i, ?_, (h.done i (by omega)).rowAt⟩⟩⟩
  rw [Nat.zero_add, h.row.cell, cellsF_get _ _ _ (by omega)]

/-- The world is only grown below. -/
theorem Cl.skip {w wr : World} {g n : Nat} {R : List (List Int)} {k : Nat} {F : Nat → Value} (h : Cl w wr g n R k F) (hr : R.getD k [] = []) : Cl w wr g n R (k + 1) F := by
  refine ⟨h.row, h.bel, fun v hv => ?_, fun v hv => h.rest v (by omega)⟩
  by_cases e : v = k
  · subst e; exact .inl ⟨h.rest v (Nat.le_refl _), hr⟩
  · exact h.done v (by omega)

theorem Cl.step {w wr wx : World} {g n gv : Nat} {R : List (List Int)} {k : Nat} {F : Nat → Value} {xs : List Int} (h : Cl w wr g n R k F) (hb : Below wr.heap.size wr wx) (hg : g < gv) (hx : R.getD k [] = xs) (hr : HasRow wx gv 3 (xs.map (Value.int .i64))) :
    Cl w (wx.setCell ⟨g, k, none⟩ (.slice (some ⟨gv, 0, none⟩) xs.length xs.length)) g n R (k + 1) (upd F k (.slice (some ⟨gv, 0, none⟩) xs.length xs.length)) := by
  have hgl := h.row.lt
  refine ⟨?_, (h.bel.trans (hb.mono (by omega))).setCell (Nat.le_refl _) _, fun v hv => ?_, fun v hv => ?_⟩
  · rw [← cellsF_set]
    exact (h.row.below hb hgl).set k _
  · by_cases e : v = k
    · subst e
      rw [upd_same, hx]
      exact .inr ⟨gv, hg, rfl, hr.other (by simp only []; omega) _⟩
    · rw [upd_other _ _ e]
      exact ((h.done v (by omega)).below hb).store k _
  · rw [upd_other _ _ (by omega)]
    exact h.rest v (by omega)

theorem cells_row (row : List Int) (j : Nat) (hj : row.length ≤ j) : cellsF row.length (fun t => .int .i64 (if t < j then row.getD t 0 else 0)) = row.map (Value.int .i64) := by
  apply List.ext_getElem?
  intro i
  by_cases hi : i < row.length
  · rw [cellsF_get _ _ _ hi, if_pos (by omega)]
    simp [hi]
  · have h1 : (cellsF row.length (fun t => Value.int .i64 (if t < j then row.getD t 0 else 0)))[i]? = none := by simp [cellsF]; omega
    rw [h1, List.getElem?_eq_none (by simp; omega)]

theorem cells_next (row : List Int) (j : Nat) : upd (fun t => Value.int .i64 (if t < j then row.getD t 0 else 0)) j (.int .i64 (row.getD j 0)) = fun t => .int .i64 (if t < j + 1 then row.getD t 0 else 0) := by
  funext t
  by_cases e : t = j
  · subst e; rw [upd_same, if_pos (by omega)]
  · rw [upd_other _ _ e]
    by_cases h : t < j
    · rw [if_pos h, if_pos (by omega)]
    · rw [if_neg h, if_neg (by omega)]

def ClonePost (w : World) (R : List (List Int)) (e : Ending) (w' : World) : Prop := ∃ ev, e = .returned ev ∧ EdgesAt w' ev R ∧ Below w.heap.size w w'

set_option maxHeartbeats 800000 in
theorem clone_any (R : List (List Int)) (a : Option Addr) (n cap : Nat) (w : World) (he : EdgesAt w (.slice a n cap) R) (hn : n ≤ 131072) (hrl : ∀ v, v < n → (R.getD v []).length ≤ 131072) :
    Calls Try.prog 13 #[.slice a n cap] w fun e w' => ClonePost w R e w' := by
  have hrow := he.row
  have hnil22 := fun (w : World) (a : Option Addr) (n c n' c' : Nat) => Lib.run_eql_slice_nil (P := Try.prog) w 22 25 a n c n' c' Try.underlying22
  have hnil25 := fun (w : World) (a : Option Addr) (n c n' c' : Nat) => Lib.run_eql_slice_nil (P := Try.prog) w 25 3 a n c n' c' Try.underlying25
  have hmk := fun w => run_make_row' (P := Try.prog) 22 25 (.slice none 0 0) 24 Try.underlying22 info25 rfl .i64 .i64 n (by omega) (by omega) w
  cases a with
  | none =>
    have h0 : n = 0 := by
      rcases Nat.eq_zero_or_pos n with h | h
      · exact h
      · obtain ⟨_, _, _, _, h1, _⟩ := hrow.2 0 h
        cases h1
    subst h0
    have hR : Hid _ := List.eq_nil_of_length_eq_zero hrow.1.symm
    clear hrow he hrl
    go_enter Try.func13, Try.ntmps13
    go_wp2
    go_ret
    refine ⟨_, rfl, ?_, Below.refl _ _⟩
    rw [hR.out]
    exact ⟨none, 0, rfl, fun h => by simp at h⟩
  | some x =>
    have HN : Hid _ := hrow.1
    have HR : Hid _ := hrow.2
    have HL : Hid _ := hrl
    clear hrow hrl he
    have hM0 : Cl w (w.alloc (.cells (madeCells #[.slice none 0 0] n) 25)) w.heap.size n R 0 (fun _ => .slice none 0 0) :=
      ⟨by rw [made_eq]; exact HasRow.new _ _ _, (Below.refl _ w).alloc (Nat.le_refl _) _, fun v hv => by omega, fun _ _ => rfl⟩
    go_enter Try.func13, Try.ntmps13
    go_wp2_with fail
    generalize w.alloc (.cells (madeCells #[.slice none 0 0] n) 25) = w1 at *
    generalize hG : w.heap.size = g at *
    have HG : Hid _ := hG
    clear hG hmk
    go_loopw [4] (fun i wr => ∃ (k : Nat) (F : Nat → Value), k ≤ n ∧ i = .int .i64 k ∧ Cl w wr g n R k F) (fun i _ => n - (intOf i).toNat)
    case atStart => exact ⟨0, _, Nat.zero_le _, rfl, hM0⟩
    case round =>
      clear hM0
      obtain ⟨k, F, hk, rfl, C⟩ := hrel
      by_cases hlt : k < n
      · obtain ⟨b, off, ra, rc, hx, hcell, hrow⟩ := HR.out k hlt
        cases hx
        have hl := HL.out k hlt
        obtain ⟨row, hrd⟩ : ∃ row, row = R.getD k [] := ⟨_, rfl⟩
        rw [← hrd] at hcell hl hrow
        have hbg : b < g := by rw [← HG.out]; exact World.block_lt_of_cell? w _ hcell
        have ck := (C.bel.cell (p := ⟨b, off + k, none⟩) hbg).trans hcell
        have HRD : Hid _ := hrd
        have HROW : Hid _ := hrow
        clear hrd hrow hcell
        cases ra with
        | none =>
          have hr0 : Hid (R.getD k [] = []) := by
            show R.getD k [] = []
            rw [← HRD.out]
            rcases Nat.eq_zero_or_pos row.length with h | h
            · exact List.eq_nil_of_length_eq_zero h
            · obtain ⟨_, _, h1, _⟩ := HROW.out h
              cases h1
          go_wp2_with fail
          go_roundw
          case rel => exact ⟨k + 1, F, by omega, by go_num, C.skip hr0.out⟩
          case measure => simp [intOf]; omega
        | some ra =>
          have hmk3 := fun w => run_make_row' (P := Try.prog) 25 3 (.int .i64 0) 8 Try.underlying25 info3 rfl .i64 .i64 row.length (by omega) (by omega) w
          have hgl := C.row.lt
          have hI0 : Below wr.heap.size wr (wr.alloc (.cells (madeCells #[.int .i64 0] row.length) 3)) ∧ HasRow (wr.alloc (.cells (madeCells #[.int .i64 0] row.length) 3)) wr.heap.size 3 (cellsF row.length (fun t => .int .i64 (if t < 0 then row.getD t 0 else 0))) :=
            ⟨(Below.refl _ wr).alloc (Nat.le_refl _) _, by rw [made_eq]; exact HasRow.new _ _ _⟩
          have HI0 : Hid _ := hI0
          clear hI0
          go_wp2_with fail
          have hI0 := HI0.out
          clear HI0
          generalize wr.alloc (.cells (madeCells #[.int .i64 0] row.length) 3) = w2 at *
          generalize hgv : wr.heap.size = gv at *
          have HGV : Hid _ := hgv
          clear hgv hmk3 ck
          go_loopw [7] (fun i wx => ∃ j : Nat, j ≤ row.length ∧ i = .int .i64 j ∧ Below gv wr wx ∧ HasRow wx gv 3 (cellsF row.length (fun t => .int .i64 (if t < j then row.getD t 0 else 0)))) (fun i _ => row.length - (intOf i).toNat)
          case atStart => exact ⟨0, Nat.zero_le _, rfl, hI0.1, hI0.2⟩
          case round =>
            clear hI0
            obtain ⟨j, hj, rfl, hB, hRow⟩ := hrel
            by_cases hjl : j < row.length
            · obtain ⟨rb, roff, hra, hrc⟩ := HROW.out (by omega)
              cases hra
              have hw := hrc j hjl
              have h1 : rb < g := by rw [← HG.out]; exact World.block_lt_of_cell? w _ hw
              have cj := (hB.cell (p := ⟨rb, roff + j, none⟩) (by simp only []; omega)).trans ((C.bel.cell (p := ⟨rb, roff + j, none⟩) h1).trans hw)
              have ct := hRow.cell j
              rw [cellsF_get _ _ _ hjl] at ct
              have ft := hRow.frozen j
              have hst := (hRow.set j (.int .i64 (row.getD j 0)))
              rw [cellsF_set, cells_next] at hst
              obtain ⟨x, hx⟩ : ∃ x, x = row.getD j 0 := ⟨_, rfl⟩
              rw [← hx] at hst cj
              have HST : Hid _ := hst
              have hB2 : Hid _ := hB.setCell (p := ⟨gv, j, none⟩) (Nat.le_refl _) (.int .i64 x)
              clear hrc hw hst hx
              go_wp2_with fail
              go_roundw
              case rel => exact ⟨j + 1, by omega, by go_num, hB2.out, HST.out⟩
              case measure => simp [intOf]; omega
            · obtain rfl : row.length = j := by omega
              rw [cells_row row _ (Nat.le_refl _)] at hRow
              have cg := (C.row.below hB hgl).cell k
              rw [cellsF_get _ _ _ hlt, C.rest k (Nat.le_refl _)] at cg
              have fg := (C.row.below hB hgl).frozen k
              have hC2 := C.step (by rw [HGV.out]; exact hB) hgl HRD.out.symm hRow
              go_wp2_with fail
              go_roundw
              case rel => exact ⟨k + 1, _, by omega, by go_num, hC2⟩
              case measure => simp [intOf]; omega
      · obtain rfl : n = k := by omega
        go_wp2_with fail
        go_ret
        exact ⟨_, rfl, C.edges HN.out, by rw [HG.out]; exact C.bel⟩
end Go.Proofs.Qxb6001235a
