import Derived.Test.Qxb6001235aCircWalk
namespace Go.Proofs.Qxb6001235a
open Go.RowKit Go.Deep Go.Maps

theorem cw_start (w : World) (n start : Nat) (ev cv : Value) :
    CW w w.heap.size n start ev cv (allocs w [.cells #[ev] 22, .cells #[cv] 25, .cells #[.int .i64 (start : Int)] 3, .cells #[.int .i64 (start : Int)] 3, .cells #[.slice (some ⟨w.heap.size + 3, 0, none⟩) 1 1] 25, .map #[] 0, .cells #[.map (some (w.heap.size + 5))] 35, .cells #[fvC w.heap.size] 38])
      (fun _ => false) [start] (.slice (some ⟨w.heap.size + 3, 0, none⟩) 1 1) := by
  have nw := fun k e xs (hk : [Obj.cells #[ev] 22, .cells #[cv] 25, .cells #[.int .i64 (start : Int)] 3, .cells #[.int .i64 (start : Int)] 3, .cells #[.slice (some ⟨w.heap.size + 3, 0, none⟩) 1 1] 25, .map #[] 0, .cells #[.map (some (w.heap.size + 5))] 35, .cells #[fvC w.heap.size] 38][k]? = some (.cells (List.toArray xs) e (0, 0))) => hasRow_allocs w _ k e xs hk
  have hm : BMap (allocs w [.cells #[ev] 22, .cells #[cv] 25, .cells #[.int .i64 (start : Int)] 3, .cells #[.int .i64 (start : Int)] 3, .cells #[.slice (some ⟨w.heap.size + 3, 0, none⟩) 1 1] 25, .map #[] 0, .cells #[.map (some (w.heap.size + 5))] 35, .cells #[fvC w.heap.size] 38]) (w.heap.size + 5) n (fun _ => false) := by
    have h := ((BMap.start (allocs w [.cells #[ev] 22, .cells #[cv] 25, .cells #[.int .i64 (start : Int)] 3, .cells #[.int .i64 (start : Int)] 3, .cells #[.slice (some ⟨w.heap.size + 3, 0, none⟩) 1 1] 25]) n).alloc (.cells #[.map (some (w.heap.size + 5))] 35)).alloc (.cells #[fvC w.heap.size] 38)
    rw [allocs_size] at h
    exact h
  refine ⟨nw 0 22 [ev] rfl, nw 1 25 [cv] rfl, nw 2 3 [.int .i64 (start : Int)] rfl, nw 4 25 _ rfl, nw 6 35 _ rfl, nw 7 38 [fvC w.heap.size] rfl, hm, ?_, ?_, allocs_below _ w, by rw [allocs_size]; simp⟩
  · refine ⟨rfl, .inr ⟨w.heap.size + 3, 1, #[.int .i64 (start : Int)], rfl, by omega, ?_, Nat.le_refl _, by unfold maxLen; omega, rfl, rfl⟩⟩
    exact nw 3 3 [.int .i64 (start : Int)] rfl
  · intro k hk
    cases hk
    exact .inl rfl

/-- The path, as a law reads it. -/
def PathAt (w : World) (path : List Nat) (pa : Option Addr) : Prop := ∀ i, i < path.length → ∃ b off, pa = some ⟨b, off, none⟩ ∧ w.cell? ⟨b, off + i, none⟩ = some (.int .i64 ((path.getD i 0 : Nat) : Int))

theorem pathAt_of {w : World} {base : Nat} {pa : Option Addr} {cp : Nat} {path : List Nat} (h : w.ownsRow base 3 1 (.slice pa path.length cp) path.length (path.map (fun x : Nat => Value.int .i64 (x : Int)))) : PathAt w path pa := by
  intro i hi
  have h0 := h
  rcases h.2 with ⟨h1, h2⟩ | ⟨g, cap, cur, h1, _⟩
  · omega
  · injection h1 with h3 _ h4
    subst h3 h4
    refine ⟨g, 0, rfl, ?_⟩
    rw [Nat.zero_add, h0.cellAt i (by omega)]
    simp [hi]

theorem PathAt.below {w w' : World} {path : List Nat} {pa : Option Addr} (h : PathAt w path pa) (hb : Below w.heap.size w w') : PathAt w' path pa := by
  intro i hi
  obtain ⟨b, off, h1, h2⟩ := h i hi
  exact ⟨b, off, h1, (hb.cell (World.block_lt_of_cell? w _ h2)).trans h2⟩

def ThroughPost (R : List (List Int)) (n : Nat) (comp : Nat → Int) (start : Nat) (w : World) (e : Ending) (w' : World) : Prop :=
  ∃ (path : List Nat) (pa : Option Addr) (cp : Nat), e = .returned (.slice pa path.length cp) ∧ PathAt w' path pa ∧ Found n (adj R) comp start path ∧ Below w.heap.size w w'

set_option maxHeartbeats 800000 in
set_option maxRecDepth 100000 in
theorem through_any (R : List (List Int)) (n : Nat) (comp : Nat → Int) (sizes : List Int) (start : Nat) (w : World) (a : Option Addr) (cap : Nat) (ca : Option Addr) (cc : Nat) (small : n ≤ 65536) (sn : start < n) (hV : VertAt R n w a) (hC : CompAt n comp w ca)
    (hcomps : Comps n (adj R) comp sizes) (hcirc : (∃ y, y < n ∧ y ≠ start ∧ comp y = comp start) ∨ start ∈ adj R start) :
    Calls Try.prog 28 #[.slice a n cap, .slice ca n cc, .int .i64 (start : Int)] w fun e w' => ThroughPost R n comp start w e w' := by
  have hmm := @run_makeMap Try.prog
  have cg : CG R n comp start w w.heap.size a cap ca cc := ⟨rfl, small, sn, hV, hC⟩
  have cw0 := cw_start w n start (.slice a n cap) (.slice ca n cc)
  have CW0 : Hid _ := cw0
  have HC : Hid _ := hcirc
  clear cw0 hcirc
  go_enter Try.func28, Try.ntmps28
  go_upto_region 4 with fail
  go_cut [3, 4, 5, 7, 8, 9] (fun s3 s4 s5 s7 s8 s9 wc => ∃ B, w.heap.size = B ∧ s3 = .pointer (some ⟨B, 0, none⟩) ∧ s4 = .pointer (some ⟨B + 1, 0, none⟩) ∧ s5 = .pointer (some ⟨B + 2, 0, none⟩) ∧ s7 = .pointer (some ⟨B + 4, 0, none⟩) ∧ s8 = .pointer (some ⟨B + 6, 0, none⟩) ∧ s9 = .pointer (some ⟨B + 7, 0, none⟩) ∧
    CW w B n start (.slice a n cap) (.slice ca n cc) wc (fun _ => false) [start] (.slice (some ⟨B + 3, 0, none⟩) 1 1))
  case first =>
    go_wp2_with fail
    go_meet
    exact ⟨_, rfl, rfl, rfl, rfl, rfl, rfl, rfl, CW0.out⟩
  case rest =>
  obtain ⟨B, hB, rfl, rfl, rfl, rfl, rfl, rfl, cw⟩ := hcut
  rw [hB] at cg
  clear CW0 hmm
  have HB : Hid _ := hB
  clear hB
  have cW : wc.cell? ⟨B + 7, 0, none⟩ = some (fvC B) := cw.rW.cell 0
  unfold fvC at cW
  have cS : wc.cell? ⟨B + 2, 0, none⟩ = some (.int .i64 (start : Int)) := cw.rS.cell 0
  have pre : CPre n (adj R) comp start (fun _ => false) [start] start := ⟨sn, sn, (fun y hy => by cases hy), ⟨⟨[], rfl⟩, ⟨[], rfl, by simp, by simp⟩, trivial⟩⟩
  go_wp2_with fail
  refine (walk_any R n comp start w B a cap ca cc cg _ (fun _ => false) [start] start _ wc (Nat.le_refl _) pre cw).mono ?_
  rintro e w2 ⟨res, vis2, path2, pv2, rfl, cw2, hT, hF⟩
  have hfound : Found n (adj R) comp start path2 := by
    cases res with
    | true => exact hT rfl
    | false => exact (no_miss hcomps sn hV.adj_lt (hF rfl).2 HC.out).elim
  clear hT hF cw cW cS
  obtain ⟨pa, cp, hpv⟩ := owns_shape cw2.own
  subst hpv
  have cP : w2.cell? ⟨B + 4, 0, none⟩ = some (.slice pa path2.length cp) := cw2.rP.cell 0
  go_wp2_with fail
  go_ret
  exact ⟨path2, pa, cp, rfl, pathAt_of cw2.own, hfound, by rw [HB.out]; exact cw2.bel⟩

set_option maxHeartbeats 400000 in
theorem zzThrough_any (R : List (List Int)) (n : Nat) (comp : Nat → Int) (sizes : List Int) (start : Nat) (w : World) (a : Option Addr) (cap : Nat) (ca : Option Addr) (cc : Nat) (small : n ≤ 65536) (sn : start < n) (hV : VertAt R n w a) (hC : CompAt n comp w ca)
    (hcomps : Comps n (adj R) comp sizes) (hcirc : (∃ y, y < n ∧ y ≠ start ∧ comp y = comp start) ∨ start ∈ adj R start) :
    Calls Try.prog 20 #[.slice a n cap, .slice ca n cc, .int .i64 (start : Int)] w fun e w' => ThroughPost R n comp start w e w' := by
  obtain ⟨Q, hQ⟩ : ∃ Q : Prop, Q = ((∃ y, y < n ∧ y ≠ start ∧ comp y = comp start) ∨ start ∈ adj R start) := ⟨_, rfl⟩
  have q : Q := by rw [hQ]; exact hcirc
  have HQ : Hid _ := hQ
  clear hcirc hQ
  go_enter Try.func20, Try.ntmps20
  go_wp2_with fail
  refine (through_any R n comp sizes start w a cap ca cc small sn hV hC hcomps (by rw [HQ.out] at q; exact q)).mono ?_
  rintro e w2 ⟨path, pa, cp, rfl, h1, h2, h3⟩
  go_wp2_with fail
  go_ret
  exact ⟨path, pa, cp, rfl, h1, h2, h3⟩

theorem ret_bool {a b : Bool} (h : a = b) : Ending.returned (.bool a) = .returned (.bool b) := by rw [h]

set_option maxHeartbeats 400000 in
theorem hasEdge_any (R : List (List Int)) (n : Nat) (w : World) (a : Option Addr) (cap u x : Nat) (hV : VertAt R n w a) (hu : u < n) :
    Calls Try.prog 19 #[.slice a n cap, .int .i64 (u : Int), .int .i64 (x : Int)] w fun e w' => e = .returned (.bool (decide (x ∈ adj R u))) ∧ w = w' := by
  obtain ⟨b, off, ra, rc, rl, rfl, h2, h3, h4, h5⟩ := hV u hu
  have HRL : Hid _ := h3
  have HEL : Hid _ := h5
  clear h3 h5 hV
  go_enter Try.func19, Try.ntmps19
  go_wp2_with fail
  go_loop [8] (fun i => ∃ k : Nat, k ≤ rl ∧ i = .int .i64 k ∧ ∀ y, y ∈ (adj R u).take k → y ≠ x) (fun i => rl - (intOf i).toNat)
  case atStart => exact ⟨0, Nat.zero_le _, rfl, by simp⟩
  case round =>
    obtain ⟨k, hk, rfl, hno⟩ := hrel
    have HNO : Hid _ := hno
    clear hno
    by_cases hlt : k < rl
    · obtain ⟨rb, roff, y, rfl, h6, h7, hyn⟩ := HEL.out k hlt
      have H7 : Hid _ := h7
      clear h7
      by_cases e : y = x
      · subst e
        go_wp2_with fail
        go_ret
        exact ⟨ret_bool (decide_eq_true (List.mem_of_getElem? H7.out)).symm, rfl⟩
      · have hb : ((y : Int) == (x : Int)) = false := by simp; omega
        have HE : Hid _ := e
        clear e
        go_wp2_with fail
        go_round
        case rel => exact ⟨k + 1, by omega, by go_num, fun z hz => by
          rcases take_succ_mem H7.out hz with h | rfl
          · exact HNO.out z h
          · exact HE.out⟩
        case measure => simp [intOf]; omega
    · obtain rfl : rl = k := by omega
      go_wp2_with fail
      go_ret
      have hno := HNO.out
      rw [HRL.out, List.take_length] at hno
      exact ⟨ret_bool (decide_eq_false (fun h => hno x h rfl)).symm, rfl⟩
end Go.Proofs.Qxb6001235a
