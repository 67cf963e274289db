import Derived.Test.Qxb6001235aVisit
import Derived.Deep.OwnRows
import Derived.Laws.EntriesVeiled
namespace Go.Proofs.Qxb6001235a
open Go.RowKit Go.Deep

theorem info4 : (Try.prog.info? 4).map (fun i => (i.zero, i.size, i.bytes)) = some (some (.bool false), 1, 1) := by kernel_rfl

/-- Blocks laid one behind the other. -/
def allocs : World → List Obj → World
  | w, [] => w
  | w, o :: os => allocs (w.alloc o) os

theorem allocs_heap (os : List Obj) : ∀ w : World, (allocs w os).heap = w.heap ++ os.toArray := by
  induction os with
  | nil => intro w; simp [allocs]
  | cons o os ih =>
    intro w
    rw [allocs, ih]
    show (w.heap.push o) ++ os.toArray = _
    apply Array.ext'
    simp

theorem allocs_get (w : World) (os : List Obj) (k : Nat) : (allocs w os).heap[w.heap.size + k]? = os[k]? := by
  rw [allocs_heap, Array.getElem?_append_right (by omega)]
  simp

theorem allocs_below (os : List Obj) : ∀ w : World, Below w.heap.size w (allocs w os) := by
  induction os with
  | nil => intro w; exact Below.refl _ _
  | cons o os ih =>
    intro w
    have h1 := (Below.refl w.heap.size w).alloc (Nat.le_refl _) o
    exact h1.trans ((ih (w.alloc o)).mono (by simp))

theorem allocs_size (w : World) (os : List Obj) : (allocs w os).heap.size = w.heap.size + os.length := by rw [allocs_heap]; simp

theorem hasRow_allocs (w : World) (os : List Obj) (k : Nat) (e : TypeId) (xs : List Value) (h : os[k]? = some (.cells xs.toArray e (0, 0))) : HasRow (allocs w os) (w.heap.size + k) e xs := by
  unfold HasRow
  rw [allocs_get, h]

theorem made_eq (z : Value) (n : Nat) : madeCells #[z] n = (cellsF n (fun _ => z)).toArray := by
  rw [← cellsF_replicate, ← toList_madeCells_one]

/-- Behind 'order, low := make([]int, n), make([]int, n)', in whatever order: W is the world ahead of it, B the first block of the call's own. -/
structure Two (B n : Nat) (w wc : World) (p9 p10 p1 p2 : Nat) : Prop where
  r9 : HasRow wc (B + p9) 3 (cellsF n (fun _ => .int .i64 0))
  r10 : HasRow wc (B + p10) 3 (cellsF n (fun _ => .int .i64 0))
  r1 : HasRow wc (B + p1) 25 [.slice (some ⟨B + p9, 0, none⟩) n n]
  r2 : HasRow wc (B + p2) 25 [.slice (some ⟨B + p10, 0, none⟩) n n]
  dist : p9 ≠ p10 ∧ p9 ≠ p1 ∧ p9 ≠ p2 ∧ p10 ≠ p1 ∧ p10 ≠ p2 ∧ p1 ≠ p2
  bd : 3 ≤ p9 ∧ p9 < 7 ∧ 3 ≤ p10 ∧ p10 < 7 ∧ 3 ≤ p1 ∧ p1 < 7 ∧ 3 ≤ p2 ∧ p2 < 7
  bel : Below B w wc

/-- The three boxes that lie ahead of it. -/
structure Three (B : Nat) (ev cv : Value) (wc : World) : Prop where
  r5 : HasRow wc B 22 [ev]
  r8 : HasRow wc (B + 1) 25 [cv]
  r7 : HasRow wc (B + 2) 25 [.slice none 0 0]

theorem two_of (w : World) (n : Nat) (os : List Obj) (p9 p10 p1 p2 : Nat) (h9 : os[p9]? = some (.cells (madeCells #[.int .i64 0] n) 3)) (h10 : os[p10]? = some (.cells (madeCells #[.int .i64 0] n) 3))
    (h1 : os[p1]? = some (.cells #[.slice (some ⟨w.heap.size + p9, 0, none⟩) n n] 25)) (h2 : os[p2]? = some (.cells #[.slice (some ⟨w.heap.size + p10, 0, none⟩) n n] 25))
    (hd : p9 ≠ p10 ∧ p9 ≠ p1 ∧ p9 ≠ p2 ∧ p10 ≠ p1 ∧ p10 ≠ p2 ∧ p1 ≠ p2) (hb : 3 ≤ p9 ∧ p9 < 7 ∧ 3 ≤ p10 ∧ p10 < 7 ∧ 3 ≤ p1 ∧ p1 < 7 ∧ 3 ≤ p2 ∧ p2 < 7) : Two w.heap.size n w (allocs w os).drew p9 p10 p1 p2 := by
  rw [made_eq] at h9 h10
  exact ⟨(hasRow_allocs w os p9 3 _ h9).drew, (hasRow_allocs w os p10 3 _ h10).drew, (hasRow_allocs w os p1 25 _ h1).drew, (hasRow_allocs w os p2 25 _ h2).drew, hd, hb, (allocs_below os w).drew⟩

theorem setup_of (w : World) (n : Nat) (a : Option Addr) (cap : Nat) (o3 o4 o5 o6 : Obj) (p9 p10 p1 p2 : Nat)
    (h9 : [Obj.cells #[.slice a n cap] 22, .cells #[.slice none 0 0] 25, .cells #[.slice none 0 0] 25, o3, o4, o5, o6][p9]? = some (.cells (madeCells #[.int .i64 0] n) 3))
    (h10 : [Obj.cells #[.slice a n cap] 22, .cells #[.slice none 0 0] 25, .cells #[.slice none 0 0] 25, o3, o4, o5, o6][p10]? = some (.cells (madeCells #[.int .i64 0] n) 3))
    (h1 : [Obj.cells #[.slice a n cap] 22, .cells #[.slice none 0 0] 25, .cells #[.slice none 0 0] 25, o3, o4, o5, o6][p1]? = some (.cells #[.slice (some ⟨w.heap.size + p9, 0, none⟩) n n] 25))
    (h2 : [Obj.cells #[.slice a n cap] 22, .cells #[.slice none 0 0] 25, .cells #[.slice none 0 0] 25, o3, o4, o5, o6][p2]? = some (.cells #[.slice (some ⟨w.heap.size + p10, 0, none⟩) n n] 25))
    (hd : p9 ≠ p10 ∧ p9 ≠ p1 ∧ p9 ≠ p2 ∧ p10 ≠ p1 ∧ p10 ≠ p2 ∧ p1 ≠ p2) (hb : 3 ≤ p9 ∧ p9 < 7 ∧ 3 ≤ p10 ∧ p10 < 7 ∧ 3 ≤ p1 ∧ p1 < 7 ∧ 3 ≤ p2 ∧ p2 < 7) :
    ∃ q9 q10 q1 q2 : Nat, Value.pointer (some ⟨w.heap.size + p1, 0, none⟩) = .pointer (some ⟨w.heap.size + q1, 0, none⟩) ∧ Value.pointer (some ⟨w.heap.size + p2, 0, none⟩) = .pointer (some ⟨w.heap.size + q2, 0, none⟩) ∧
      Two w.heap.size n w (allocs w [.cells #[.slice a n cap] 22, .cells #[.slice none 0 0] 25, .cells #[.slice none 0 0] 25, o3, o4, o5, o6]).drew q9 q10 q1 q2 ∧
      Three w.heap.size (.slice a n cap) (.slice none 0 0) (allocs w [.cells #[.slice a n cap] 22, .cells #[.slice none 0 0] 25, .cells #[.slice none 0 0] 25, o3, o4, o5, o6]).drew ∧
      (allocs w [.cells #[.slice a n cap] 22, .cells #[.slice none 0 0] 25, .cells #[.slice none 0 0] 25, o3, o4, o5, o6]).drew.heap.size = w.heap.size + 7 :=
  ⟨p9, p10, p1, p2, rfl, rfl, two_of w n _ p9 p10 p1 p2 h9 h10 h1 h2 hd hb,
    ⟨(hasRow_allocs w _ 0 22 [.slice a n cap] rfl).drew, (hasRow_allocs w _ 1 25 [.slice none 0 0] rfl).drew, (hasRow_allocs w _ 2 25 [.slice none 0 0] rfl).drew⟩, allocs_size w _⟩

/-- Behind 'component = make([]int, n)'; F: what 'order' holds. -/
structure Mid (B n : Nat) (ev : Value) (w wc : World) (p9 p10 p1 p2 : Nat) (F : Nat → Value) : Prop where
  r9 : HasRow wc (B + p9) 3 (cellsF n F)
  r10 : HasRow wc (B + p10) 3 (cellsF n (fun _ => .int .i64 0))
  r1 : HasRow wc (B + p1) 25 [.slice (some ⟨B + p9, 0, none⟩) n n]
  r2 : HasRow wc (B + p2) 25 [.slice (some ⟨B + p10, 0, none⟩) n n]
  r5 : HasRow wc B 22 [ev]
  r8 : HasRow wc (B + 1) 25 [.slice (some ⟨B + 7, 0, none⟩) n n]
  r7 : HasRow wc (B + 2) 25 [.slice none 0 0]
  r12 : HasRow wc (B + 7) 3 (cellsF n (fun _ => .int .i64 0))
  dist : p9 ≠ p10 ∧ p9 ≠ p1 ∧ p9 ≠ p2 ∧ p10 ≠ p1 ∧ p10 ≠ p2 ∧ p1 ≠ p2
  bd : 3 ≤ p9 ∧ p9 < 7 ∧ 3 ≤ p10 ∧ p10 < 7 ∧ 3 ≤ p1 ∧ p1 < 7 ∧ 3 ≤ p2 ∧ p2 < 7
  bel : Below B w wc
  size : wc.heap.size = B + 8

theorem mid_of {B n : Nat} {ev : Value} {w wc : World} {p9 p10 p1 p2 : Nat} (t : Two B n w wc p9 p10 p1 p2) (h : Three B ev (.slice none 0 0) wc) (hs : wc.heap.size = B + 7) :
    Mid B n ev w ((wc.setCell ⟨B + 1, 0, none⟩ (.slice (some ⟨B + 7, 0, none⟩) n n)).alloc (.cells (madeCells #[.int .i64 0] n) 3)) p9 p10 p1 p2 (fun _ => .int .i64 0) := by
  have hb := t.bd
  have hs2 : (wc.setCell ⟨B + 1, 0, none⟩ (.slice (some ⟨B + 7, 0, none⟩) n n)).heap.size = B + 7 := by simp [World.setCell, hs]
  refine ⟨(t.r9.other (by simp only []; omega) _).alloc _, (t.r10.other (by simp only []; omega) _).alloc _, (t.r1.other (by simp only []; omega) _).alloc _, (t.r2.other (by simp only []; omega) _).alloc _, (h.r5.other (by simp only []; omega) _).alloc _,
    (h.r8.set 0 _).alloc _, (h.r7.other (by simp only []; omega) _).alloc _, ?_, t.dist, hb, (t.bel.setCell (by simp only []; omega) _).alloc (by omega) _, by simp [hs2]⟩
  have hn := HasRow.new (wc.setCell ⟨B + 1, 0, none⟩ (.slice (some ⟨B + 7, 0, none⟩) n n)) 3 (cellsF n (fun _ => .int .i64 0))
  rw [hs2, ← made_eq] at hn
  exact hn

theorem Mid.store {B n : Nat} {ev : Value} {w wc : World} {p9 p10 p1 p2 : Nat} {F : Nat → Value} (h : Mid B n ev w wc p9 p10 p1 p2 F) (k : Nat) (u : Value) :
    Mid B n ev w (wc.setCell ⟨B + p9, k, none⟩ u) p9 p10 p1 p2 (upd F k u) := by
  have hb := h.bd
  have hd := h.dist
  refine ⟨?_, h.r10.other (by simp only []; omega) _, h.r1.other (by simp only []; omega) _, h.r2.other (by simp only []; omega) _, h.r5.other (by simp only []; omega) _, h.r8.other (by simp only []; omega) _, h.r7.other (by simp only []; omega) _, h.r12.other (by simp only []; omega) _,
    hd, hb, h.bel.setCell (by simp only []; omega) _, by simp [World.setCell, h.size]⟩
  rw [← cellsF_set]
  exact h.r9.set k u

theorem Mid.congr {B n : Nat} {ev : Value} {w wc : World} {p9 p10 p1 p2 : Nat} {F F' : Nat → Value} (h : Mid B n ev w wc p9 p10 p1 p2 F) (hF : ∀ j, j < n → F j = F' j) : Mid B n ev w wc p9 p10 p1 p2 F' := by
  have := h.r9
  rw [cellsF_congr hF] at this
  exact ⟨this, h.r10, h.r1, h.r2, h.r5, h.r8, h.r7, h.r12, h.dist, h.bd, h.bel, h.size⟩

theorem HasRow.allocs {w : World} {g : Nat} {e : TypeId} {xs : List Value} (h : HasRow w g e xs) (os : List Obj) : HasRow (allocs w os) g e xs := h.below (allocs_below os w) h.lt

/-- Where each of the thirteen lies. -/
def posOf (p9 p10 p1 p2 : Nat) : Nat → Nat
  | 0 => 11
  | 1 => p1
  | 2 => p2
  | 3 => 10
  | 4 => 9
  | 5 => 0
  | 6 => 12
  | 7 => 2
  | 8 => 1
  | 9 => p9
  | 10 => p10
  | 11 => 8
  | _ => 7

def cfgOf (w : World) (n : Nat) (ev : Value) (p9 p10 p1 p2 : Nat) : Cfg := { n := n, base := w.heap.size + 13, blk := fun i => w.heap.size + posOf p9 p10 p1 p2 i, ev := ev, w0 := w }

theorem cfg_ok (w : World) (n : Nat) (ev : Value) (p9 p10 p1 p2 : Nat) (hd : p9 ≠ p10 ∧ p9 ≠ p1 ∧ p9 ≠ p2 ∧ p10 ≠ p1 ∧ p10 ≠ p2 ∧ p1 ≠ p2) (hb : 3 ≤ p9 ∧ p9 < 7 ∧ 3 ≤ p10 ∧ p10 < 7 ∧ 3 ≤ p1 ∧ p1 < 7 ∧ 3 ≤ p2 ∧ p2 < 7) : COk (cfgOf w n ev p9 p10 p1 p2) := by
  refine ⟨?_, ?_, ?_⟩
  · intro i j hi hj h
    simp only [cfgOf] at h
    rcases lt13 hi with rfl | rfl | rfl | rfl | rfl | rfl | rfl | rfl | rfl | rfl | rfl | rfl | rfl <;>
      rcases lt13 hj with rfl | rfl | rfl | rfl | rfl | rfl | rfl | rfl | rfl | rfl | rfl | rfl | rfl <;> simp only [posOf] at h <;> omega
  · intro i hi
    simp only [cfgOf]
    rcases lt13 hi with rfl | rfl | rfl | rfl | rfl | rfl | rfl | rfl | rfl | rfl | rfl | rfl | rfl <;> simp only [posOf] <;> omega
  · intro i hi
    simp only [cfgOf]
    omega

theorem tw_start {w wr : World} {n : Nat} {ev : Value} {p9 p10 p1 p2 : Nat} (h : Mid w.heap.size n ev w wr p9 p10 p1 p2 (fun _ => .int .i64 (-1))) :
    TW (cfgOf w n ev p9 p10 p1 p2) (allocs wr [.cells (madeCells #[.bool false] n) 4, .cells #[.slice (some ⟨w.heap.size + 8, 0, none⟩) n n] 30, .cells #[.slice none 0 0] 25, .cells #[.int .i64 0] 3, .cells #[(cfgOf w n ev p9 p10 p1 p2).fv] 37]) start (.slice none 0 0) (.slice none 0 0) := by
  have hs := h.size
  have nw := fun k e xs (hk : [Obj.cells (madeCells #[.bool false] n) 4, .cells #[.slice (some ⟨w.heap.size + 8, 0, none⟩) n n] 30, .cells #[.slice none 0 0] 25, .cells #[.int .i64 0] 3, .cells #[(cfgOf w n ev p9 p10 p1 p2).fv] 37][k]? = some (.cells (List.toArray xs) e (0, 0))) => hasRow_allocs wr _ k e xs hk
  rw [hs] at nw
  refine ⟨?_, World.ownsRow_nil _ _ _ _, World.ownsRow_nil _ _ _ _, .inl rfl, ?_, ?_⟩
  · intro i hi
    rcases lt13 hi with rfl | rfl | rfl | rfl | rfl | rfl | rfl | rfl | rfl | rfl | rfl | rfl | rfl
    · exact nw 3 3 _ rfl
    · exact h.r1.allocs _
    · exact h.r2.allocs _
    · exact nw 2 25 _ rfl
    · exact nw 1 30 _ rfl
    · exact h.r5.allocs _
    · exact nw 4 37 _ rfl
    · exact h.r7.allocs _
    · exact h.r8.allocs _
    · exact h.r9.allocs _
    · exact h.r10.allocs _
    · exact nw 0 4 _ (by rw [made_eq]; rfl)
    · exact h.r12.allocs _
  · exact h.bel.trans ((allocs_below _ wr).mono (by omega))
  · rw [allocs_size, hs]
    simp [cfgOf]

theorem rowAt_of_owns {w : World} {base : Nat} {v : Value} {xs : List Int} (h : w.ownsRow base 3 1 v xs.length (xs.map (Value.int .i64))) : RowAt w v xs := by
  rcases h.2 with ⟨h1, h2⟩ | ⟨g, cap, cur, h1, _⟩
  · exact ⟨none, 0, by rw [h1, h2], fun hp => by omega⟩
  · subst h1
    refine ⟨_, cap, rfl, fun _ => ⟨g, 0, rfl, fun i hi => ?_⟩⟩
    rw [Nat.zero_add, h.cellAt i (by omega)]
    simp [hi]

theorem rowAt_of_cells {w : World} {g n : Nat} {f : Nat → Int} (h : ∀ i, i < n → w.cell? ⟨g, i, none⟩ = some (.int .i64 (f i))) : RowAt w (.slice (some ⟨g, 0, none⟩) n n) ((List.range n).map f) := by
  refine ⟨some ⟨g, 0, none⟩, n, by simp, fun _ => ⟨g, 0, rfl, fun i hi => ?_⟩⟩
  have hi' : i < n := by simpa using hi
  rw [Nat.zero_add, h i hi']
  simp [hi']

set_option maxHeartbeats 1600000 in
set_option maxRecDepth 100000 in
theorem comp_any (R : List (List Int)) (ev : Value) (w : World) (he : EdgesAt w ev R) (small : R.length ≤ 65536) (rowsmall : ∀ v, (R.getD v []).length ≤ 131072) (rng : ∀ v x, x ∈ R.getD v [] → 0 ≤ x ∧ x < R.length) :
    Calls Try.prog 26 #[ev] w fun e w' => ∃ (comp : Nat → Int) (sizes : List Int) (cv zv : Value), e = .returned (.tuple #[cv, zv]) ∧ Comps R.length (adj R) comp sizes ∧ RowAt w' cv ((List.range R.length).map comp) ∧ RowAt w' zv sizes ∧ Below w.heap.size w w' := by
  have he0 := he
  obtain ⟨a, cap, hev, _⟩ := he0
  have gk0 : ∀ c : Cfg, c.n = R.length → c.w0 = w → c.ev = ev → GOk c R := fun c h1 h2 h3 => ⟨h1, small, rowsmall, rng, by rw [h2, h3]; exact he⟩
  subst hev
  have hmk := fun w => run_make_row' (P := Try.prog) 25 3 (.int .i64 0) 8 Try.underlying25 info3 rfl .i64 .i64 R.length (by omega) (by omega) w
  have hmb := fun w => run_make_row' (P := Try.prog) 30 4 (.bool false) 1 Try.underlying30 info4 rfl .i64 .i64 R.length (by omega) (by omega) w
  have GK0 : Hid _ := gk0
  clear gk0 he rowsmall rng
  generalize hRn : R.length = n at *
  clear hRn
  go_enter Try.func26, Try.ntmps26
  go_upto_region 2 with fail
  go_cut [5, 6] (fun s5 s6 wc => ∃ p9 p10 p1 p2 : Nat, s5 = .pointer (some ⟨w.heap.size + p1, 0, none⟩) ∧ s6 = .pointer (some ⟨w.heap.size + p2, 0, none⟩) ∧ Two w.heap.size n w wc p9 p10 p1 p2 ∧ Three w.heap.size (.slice a n cap) (.slice none 0 0) wc ∧ wc.heap.size = w.heap.size + 7)
  case first =>
    go_region
    all_goals
      go_wp2_with fail
      go_meet
      first
        | exact setup_of w n a cap _ _ _ _ 3 4 5 6 rfl rfl rfl rfl (by decide) (by decide)
        | exact setup_of w n a cap _ _ _ _ 3 4 6 5 rfl rfl rfl rfl (by decide) (by decide)
        | exact setup_of w n a cap _ _ _ _ 3 5 4 6 rfl rfl rfl rfl (by decide) (by decide)
        | exact setup_of w n a cap _ _ _ _ 3 5 6 4 rfl rfl rfl rfl (by decide) (by decide)
        | exact setup_of w n a cap _ _ _ _ 3 6 4 5 rfl rfl rfl rfl (by decide) (by decide)
        | exact setup_of w n a cap _ _ _ _ 3 6 5 4 rfl rfl rfl rfl (by decide) (by decide)
        | exact setup_of w n a cap _ _ _ _ 4 3 5 6 rfl rfl rfl rfl (by decide) (by decide)
        | exact setup_of w n a cap _ _ _ _ 4 3 6 5 rfl rfl rfl rfl (by decide) (by decide)
        | exact setup_of w n a cap _ _ _ _ 4 5 3 6 rfl rfl rfl rfl (by decide) (by decide)
        | exact setup_of w n a cap _ _ _ _ 4 5 6 3 rfl rfl rfl rfl (by decide) (by decide)
        | exact setup_of w n a cap _ _ _ _ 4 6 3 5 rfl rfl rfl rfl (by decide) (by decide)
        | exact setup_of w n a cap _ _ _ _ 4 6 5 3 rfl rfl rfl rfl (by decide) (by decide)
        | exact setup_of w n a cap _ _ _ _ 5 3 4 6 rfl rfl rfl rfl (by decide) (by decide)
        | exact setup_of w n a cap _ _ _ _ 5 3 6 4 rfl rfl rfl rfl (by decide) (by decide)
        | exact setup_of w n a cap _ _ _ _ 5 4 3 6 rfl rfl rfl rfl (by decide) (by decide)
        | exact setup_of w n a cap _ _ _ _ 5 4 6 3 rfl rfl rfl rfl (by decide) (by decide)
        | exact setup_of w n a cap _ _ _ _ 5 6 3 4 rfl rfl rfl rfl (by decide) (by decide)
        | exact setup_of w n a cap _ _ _ _ 5 6 4 3 rfl rfl rfl rfl (by decide) (by decide)
        | exact setup_of w n a cap _ _ _ _ 6 3 4 5 rfl rfl rfl rfl (by decide) (by decide)
        | exact setup_of w n a cap _ _ _ _ 6 3 5 4 rfl rfl rfl rfl (by decide) (by decide)
        | exact setup_of w n a cap _ _ _ _ 6 4 3 5 rfl rfl rfl rfl (by decide) (by decide)
        | exact setup_of w n a cap _ _ _ _ 6 4 5 3 rfl rfl rfl rfl (by decide) (by decide)
        | exact setup_of w n a cap _ _ _ _ 6 5 3 4 rfl rfl rfl rfl (by decide) (by decide)
        | exact setup_of w n a cap _ _ _ _ 6 5 4 3 rfl rfl rfl rfl (by decide) (by decide)
  case rest =>
  obtain ⟨p9, p10, p1, p2, rfl, rfl, T2, T3, hsz⟩ := hcut
  go_upto_region 3 with fail
  go_cut [] (fun wc => Mid w.heap.size n (.slice a n cap) w wc p9 p10 p1 p2 (fun _ => .int .i64 0))
  case first =>
    have c8 : ∀ o, (wc.alloc o).cell? ⟨w.heap.size + 1, 0, none⟩ = some (.slice none 0 0) := fun o => (T3.r8.alloc o).cell 0
    have f8 : ∀ o, (wc.alloc o).frozen? ⟨w.heap.size + 1, 0, none⟩ = false := fun o => (T3.r8.alloc o).frozen 0
    go_wp2_with fail
    go_meet
    exact mid_of T2 T3 hsz
  case rest =>
  clear T2 T3 hsz
  have M := hcut
  clear hcut
  go_wp2_with fail
  go_loopw [22] (fun i wr => ∃ k : Nat, k ≤ n ∧ i = .int .i64 k ∧ Mid w.heap.size n (.slice a n cap) w wr p9 p10 p1 p2 (fun j => .int .i64 (if j < k then -1 else 0))) (fun i _ => n - (intOf i).toNat)
  case atStart => exact ⟨0, Nat.zero_le _, rfl, M.congr (fun j _ => by simp)⟩
  case round =>
    clear M
    obtain ⟨k, hk, rfl, M⟩ := hrel
    by_cases hlt : k < n
    · have c1 : wr.cell? ⟨w.heap.size + p1, 0, none⟩ = some (.slice (some ⟨w.heap.size + p9, 0, none⟩) n n) := M.r1.cell 0
      have c9 : wr.cell? ⟨w.heap.size + p9, k, none⟩ = some (.int .i64 0) := by
        rw [M.r9.cell, cellsF_get _ _ _ hlt, if_neg (by omega)]
      have f9 := M.r9.frozen k
      go_wp2_with fail
      go_roundw
      case rel => exact ⟨k + 1, by omega, by go_num, (M.store k (.int .i64 (-1))).congr (fun j _ => by
        by_cases e : j = k
        · subst e; rw [upd_same, if_pos (by omega)]
        · rw [upd_other _ _ e]
          by_cases h : j < k
          · rw [if_pos h, if_pos (by omega)]
          · rw [if_neg h, if_neg (by omega)])⟩
      case measure => simp [intOf]; omega
    · obtain rfl : n = k := by omega
      have M2 := M.congr (F' := fun _ => .int .i64 (-1)) (fun j hj => by rw [if_pos hj])
      clear M
      have hsz := M2.size
      go_upto_region 13 with fail
      go_cut [1, 2, 3, 5, 6, 8, 9, 10, 11] (fun s1 s2 s3 s5 s6 s8 s9 s10 s11 wc => ∃ c : Cfg, COk c ∧ c.n = n ∧ c.w0 = w ∧ c.ev = .slice a n cap ∧
        s1 = .pointer (some ⟨c.blk 5, 0, none⟩) ∧ s2 = .pointer (some ⟨c.blk 8, 0, none⟩) ∧ s3 = .pointer (some ⟨c.blk 7, 0, none⟩) ∧ s5 = .pointer (some ⟨c.blk 1, 0, none⟩) ∧ s6 = .pointer (some ⟨c.blk 2, 0, none⟩) ∧
        s8 = .pointer (some ⟨c.blk 4, 0, none⟩) ∧ s9 = .pointer (some ⟨c.blk 3, 0, none⟩) ∧ s10 = .pointer (some ⟨c.blk 0, 0, none⟩) ∧ s11 = .pointer (some ⟨c.blk 6, 0, none⟩) ∧ TW c wc start (.slice none 0 0) (.slice none 0 0))
      case first =>
        go_wp2_with fail
        go_meet
        exact ⟨cfgOf w n (.slice a n cap) p9 p10 p1 p2, cfg_ok _ _ _ _ _ _ _ M2.dist M2.bd, rfl, rfl, rfl, rfl, rfl, rfl, rfl, rfl, rfl, rfl, rfl, rfl, tw_start M2⟩
      case rest =>
      clear M2 hsz
      obtain ⟨c, ok, hcn, hcw, hce, rfl, rfl, rfl, rfl, rfl, rfl, rfl, rfl, rfl, T⟩ := hcut
      have gk := GK0.out c hcn hcw hce
      subst hcn
      have HCW : Hid _ := hcw
      clear hcw hce GK0
      have I0 := start_inv c.n (adj R)
      go_wp2_with fail
      go_loopw [33] (fun i wr => ∃ (k : Nat) (S : St) (sv zv : Value), k ≤ c.n ∧ i = .int .i64 k ∧ Inv c.n (adj R) (fun _ => False) S ∧ (∀ x, x < k → S.ord x ≠ -1) ∧ TW c wr S sv zv) (fun i _ => c.n - (intOf i).toNat)
      case atStart => exact ⟨0, start, _, _, Nat.zero_le _, rfl, I0, fun x hx => by omega, T⟩
      case round =>
        clear T I0
        obtain ⟨k, S, sv, zv, hk, rfl, I, hall, T⟩ := hrel
        have HALL : Hid _ := hall
        clear hall
        by_cases hlt : k < c.n
        · have c1 := T.c1
          have c9 := T.c9 k hlt
          by_cases hnew : S.ord k = -1
          · rw [hnew] at c9
            have c6 := T.c6
            unfold Cfg.fv at c6
            have pre : Pre c.n (adj R) (fun _ => False) S k := ⟨I, hlt, hnew, fun _ h => h.elim⟩
            have HN : Hid _ := hnew
            clear hnew
            go_wp2_with (go_at_call 30; refine (visit_any c R ok gk c.n (fun _ => False) S k sv zv _ (by omega) pre T).mono ?_; rintro e w' ⟨rfl, S2, sv3, zv3, P2, T2⟩)
            go_roundw
            case rel => exact ⟨k + 1, S2, sv3, zv3, by omega, by go_num, P2.inv, fun x hx => by
              by_cases e : x = k
              · subst e; exact P2.vis
              · have h0 := HALL.out x (by omega)
                rw [P2.ordk x (by omega) h0]; exact h0, T2⟩
            case measure => simp [intOf]; omega
          · have hb : (S.ord k == -1) = false := by simpa using hnew
            go_wp2_with fail
            go_roundw
            case rel => exact ⟨k + 1, S, sv, zv, by omega, by go_num, I, fun x hx => by
              by_cases e : x = k
              · subst e; exact hnew
              · exact HALL.out x (by omega), T⟩
            case measure => simp [intOf]; omega
        · obtain rfl : c.n = k := by omega
          obtain ⟨az, cz, hzv⟩ := owns_shape T.siz
          subst hzv
          have c8 := T.c8
          have c7 := T.c7
          have f8 := T.frozen 8 (by omega) 0
          have f7 := T.frozen 7 (by omega) 0
          have e1 := ok.ne 8 7 (by omega) (by omega) (by omega)
          have e2 := ok.ne 7 8 (by omega) (by omega) (by omega)
          have T2 := ((T.store ok 8 (by omega) 0 (.slice (some ⟨c.blk 12, 0, none⟩) c.n c.n) rfl (fun _ _ _ => rfl) T.stk T.siz T.sep).store ok 7 (by omega) 0 (.slice az S.sizes.length cz) rfl (fun _ _ _ => rfl) (ownsRow_setCell_below T.stk (ok.lt 8 (by omega)) _) (ownsRow_setCell_below T.siz (ok.lt 8 (by omega)) _) T.sep).drew
          have q8 : Hid _ := T2.c8
          have q7 : Hid _ := T2.c7
          go_wp2_with fail
          go_region
          all_goals go_wp2_with fail
          all_goals
            refine bodyPost_ret (v := .tuple #[.slice (some ⟨c.blk 12, 0, none⟩) c.n c.n, .slice az S.sizes.length cz]) (by have q8 := q8.out; have q7 := q7.out; simp [results, Try.results26, go_sem, q8, q7]) rfl ?_
            exact ⟨S.comp, S.sizes, _, _, rfl, comps_of I HALL.out, rowAt_of_cells (fun i hi => T2.c12 i hi), rowAt_of_owns T2.siz, by have := T2.bel; rw [HCW.out] at this; exact this⟩

set_option maxHeartbeats 400000 in
/-- 'ZZComponents' hands on. -/
theorem zzComp_any (R : List (List Int)) (ev : Value) (w : World) (he : EdgesAt w ev R) (small : R.length ≤ 65536) (rowsmall : ∀ v, (R.getD v []).length ≤ 131072) (rng : ∀ v x, x ∈ R.getD v [] → 0 ≤ x ∧ x < R.length) :
    Calls Try.prog 14 #[ev] w fun e w' => ∃ (comp : Nat → Int) (sizes : List Int) (cv zv : Value), e = .returned (.tuple #[cv, zv]) ∧ Comps R.length (adj R) comp sizes ∧ RowAt w' cv ((List.range R.length).map comp) ∧ RowAt w' zv sizes ∧ Below w.heap.size w w' := by
  have HR : Hid (∀ v, (R.getD v []).length ≤ 131072) := rowsmall
  have HG : Hid (∀ v x, x ∈ R.getD v [] → 0 ≤ x ∧ x < R.length) := rng
  obtain ⟨Q, hQ⟩ : ∃ Q : Prop, Q = ((∀ v, (R.getD v []).length ≤ 131072) ∧ ∀ v x, x ∈ R.getD v [] → 0 ≤ x ∧ x < R.length) := ⟨_, rfl⟩
  have q : Q := by rw [hQ]; exact ⟨rowsmall, rng⟩
  clear rowsmall rng HR HG
  go_enter Try.func14, Try.ntmps14
  go_wp2_with (go_at_call 26; refine (comp_any R ev w he small (hQ ▸ q : _ ∧ _).1 (hQ ▸ q : _ ∧ _).2).mono ?_; rintro e w' ⟨comp, sizes, cv, zv, rfl, hc, h1, h2, hb⟩)
  go_ret2
  exact ⟨comp, sizes, cv, zv, rfl, hc, h1, h2, hb⟩
end Go.Proofs.Qxb6001235a
