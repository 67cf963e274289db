import Derived.WalkKit
import Derived.WalkSmall
import Derived.Test.Qxb6001235aGraph
namespace Go.Proofs.Qxb6001235a
open Go.RowKit

/-- Block g is a row of cells of the element type e, not frozen, and holds just xs. -/
def HasRow (w : World) (g : Nat) (e : TypeId) (xs : List Value) : Prop := w.heap[g]? = some (.cells xs.toArray e (0, 0))

theorem HasRow.of_owns {w : World} {base g n : Nat} {e : TypeId} {xs : List Value} (h : w.ownsRow base e 1 (.slice (some ⟨g, 0, none⟩) n n) n xs) : HasRow w g e xs := by
  rcases h.2 with ⟨h', _⟩ | ⟨g', cap', cur, h', _, hg, _, _, hcs, htake⟩
  · simp at h'
  · simp only [Value.slice.injEq, Option.some.injEq, Addr.mk.injEq, and_true, true_and] at h'
    obtain ⟨rfl, rfl⟩ := h'
    have e1 : cur.toList = xs := by
      rw [← htake, List.take_of_length_le]
      rw [Array.length_toList, hcs]; omega
    unfold HasRow
    rw [hg, ← e1]

theorem HasRow.cell {w : World} {g : Nat} {e : TypeId} {xs : List Value} (h : HasRow w g e xs) (j : Nat) : w.cell? ⟨g, j, none⟩ = xs[j]? := by
  unfold HasRow at h
  simp [World.cell?, h]

theorem HasRow.frozen {w : World} {g : Nat} {e : TypeId} {xs : List Value} (h : HasRow w g e xs) (j : Nat) : w.frozen? ⟨g, j, none⟩ = false := by
  unfold HasRow at h
  simp [World.frozen?, h]

theorem HasRow.lt {w : World} {g : Nat} {e : TypeId} {xs : List Value} (h : HasRow w g e xs) : g < w.heap.size := by
  unfold HasRow at h
  exact (Array.getElem?_eq_some_iff.1 h).1

theorem HasRow.set {w : World} {g : Nat} {e : TypeId} {xs : List Value} (h : HasRow w g e xs) (j : Nat) (u : Value) : HasRow (w.setCell ⟨g, j, none⟩ u) g e (xs.set j u) := by
  unfold HasRow at h ⊢
  rw [heap_setCell_same w g j _ e u h]
  simp

theorem HasRow.other {w : World} {g : Nat} {e : TypeId} {xs : List Value} (h : HasRow w g e xs) {a : Addr} (ha : g ≠ a.block) (u : Value) : HasRow (w.setCell a u) g e xs := by
  unfold HasRow at h ⊢
  rw [heap_setCell_other w a g u (fun e => ha e), h]

theorem HasRow.below {w w' : World} {B g : Nat} {e : TypeId} {xs : List Value} (h : HasRow w g e xs) (hb : Below B w w') (hg : g < B) : HasRow w' g e xs := by
  unfold HasRow at h ⊢
  rw [hb.block g hg, h]

theorem HasRow.grown {w w' : World} {g : Nat} {e : TypeId} {xs : List Value} {row : Option Nat} (h : HasRow w g e xs) (hg : w.grownBy w' row) (hr : some g ≠ row) : HasRow w' g e xs := by
  have := h.lt
  unfold HasRow at h ⊢
  rw [hg.block g this hr, h]

theorem HasRow.alloc {w : World} {g : Nat} {e : TypeId} {xs : List Value} (h : HasRow w g e xs) (o : Obj) : HasRow (w.alloc o) g e xs := by
  have := h.lt
  unfold HasRow at h ⊢
  rw [Below.heap_alloc w o g this, h]

theorem HasRow.new (w : World) (e : TypeId) (xs : List Value) : HasRow (w.alloc (.cells xs.toArray e)) w.heap.size e xs := heap_alloc_new w _

theorem HasRow.drewN {w : World} {g : Nat} {e : TypeId} {xs : List Value} (h : HasRow w g e xs) (n : Nat) : HasRow (w.drewN n) g e xs := h
theorem HasRow.drew {w : World} {g : Nat} {e : TypeId} {xs : List Value} (h : HasRow w g e xs) : HasRow w.drew g e xs := h

/-- A row of n cells, by a function. -/
def cellsF (n : Nat) (F : Nat → Value) : List Value := (List.range n).map F
theorem cellsF_len (n : Nat) (F : Nat → Value) : (cellsF n F).length = n := by simp [cellsF]
theorem cellsF_get (n : Nat) (F : Nat → Value) (j : Nat) (h : j < n) : (cellsF n F)[j]? = some (F j) := by simp [cellsF, h]
theorem cellsF_set (n : Nat) (F : Nat → Value) (j : Nat) (u : Value) : (cellsF n F).set j u = cellsF n (upd F j u) := by
  apply List.ext_getElem?
  intro i
  rw [List.getElem?_set]
  by_cases hi : i < n
  · rw [cellsF_get n (upd F j u) i hi]
    by_cases e : j = i
    · subst e; rw [if_pos rfl, cellsF_len, if_pos hi, upd_same]
    · rw [if_neg e, cellsF_get n F i hi, upd_other _ _ (fun h => e h.symm)]
  · have h1 : (cellsF n F)[i]? = none := by simp [cellsF]; omega
    have h2 : (cellsF n (upd F j u))[i]? = none := by simp [cellsF]; omega
    rw [h1, h2]
    by_cases e : j = i
    · subst e; rw [if_pos rfl, cellsF_len, if_neg hi]
    · rw [if_neg e]
theorem cellsF_congr {n : Nat} {F F' : Nat → Value} (h : ∀ j, j < n → F j = F' j) : cellsF n F = cellsF n F' := by
  unfold cellsF
  exact List.map_congr_left (fun a ha => h a (List.mem_range.1 ha))
theorem cellsF_replicate (n : Nat) (u : Value) : List.replicate n u = cellsF n (fun _ => u) := by
  apply List.ext_getElem?
  intro i
  by_cases hi : i < n
  · rw [cellsF_get n _ i hi]; simp [hi]
  · simp [cellsF, hi]

theorem upd_map {α β : Type} (g : α → β) (f : Nat → α) (i : Nat) (a : α) : upd (fun j => g (f j)) i (g a) = fun j => g (upd f i a j) := by
  funext j
  unfold upd
  split <;> rfl

/-! ### A slice of slices that is only read -/
/-- The value v is a slice of the numbers xs. -/
def RowAt (w : World) (v : Value) (xs : List Int) : Prop :=
  ∃ a cap, v = .slice a xs.length cap ∧ (0 < xs.length → ∃ b off, a = some ⟨b, off, none⟩ ∧ ∀ i, i < xs.length → w.cell? ⟨b, off + i, none⟩ = some (.int .i64 (xs.getD i 0)))

/-- The value v is a slice of the rows R. -/
def EdgesAt (w : World) (v : Value) (R : List (List Int)) : Prop :=
  ∃ a cap, v = .slice a R.length cap ∧ (0 < R.length → ∃ b off, a = some ⟨b, off, none⟩ ∧ ∀ i, i < R.length → ∃ u, w.cell? ⟨b, off + i, none⟩ = some u ∧ RowAt w u (R.getD i []))

theorem RowAt.below {w w' : World} {v : Value} {xs : List Int} (h : RowAt w v xs) (hb : Below w.heap.size w w') : RowAt w' v xs := by
  obtain ⟨a, cap, rfl, hc⟩ := h
  refine ⟨a, cap, rfl, fun hp => ?_⟩
  obtain ⟨b, off, rfl, hcell⟩ := hc hp
  exact ⟨b, off, rfl, fun i hi => by rw [hb.cell (World.block_lt_of_cell? w _ (hcell i hi))]; exact hcell i hi⟩

theorem EdgesAt.below {w w' : World} {v : Value} {R : List (List Int)} (h : EdgesAt w v R) (hb : Below w.heap.size w w') : EdgesAt w' v R := by
  obtain ⟨a, cap, rfl, hc⟩ := h
  refine ⟨a, cap, rfl, fun hp => ?_⟩
  obtain ⟨b, off, rfl, hcell⟩ := hc hp
  refine ⟨b, off, rfl, fun i hi => ?_⟩
  obtain ⟨u, hu, hr⟩ := hcell i hi
  exact ⟨u, by rw [hb.cell (World.block_lt_of_cell? w _ hu)]; exact hu, hr.below hb⟩

/-! ### The memory of 'components' -/
structure Cfg where
  n : Nat
  base : Nat
  blk : Nat → Nat
  ev : Value
  w0 : World

/-- The value of the closure 'visit'. -/
def Cfg.fv (c : Cfg) : Value := .func (Fn.func 30) #[] #[.pointer (some ⟨c.blk 0, 0, none⟩), .pointer (some ⟨c.blk 1, 0, none⟩), .pointer (some ⟨c.blk 2, 0, none⟩), .pointer (some ⟨c.blk 3, 0, none⟩), .pointer (some ⟨c.blk 4, 0, none⟩),
  .pointer (some ⟨c.blk 5, 0, none⟩), .pointer (some ⟨c.blk 6, 0, none⟩), .pointer (some ⟨c.blk 7, 0, none⟩), .pointer (some ⟨c.blk 8, 0, none⟩)]

def blkTy : Nat → TypeId
  | 0 => 3
  | 1 => 25
  | 2 => 25
  | 3 => 25
  | 4 => 30
  | 5 => 22
  | 6 => 37
  | 7 => 25
  | 8 => 25
  | 9 => 3
  | 10 => 3
  | 11 => 4
  | _ => 3

def conts (c : Cfg) (S : St) (sv zv : Value) : Nat → List Value
  | 0 => [.int .i64 S.next]
  | 1 => [.slice (some ⟨c.blk 9, 0, none⟩) c.n c.n]
  | 2 => [.slice (some ⟨c.blk 10, 0, none⟩) c.n c.n]
  | 3 => [sv]
  | 4 => [.slice (some ⟨c.blk 11, 0, none⟩) c.n c.n]
  | 5 => [c.ev]
  | 6 => [c.fv]
  | 7 => [zv]
  | 8 => [.slice (some ⟨c.blk 12, 0, none⟩) c.n c.n]
  | 9 => cellsF c.n (fun i => .int .i64 (S.ord i))
  | 10 => cellsF c.n (fun i => .int .i64 (S.low i))
  | 11 => cellsF c.n (fun i => .bool (S.on i))
  | _ => cellsF c.n (fun i => .int .i64 (S.comp i))

structure COk (c : Cfg) : Prop where
  inj : ∀ i j, i < 13 → j < 13 → c.blk i = c.blk j → i = j
  lt : ∀ i, i < 13 → c.blk i < c.base
  ge : ∀ i, i < 13 → c.w0.heap.size ≤ c.blk i

theorem COk.ne {c : Cfg} (h : COk c) (i j : Nat) (hi : i < 13) (hj : j < 13) (hij : i ≠ j) : c.blk i ≠ c.blk j := fun e => hij (h.inj i j hi hj e)

structure TW (c : Cfg) (w : World) (S : St) (sv zv : Value) : Prop where
  rows : ∀ i, i < 13 → HasRow w (c.blk i) (blkTy i) (conts c S sv zv i)
  stk : w.ownsRow c.base 3 1 sv S.stack.length (S.stack.map (fun x : Nat => Value.int .i64 (x : Int)))
  siz : w.ownsRow c.base 3 1 zv S.sizes.length (S.sizes.map (Value.int .i64))
  sep : sv.ownBlock = none ∨ sv.ownBlock ≠ zv.ownBlock
  bel : Below c.w0.heap.size c.w0 w
  big : c.base ≤ w.heap.size

theorem lt13 {i : Nat} (h : i < 13) : i = 0 ∨ i = 1 ∨ i = 2 ∨ i = 3 ∨ i = 4 ∨ i = 5 ∨ i = 6 ∨ i = 7 ∨ i = 8 ∨ i = 9 ∨ i = 10 ∨ i = 11 ∨ i = 12 := by omega

/-- A store into one of the thirteen. -/
theorem TW.store {c : Cfg} (ok : COk c) {w : World} {S S' : St} {sv zv sv' zv' : Value} (h : TW c w S sv zv) (i : Nat) (hi : i < 13) (j : Nat) (u : Value)
    (h1 : conts c S' sv' zv' i = (conts c S sv zv i).set j u) (h2 : ∀ k, k < 13 → k ≠ i → conts c S' sv' zv' k = conts c S sv zv k)
    (hs : w.ownsRow c.base 3 1 sv' S'.stack.length (S'.stack.map (fun x : Nat => Value.int .i64 (x : Int)))) (hz : w.ownsRow c.base 3 1 zv' S'.sizes.length (S'.sizes.map (Value.int .i64)))
    (hp : sv'.ownBlock = none ∨ sv'.ownBlock ≠ zv'.ownBlock) : TW c (w.setCell ⟨c.blk i, j, none⟩ u) S' sv' zv' := by
  have hlt := ok.lt i hi
  refine ⟨?_, ownsRow_setCell_below hs (by exact hlt) u, ownsRow_setCell_below hz (by exact hlt) u, hp, h.bel.setCell (ok.ge i hi) u, ?_⟩
  · intro k hk
    by_cases e : k = i
    · subst e; rw [h1]; exact (h.rows k hk).set j u
    · rw [h2 k hk e]; exact (h.rows k hk).other (ok.ne k i hk hi e) u
  · have := h.big
    simpa [World.setCell] using this

theorem TW.drew {c : Cfg} {w : World} {S : St} {sv zv : Value} (h : TW c w S sv zv) : TW c w.drew S sv zv := ⟨h.rows, h.stk, h.siz, h.sep, h.bel.drew, h.big⟩
theorem TW.drewN {c : Cfg} {w : World} {S : St} {sv zv : Value} (h : TW c w S sv zv) (n : Nat) : TW c (w.drewN n) S sv zv := ⟨h.rows, h.stk, h.siz, h.sep, below_drewN h.bel n, h.big⟩

theorem TW.alloc {c : Cfg} {w : World} {S : St} {sv zv : Value} (h : TW c w S sv zv) (o : Obj) : TW c (w.alloc o) S sv zv :=
  ⟨fun i hi => (h.rows i hi).alloc o, h.stk.alloc o, h.siz.alloc o, h.sep, h.bel.alloc h.bel.size o, by have := h.big; simp; omega⟩

theorem TW.cell {c : Cfg} {w : World} {S : St} {sv zv : Value} (h : TW c w S sv zv) (i : Nat) (hi : i < 13) (j : Nat) : w.cell? ⟨c.blk i, j, none⟩ = (conts c S sv zv i)[j]? := (h.rows i hi).cell j
theorem TW.frozen {c : Cfg} {w : World} {S : St} {sv zv : Value} (h : TW c w S sv zv) (i : Nat) (hi : i < 13) (j : Nat) : w.frozen? ⟨c.blk i, j, none⟩ = false := (h.rows i hi).frozen j

section
variable {c : Cfg} (ok : COk c) {w : World} {S : St} {sv zv : Value} (h : TW c w S sv zv)
theorem TW.c0 (h : TW c w S sv zv) : w.cell? ⟨c.blk 0, 0, none⟩ = some (.int .i64 S.next) := h.cell 0 (by omega) 0
theorem TW.c1 (h : TW c w S sv zv) : w.cell? ⟨c.blk 1, 0, none⟩ = some (.slice (some ⟨c.blk 9, 0, none⟩) c.n c.n) := h.cell 1 (by omega) 0
theorem TW.c2 (h : TW c w S sv zv) : w.cell? ⟨c.blk 2, 0, none⟩ = some (.slice (some ⟨c.blk 10, 0, none⟩) c.n c.n) := h.cell 2 (by omega) 0
theorem TW.c3 (h : TW c w S sv zv) : w.cell? ⟨c.blk 3, 0, none⟩ = some sv := h.cell 3 (by omega) 0
theorem TW.c4 (h : TW c w S sv zv) : w.cell? ⟨c.blk 4, 0, none⟩ = some (.slice (some ⟨c.blk 11, 0, none⟩) c.n c.n) := h.cell 4 (by omega) 0
theorem TW.c5 (h : TW c w S sv zv) : w.cell? ⟨c.blk 5, 0, none⟩ = some c.ev := h.cell 5 (by omega) 0
theorem TW.c6 (h : TW c w S sv zv) : w.cell? ⟨c.blk 6, 0, none⟩ = some c.fv := h.cell 6 (by omega) 0
theorem TW.c7 (h : TW c w S sv zv) : w.cell? ⟨c.blk 7, 0, none⟩ = some zv := h.cell 7 (by omega) 0
theorem TW.c8 (h : TW c w S sv zv) : w.cell? ⟨c.blk 8, 0, none⟩ = some (.slice (some ⟨c.blk 12, 0, none⟩) c.n c.n) := h.cell 8 (by omega) 0
theorem TW.c9 (h : TW c w S sv zv) (j : Nat) (hj : j < c.n) : w.cell? ⟨c.blk 9, j, none⟩ = some (.int .i64 (S.ord j)) := by rw [h.cell 9 (by omega) j]; exact cellsF_get _ _ j hj
theorem TW.c10 (h : TW c w S sv zv) (j : Nat) (hj : j < c.n) : w.cell? ⟨c.blk 10, j, none⟩ = some (.int .i64 (S.low j)) := by rw [h.cell 10 (by omega) j]; exact cellsF_get _ _ j hj
theorem TW.c11 (h : TW c w S sv zv) (j : Nat) (hj : j < c.n) : w.cell? ⟨c.blk 11, j, none⟩ = some (.bool (S.on j)) := by rw [h.cell 11 (by omega) j]; exact cellsF_get _ _ j hj
theorem TW.c12 (h : TW c w S sv zv) (j : Nat) (hj : j < c.n) : w.cell? ⟨c.blk 12, j, none⟩ = some (.int .i64 (S.comp j)) := by rw [h.cell 12 (by omega) j]; exact cellsF_get _ _ j hj
end

section
variable {c : Cfg} {w : World} {S : St} {sv zv : Value}

theorem TW.setNext (ok : COk c) (h : TW c w S sv zv) (m : Nat) : TW c (w.setCell ⟨c.blk 0, 0, none⟩ (.int .i64 (m : Int))) { S with next := m } sv zv :=
  h.store ok 0 (by omega) 0 _ rfl (by intro k hk hne; rcases lt13 hk with rfl | rfl | rfl | rfl | rfl | rfl | rfl | rfl | rfl | rfl | rfl | rfl | rfl <;> first | rfl | exact absurd rfl hne) h.stk h.siz h.sep

theorem TW.setOrd (ok : COk c) (h : TW c w S sv zv) (v : Nat) (x : Int) : TW c (w.setCell ⟨c.blk 9, v, none⟩ (.int .i64 x)) { S with ord := upd S.ord v x } sv zv :=
  h.store ok 9 (by omega) v _ (by show cellsF _ _ = (cellsF _ _).set _ _; rw [cellsF_set, upd_map]) (by intro k hk hne; rcases lt13 hk with rfl | rfl | rfl | rfl | rfl | rfl | rfl | rfl | rfl | rfl | rfl | rfl | rfl <;> first | rfl | exact absurd rfl hne) h.stk h.siz h.sep

theorem TW.setLow (ok : COk c) (h : TW c w S sv zv) (v : Nat) (x : Int) : TW c (w.setCell ⟨c.blk 10, v, none⟩ (.int .i64 x)) { S with low := upd S.low v x } sv zv :=
  h.store ok 10 (by omega) v _ (by show cellsF _ _ = (cellsF _ _).set _ _; rw [cellsF_set, upd_map]) (by intro k hk hne; rcases lt13 hk with rfl | rfl | rfl | rfl | rfl | rfl | rfl | rfl | rfl | rfl | rfl | rfl | rfl <;> first | rfl | exact absurd rfl hne) h.stk h.siz h.sep

theorem TW.setOn (ok : COk c) (h : TW c w S sv zv) (v : Nat) (x : Bool) : TW c (w.setCell ⟨c.blk 11, v, none⟩ (.bool x)) { S with on := upd S.on v x } sv zv :=
  h.store ok 11 (by omega) v _ (by show cellsF _ _ = (cellsF _ _).set _ _; rw [cellsF_set, upd_map]) (by intro k hk hne; rcases lt13 hk with rfl | rfl | rfl | rfl | rfl | rfl | rfl | rfl | rfl | rfl | rfl | rfl | rfl <;> first | rfl | exact absurd rfl hne) h.stk h.siz h.sep

theorem TW.setComp (ok : COk c) (h : TW c w S sv zv) (v : Nat) (x : Int) : TW c (w.setCell ⟨c.blk 12, v, none⟩ (.int .i64 x)) { S with comp := upd S.comp v x } sv zv :=
  h.store ok 12 (by omega) v _ (by show cellsF _ _ = (cellsF _ _).set _ _; rw [cellsF_set, upd_map]) (by intro k hk hne; rcases lt13 hk with rfl | rfl | rfl | rfl | rfl | rfl | rfl | rfl | rfl | rfl | rfl | rfl | rfl <;> first | rfl | exact absurd rfl hne) h.stk h.siz h.sep

theorem TW.setStack (ok : COk c) (h : TW c w S sv zv) (sv' : Value) (st : List Nat) (hs : w.ownsRow c.base 3 1 sv' st.length (st.map (fun x : Nat => Value.int .i64 (x : Int)))) (hp : sv'.ownBlock = none ∨ sv'.ownBlock ≠ zv.ownBlock) :
    TW c (w.setCell ⟨c.blk 3, 0, none⟩ sv') { S with stack := st } sv' zv :=
  h.store ok 3 (by omega) 0 _ rfl (by intro k hk hne; rcases lt13 hk with rfl | rfl | rfl | rfl | rfl | rfl | rfl | rfl | rfl | rfl | rfl | rfl | rfl <;> first | rfl | exact absurd rfl hne) hs h.siz hp

theorem TW.setSizes (ok : COk c) (h : TW c w S sv zv) (zv' : Value) (zs : List Int) (hz : w.ownsRow c.base 3 1 zv' zs.length (zs.map (Value.int .i64))) (hp : sv.ownBlock = none ∨ sv.ownBlock ≠ zv'.ownBlock) :
    TW c (w.setCell ⟨c.blk 7, 0, none⟩ zv') { S with sizes := zs } sv zv' :=
  h.store ok 7 (by omega) 0 _ rfl (by intro k hk hne; rcases lt13 hk with rfl | rfl | rfl | rfl | rfl | rfl | rfl | rfl | rfl | rfl | rfl | rfl | rfl <;> first | rfl | exact absurd rfl hne) h.stk hz hp

/-- A block of the thirteen behind an append to a row above the base. -/
theorem TW.kept (ok : COk c) (h : TW c w S sv zv) {w2 : World} {row : Option Nat} (hg : w.grownBy w2 row) (hr : ∀ k, row = some k → c.base ≤ k) (i : Nat) (hi : i < 13) : HasRow w2 (c.blk i) (blkTy i) (conts c S sv zv i) :=
  (h.rows i hi).grown hg (fun e => by have := hr _ e.symm; have := ok.lt i hi; omega)

theorem TW.row_stack (h : TW c w S sv zv) : ∀ k, sv.ownBlock = some k → c.base ≤ k := fun k hk => (h.stk.lt k hk).1
theorem TW.row_sizes (h : TW c w S sv zv) : ∀ k, zv.ownBlock = some k → c.base ≤ k := fun k hk => (h.siz.lt k hk).1

/-- 'stack = append(stack, v)', stored back. -/
theorem TW.growStack (ok : COk c) (h : TW c w S sv zv) {w2 : World} (hg : w.grownBy w2 sv.ownBlock) {sv' : Value} {st : List Nat} (hs : w2.ownsRow c.base 3 1 sv' st.length (st.map (fun x : Nat => Value.int .i64 (x : Int))))
    (hfr : ∀ k, sv'.ownBlock = some k → sv.ownBlock = some k ∨ w.heap.size ≤ k) : TW c (w2.setCell ⟨c.blk 3, 0, none⟩ sv') { S with stack := st } sv' zv := by
  have hsep : zv.ownBlock = none ∨ zv.ownBlock ≠ sv.ownBlock := by
    rcases h.sep with h1 | h1
    · cases hz : zv.ownBlock with
      | none => exact .inl rfl
      | some z => right; rw [h1]; simp
    · exact .inr (fun e => h1 e.symm)
  have hz2 : w2.ownsRow c.base 3 1 zv S.sizes.length (S.sizes.map (Value.int .i64)) := h.siz.kept hg hsep
  have hp : sv'.ownBlock = none ∨ sv'.ownBlock ≠ zv.ownBlock := by
    cases e : sv'.ownBlock with
    | none => exact .inl rfl
    | some k =>
      right
      intro hz
      rcases hfr k e with h1 | h1
      · rw [h1] at hsep
        rcases hsep with h2 | h2
        · rw [h2] at hz; cases hz
        · exact h2 hz.symm
      · have := (h.siz.lt k hz.symm).2; omega
  have hlt := ok.lt 3 (by omega)
  have hbel : Below c.w0.heap.size c.w0 w2 := h.bel.grown hg h.bel.size (fun k hk => by have := h.row_stack k hk; have := ok.lt 3 (by omega); have := ok.ge 3 (by omega); omega)
  refine ⟨?_, ownsRow_setCell_below hs (by exact hlt) _, ownsRow_setCell_below hz2 (by exact hlt) _, hp, hbel.setCell (ok.ge 3 (by omega)) _, ?_⟩
  · intro k hk
    by_cases e : k = 3
    · subst e
      exact (h.kept ok hg h.row_stack 3 hk).set 0 sv'
    · have e2 : conts c { S with stack := st } sv' zv k = conts c S sv zv k := by
        rcases lt13 hk with rfl | rfl | rfl | rfl | rfl | rfl | rfl | rfl | rfl | rfl | rfl | rfl | rfl <;> first | rfl | exact absurd rfl e
      rw [e2]
      exact (h.kept ok hg h.row_stack k hk).other (ok.ne k 3 hk (by omega) e) _
  · have h1 := h.big
    have h2 := hg.size
    simp [World.setCell]; omega

/-- 'size = append(size, 0)', stored back. -/
theorem TW.growSizes (ok : COk c) (h : TW c w S sv zv) {w2 : World} (hg : w.grownBy w2 zv.ownBlock) {zv' : Value} {zs : List Int} (hs : w2.ownsRow c.base 3 1 zv' zs.length (zs.map (Value.int .i64)))
    (hfr : ∀ k, zv'.ownBlock = some k → zv.ownBlock = some k ∨ w.heap.size ≤ k) : TW c (w2.setCell ⟨c.blk 7, 0, none⟩ zv') { S with sizes := zs } sv zv' := by
  have hs2 : w2.ownsRow c.base 3 1 sv S.stack.length (S.stack.map (fun x : Nat => Value.int .i64 (x : Int))) := h.stk.kept hg h.sep
  have hp : sv.ownBlock = none ∨ sv.ownBlock ≠ zv'.ownBlock := by
    cases e : sv.ownBlock with
    | none => exact .inl rfl
    | some k =>
      right
      intro hz
      have hsp := h.sep
      rw [e] at hsp
      rcases hfr k hz.symm with h1 | h1
      · rcases hsp with h2 | h2
        · cases h2
        · exact h2 h1.symm
      · have := (h.stk.lt k e).2; omega
  have hlt := ok.lt 7 (by omega)
  have hbel : Below c.w0.heap.size c.w0 w2 := h.bel.grown hg h.bel.size (fun k hk => by have := h.row_sizes k hk; have := ok.lt 3 (by omega); have := ok.ge 3 (by omega); omega)
  refine ⟨?_, ownsRow_setCell_below hs2 (by exact hlt) _, ownsRow_setCell_below hs (by exact hlt) _, hp, hbel.setCell (ok.ge 7 (by omega)) _, ?_⟩
  · intro k hk
    by_cases e : k = 7
    · subst e
      exact (h.kept ok hg h.row_sizes 7 hk).set 0 zv'
    · have e2 : conts c { S with sizes := zs } sv zv' k = conts c S sv zv k := by
        rcases lt13 hk with rfl | rfl | rfl | rfl | rfl | rfl | rfl | rfl | rfl | rfl | rfl | rfl | rfl <;> first | rfl | exact absurd rfl e
      rw [e2]
      exact (h.kept ok hg h.row_sizes k hk).other (ok.ne k 7 hk (by omega) e) _
  · have h1 := h.big
    have h2 := hg.size
    simp [World.setCell]; omega
end

/-- 'size[id]++', into the growing row itself. -/
theorem TW.storeSize {c : Cfg} (ok : COk c) {w : World} {S : St} {sv : Value} {gz n cap : Nat} (h : TW c w S sv (.slice (some ⟨gz, 0, none⟩) n cap)) (hn : n = S.sizes.length) (j : Nat) (x : Int) :
    TW c (w.setCell ⟨gz, j, none⟩ (.int .i64 x)) { S with sizes := S.sizes.set j x } sv (.slice (some ⟨gz, 0, none⟩) n cap) := by
  subst hn
  have hst := h.siz.stored j (.int .i64 x)
  have hge : c.base ≤ gz := h.row_sizes gz rfl
  refine ⟨?_, ?_, ?_, h.sep, ?_, ?_⟩
  · intro k hk
    have e2 : conts c { S with sizes := S.sizes.set j x } sv (.slice (some ⟨gz, 0, none⟩) S.sizes.length cap) k = conts c S sv (.slice (some ⟨gz, 0, none⟩) S.sizes.length cap) k := by
      rcases lt13 hk with rfl | rfl | rfl | rfl | rfl | rfl | rfl | rfl | rfl | rfl | rfl | rfl | rfl <;> rfl
    rw [e2]
    exact (h.rows k hk).other (by have := ok.lt k hk; simp only []; omega) _
  · exact h.stk.kept hst.2 h.sep
  · have := hst.1
    rw [← List.map_set] at this
    simpa using this
  · exact h.bel.setCell (by have := ok.lt 0 (by omega); have := ok.ge 0 (by omega); simp only []; omega) _
  · have := h.big
    simpa [World.setCell] using this

/-- The stack's row, where it holds something. -/
theorem TW.stack_at {c : Cfg} {w : World} {S : St} {sv zv : Value} (h : TW c w S sv zv) {st : List Nat} {t : Nat} (hst : S.stack = st ++ [t]) :
    ∃ g cap, sv = .slice (some ⟨g, 0, none⟩) (st.length + 1) cap ∧ w.cell? ⟨g, st.length, none⟩ = some (.int .i64 t) ∧ st.length + 1 ≤ cap ∧ w.ownsRow c.base 3 1 (.slice (some ⟨g, 0, none⟩) st.length cap) st.length (st.map (fun x : Nat => Value.int .i64 (x : Int))) := by
  have hs := h.stk
  rw [hst] at hs
  have hl : (st ++ [t]).length = st.length + 1 := by simp
  rw [hl, List.map_append] at hs
  have hs0 := hs
  rcases hs.2 with ⟨_, h2⟩ | ⟨g, cap, cur, h1, _, _, hcap, _⟩
  · omega
  · subst h1
    refine ⟨g, cap, rfl, ?_, hcap, ownsRow_pop (by simp) hs0⟩
    rw [hs0.cellAt st.length (by omega)]
    simp

theorem TW.sizes_at {c : Cfg} {w : World} {S : St} {sv zv : Value} (h : TW c w S sv zv) {zs : List Int} {x : Int} (hz : S.sizes = zs ++ [x]) :
    ∃ g cap, zv = .slice (some ⟨g, 0, none⟩) (zs.length + 1) cap ∧ w.cell? ⟨g, zs.length, none⟩ = some (.int .i64 x) ∧ w.frozen? ⟨g, zs.length, none⟩ = false := by
  have hs := h.siz
  rw [hz] at hs
  have hl : (zs ++ [x]).length = zs.length + 1 := by simp
  rw [hl, List.map_append] at hs
  have hs0 := hs
  rcases hs.2 with ⟨_, h2⟩ | ⟨g, cap, cur, h1, _⟩
  · omega
  · subst h1
    refine ⟨g, cap, rfl, ?_, hs0.frozenAt _⟩
    rw [hs0.cellAt zs.length (by omega)]
    simp

theorem popped_start (S : St) : popped S S.stack [] = { S with sizes := S.sizes ++ [0] } := by
  simp [popped]

theorem popped_step (S : St) (r q : List Nat) (t : Nat) :
    { popped S (r ++ [t]) q with stack := r, on := upd (popped S (r ++ [t]) q).on t false, comp := upd (popped S (r ++ [t]) q).comp t (S.sizes.length : Int), sizes := (popped S (r ++ [t]) q).sizes.set S.sizes.length ((q.length : Int) + 1) } = popped S r (t :: q) := by
  have e1 : upd (popped S (r ++ [t]) q).on t false = fun x => if x ∈ t :: q then false else S.on x := by
    funext x
    by_cases e : x = t
    · subst e; simp [upd_same]
    · rw [upd_other _ _ e]; simp [popped, e]
  have e2 : upd (popped S (r ++ [t]) q).comp t (S.sizes.length : Int) = fun x => if x ∈ t :: q then (S.sizes.length : Int) else S.comp x := by
    funext x
    by_cases e : x = t
    · subst e; simp [upd_same]
    · rw [upd_other _ _ e]; simp [popped, e]
  have e3 : (popped S (r ++ [t]) q).sizes.set S.sizes.length ((q.length : Int) + 1) = S.sizes ++ [((t :: q).length : Int)] := by
    simp [popped]
  rw [e1, e2, e3]
  rfl

/-! ### append, and where the row then lies -/
theorem ownsRow_mono {w : World} {b b' : Nat} {e : TypeId} {size : Nat} {v : Value} {n : Nat} {xs : List Value} (h : w.ownsRow b e size v n xs) (hb : b' ≤ b) : w.ownsRow b' e size v n xs := by
  obtain ⟨h1, h2⟩ := h
  refine ⟨h1, ?_⟩
  rcases h2 with h2 | ⟨g, cap, cur, a, hg, r⟩
  · exact .inl h2
  · exact .inr ⟨g, cap, cur, a, by omega, r⟩

theorem grownBy_any {w w' : World} {row : Option Nat} (h : w.grownBy w' none) : w.grownBy w' row := ⟨h.os, h.tape, h.output, h.size, fun k hk _ => h.block k hk (by simp)⟩

theorem wpList_append_fresh {P : Program} (w : World) {ops : Array Oper} {rest : List Oper} {o : Oper} {a : Act} {Q : Exit → Act → World → Prop} (hgd : o.guard = none) (s x : Operand) (t : TypeId)
    (ho : o.op = .call { callee := .builtin .append, args := #[s, x], argTypes := #[t, t] })
    (base : Nat) (e : TypeId) (i : TypeInfo) (z : Value) (size bytes : Nat) (ht : P.underlying t = some (.slice e)) (hi : P.info? e = some i) (hz : i.zero = some z)
    (hsize : i.size = size) (hby : i.bytes = bytes) (hzs : z.cells.size = size) (hsz : 0 < size)
    (v : Value) (n : Nat) (xs : List Value) (hs : a.eval s = v) (hown : w.ownsRow base e size v n xs)
    (ad : Addr) (m c : Nat) (news : List Value) (hx : a.eval x = .slice (some ad) m c) (hl : news.length = m * size) (hnews : ∀ j u, news[j]? = some u → w.cell? (ad.add j) = some u) (h1 : ∀ u ∈ news, u.oneCell' = true)
    (h63 : n + m ≤ maxLen) (hbytes : (n + m) * bytes ≤ 140737488355328) (hbase : base ≤ w.heap.size)
    (h : ∀ v' w', w'.ownsRow base e size v' (n + m) (xs ++ news) → w.grownBy w' v.ownBlock → (∀ k, v'.ownBlock = some k → v.ownBlock = some k ∨ w.heap.size ≤ k) → wpList P ops Q rest (a.put o.dst v') w') : wpList P ops Q (o :: rest) a w := by
  rcases hown.2 with ⟨hv, hn0⟩ | ⟨g, cap, cur, hv, hg, hh, hnc, hcm, hcs, htake⟩
  · subst hv
    have hxs : xs = [] := List.eq_nil_of_length_eq_zero (by rw [hown.1, hn0]; simp)
    subst hn0
    subst hxs
    refine wpList_append_own w hgd s x t ho w.heap.size e i z size bytes ht hi hz hsize hby hzs hsz _ 0 [] hs (World.ownsRow_nil _ _ _ _) ad m c news hx hl hnews h1 h63 hbytes (Nat.le_refl _) ?_
    intro v' w' ho' hg' _
    exact h v' w' (ownsRow_mono ho' hbase) hg' (fun k hk => .inr (ho'.lt k hk).1)
  · subst hv
    by_cases hroom : n + m ≤ cap
    · refine wpList_append_fits w hgd s x t ho base e i size ht hi hsize g n cap xs hs hown ad m c news hx hl hnews h1 hroom ?_
      intro w' ho' hg'
      exact h _ w' ho' hg' (fun k hk => .inl hk)
    · refine wpList_append_grows w hgd s x t ho e i z size bytes ht hi hz hsize hby hzs hsz (some ⟨g, 0, none⟩) n cap xs hs (fun hh => by cases hh) hown.1 ?_ ad m c news hx hl hnews h1 (by omega) h63 hbytes ?_
      · intro b hb j u hj
        cases hb
        exact hown.cells rfl j u hj
      · intro v' w' ho' hg'
        exact h v' w' (ownsRow_mono ho' hbase) (grownBy_any hg') (fun k hk => .inr (ho'.lt k hk).1)

end Go.Proofs.Qxb6001235a
