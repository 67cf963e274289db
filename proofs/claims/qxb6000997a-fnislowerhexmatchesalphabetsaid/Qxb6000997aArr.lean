import Derived.WalkKit
namespace Go.Proofs.Qxb6000997a
open Go.RowKit

/-- Block g is a row of cells of the element type e, not frozen, and holds just xs. -/
def HasRow (w : World) (g : Nat) (e : TypeId) (xs : List Value) : Prop := w.heap[g]? = some (.cells xs.toArray e (0, 0))

theorem HasRow.of_owns {w : World} {base g n : Nat} {e : TypeId} {xs : List Value} (h : w.ownsRow base e 1 (.slice (some ⟨g, 0, none⟩) n n) n xs) : HasRow w g e xs := by
  rcases h.2 with ⟨h', _⟩ | ⟨g', cap', cur, h', _, hg, _, _, hcs, htake⟩
  · simp at h'
  · simp only [Value.slice.injEq, Option.some.injEq, Addr.mk.injEq, and_true, true_and] at h'
    obtain ⟨rfl, rfl⟩ := h'
    have e1 : cur.toList = xs := by
      rw [← htake, List.take_of_length_le]
      rw [Array.length_toList, hcs]; omega
    unfold HasRow
    rw [hg, ← e1]

theorem HasRow.cell {w : World} {g : Nat} {e : TypeId} {xs : List Value} (h : HasRow w g e xs) (j : Nat) : w.cell? ⟨g, j, none⟩ = xs[j]? := by
  unfold HasRow at h
  simp [World.cell?, h]

theorem HasRow.frozen {w : World} {g : Nat} {e : TypeId} {xs : List Value} (h : HasRow w g e xs) (j : Nat) : w.frozen? ⟨g, j, none⟩ = false := by
  unfold HasRow at h
  simp [World.frozen?, h]

theorem HasRow.lt {w : World} {g : Nat} {e : TypeId} {xs : List Value} (h : HasRow w g e xs) : g < w.heap.size := by
  unfold HasRow at h
  exact (Array.getElem?_eq_some_iff.1 h).1

theorem HasRow.set {w : World} {g : Nat} {e : TypeId} {xs : List Value} (h : HasRow w g e xs) (j : Nat) (u : Value) : HasRow (w.setCell ⟨g, j, none⟩ u) g e (xs.set j u) := by
  unfold HasRow at h ⊢
  rw [heap_setCell_same w g j _ e u h]
  simp

theorem HasRow.other {w : World} {g : Nat} {e : TypeId} {xs : List Value} (h : HasRow w g e xs) {a : Addr} (ha : g ≠ a.block) (u : Value) : HasRow (w.setCell a u) g e xs := by
  unfold HasRow at h ⊢
  rw [heap_setCell_other w a g u (fun e => ha e), h]

theorem HasRow.below {w w' : World} {B g : Nat} {e : TypeId} {xs : List Value} (h : HasRow w g e xs) (hb : Below B w w') (hg : g < B) : HasRow w' g e xs := by
  unfold HasRow at h ⊢
  rw [hb.block g hg, h]

theorem HasRow.grown {w w' : World} {g : Nat} {e : TypeId} {xs : List Value} {row : Option Nat} (h : HasRow w g e xs) (hg : w.grownBy w' row) (hr : some g ≠ row) : HasRow w' g e xs := by
  have := h.lt
  unfold HasRow at h ⊢
  rw [hg.block g this hr, h]

theorem HasRow.alloc {w : World} {g : Nat} {e : TypeId} {xs : List Value} (h : HasRow w g e xs) (o : Obj) : HasRow (w.alloc o) g e xs := by
  have := h.lt
  unfold HasRow at h ⊢
  rw [Below.heap_alloc w o g this, h]

end Go.Proofs.Qxb6000997a
