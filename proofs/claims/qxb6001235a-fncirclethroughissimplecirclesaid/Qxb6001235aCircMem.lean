import Derived.Test.Qxb6001235aReachWalk
import Derived.Test.Qxb6001235aCircle
import Derived.Maps.Own
import Derived.Maps.OwnSet
import Derived.Maps.Views
namespace Go.Proofs.Qxb6001235a
open Go.RowKit Go.Deep Go.Maps

theorem law3 : Keyed Try.prog 3 := int_keyed Try.underlying3
theorem zero4 (w : World) : (zeroValue 4).run Try.prog w = .ok (.bool false) w := by kernel_rfl

/-- Block b is a map from ints to bools; of the vertices it holds just those in vis. -/
def BMap (w : World) (b n : Nat) (vis : Nat → Bool) : Prop :=
  ∃ D : DataW Unit, w.ownsMap Try.prog 3 (plainElem Try.prog 4) b (cnt vis n) D ∧ ∀ y : Nat, D.atKey (.int .i64 (y : Int)) (.lit (.bool false)) = .lit (.bool (vis y))

theorem key_wf {y : Nat} (h : y ≤ 65536) : (Lit.int .i64 (y : Int)).wf = true := WalkArith.wf_i64 (by omega)

theorem plainElem_bool_inv {v : Value} {x : Bool} {ps : List MemPlace} (h : plainElem (H := Unit) Try.prog 4 v = some (.lit (.bool x), ps)) : v = .bool x := by
  unfold plainElem at h
  rw [Try.underlying4] at h
  cases v <;> simp at h
  rw [h.1]

theorem BMap.look {w : World} {b n : Nat} {vis : Nat → Bool} (h : BMap w b n vis) {y : Nat} (hy : y ≤ 65536) : (Instr.lookup 35 (.map (some b)) (.int .i64 (y : Int)) false).run Try.prog w = .ok (.bool (vis y)) w := by
  obtain ⟨D, ho, hat⟩ := h
  obtain ⟨v, ps, hrun, hv⟩ := ho.lookup law3 Try.underlying35 (zero4 w) (plainElem_bool Try.underlying4 false) (keyOf_int_mk Try.underlying3 (key_wf hy))
  rw [hat] at hv
  rw [hrun, plainElem_bool_inv hv]

theorem BMap.kept {w w' : World} {b n : Nat} {vis : Nat → Bool} {row : Option Nat} (h : BMap w b n vis) (hg : w.grownBy w' row) (hne : some b ≠ row) : BMap w' b n vis := by
  obtain ⟨D, ho, hat⟩ := h
  exact ⟨D, ho.kept hg hne, hat⟩
theorem BMap.alloc {w : World} {b n : Nat} {vis : Nat → Bool} (h : BMap w b n vis) (o : Obj) : BMap (w.alloc o) b n vis := by
  obtain ⟨D, ho, hat⟩ := h
  exact ⟨D, ho.alloc o, hat⟩
theorem BMap.setCell {w : World} {b n : Nat} {vis : Nat → Bool} (h : BMap w b n vis) {a : Addr} (ha : b ≠ a.block) (u : Value) : BMap (w.setCell a u) b n vis := by
  obtain ⟨D, ho, hat⟩ := h
  exact ⟨D, ho.setCell ha u, hat⟩
theorem BMap.drewN {w : World} {b n : Nat} {vis : Nat → Bool} (h : BMap w b n vis) (q : Nat) : BMap (w.drewN q) b n vis := h

theorem BMap.start (w : World) (n : Nat) : BMap (w.alloc (.map #[] 0)) w.heap.size n (fun _ => false) :=
  ⟨.map [], (World.ownsMap_made w Try.prog 3 _).mono (Nat.zero_le _), fun _ => rfl⟩

theorem BMap.put {w' : World} {b n y : Nat} {vis : Nat → Bool} {D : DataW Unit} (hm : IsMap D) (hat : ∀ y : Nat, D.atKey (.int .i64 (y : Int)) (.lit (.bool false)) = .lit (.bool (vis y))) (hy : y < n) (hyv : vis y = false)
    (ho : w'.ownsMap Try.prog 3 (plainElem Try.prog 4) b (cnt vis n + 1) (D.put (.int .i64 (y : Int)) (.lit (.bool true)))) : BMap w' b n (upd vis y true) := by
  have hc : cnt (upd vis y true) n = cnt vis n + 1 := cnt_add hy hyv (upd_same _ _ _) (fun x _ hx => upd_other _ _ hx)
  refine ⟨_, by rw [hc]; exact ho, fun z => ?_⟩
  by_cases e : z = y
  · subst e
    rw [upd_same, atKey_put_same hm (by trivial)]
  · rw [upd_other _ _ e, atKey_put_other (fun h => by injection h with _ h2; omega)]
    exact hat z

/-! ### The memory of 'circleThrough' -/
def fvC (B : Nat) : Value := .func (Fn.func 31) #[] #[.pointer (some ⟨B, 0, none⟩), .pointer (some ⟨B + 2, 0, none⟩), .pointer (some ⟨B + 4, 0, none⟩), .pointer (some ⟨B + 1, 0, none⟩), .pointer (some ⟨B + 6, 0, none⟩), .pointer (some ⟨B + 7, 0, none⟩)]

structure CW (w0 : World) (B n start : Nat) (ev cv : Value) (w : World) (vis : Nat → Bool) (path : List Nat) (pv : Value) : Prop where
  rE : HasRow w B 22 [ev]
  rC : HasRow w (B + 1) 25 [cv]
  rS : HasRow w (B + 2) 3 [.int .i64 (start : Int)]
  rP : HasRow w (B + 4) 25 [pv]
  rV : HasRow w (B + 6) 35 [.map (some (B + 5))]
  rW : HasRow w (B + 7) 38 [fvC B]
  mp : BMap w (B + 5) n vis
  own : w.ownsRow B 3 1 pv path.length (path.map (fun x : Nat => Value.int .i64 (x : Int)))
  sep : ∀ k, pv.ownBlock = some k → k = B + 3 ∨ B + 8 ≤ k
  bel : Below B w0 w
  big : B + 8 ≤ w.heap.size

section
variable {w0 w : World} {B n start : Nat} {ev cv : Value} {vis : Nat → Bool} {path : List Nat} {pv : Value}

theorem CW.alloc (h : CW w0 B n start ev cv w vis path pv) (o : Obj) : CW w0 B n start ev cv (w.alloc o) vis path pv :=
  ⟨h.rE.alloc o, h.rC.alloc o, h.rS.alloc o, h.rP.alloc o, h.rV.alloc o, h.rW.alloc o, h.mp.alloc o, h.own.alloc o, h.sep, h.bel.alloc (by have := h.big; omega) o, by have := h.big; simp; omega⟩
theorem CW.drewN (h : CW w0 B n start ev cv w vis path pv) (q : Nat) : CW w0 B n start ev cv (w.drewN q) vis path pv :=
  ⟨h.rE, h.rC, h.rS, h.rP, h.rV, h.rW, h.mp, h.own, h.sep, below_drewN h.bel q, h.big⟩

theorem CW.keptRow (h : CW w0 B n start ev cv w vis path pv) {w2 : World} (hg : w.grownBy w2 pv.ownBlock) {g : Nat} {e : TypeId} {xs : List Value} (hr : HasRow w g e xs) (h1 : g ≠ B + 3) (h2 : g < B + 8) : HasRow w2 g e xs :=
  hr.grown hg (fun e => by have := h.sep g e.symm; omega)

/-- 'path = append(path, ..)', stored back. -/
theorem CW.grow (h : CW w0 B n start ev cv w vis path pv) {w2 : World} (hg : w.grownBy w2 pv.ownBlock) {pv' : Value} {path' : List Nat} (ho : w2.ownsRow B 3 1 pv' path'.length (path'.map (fun x : Nat => Value.int .i64 (x : Int))))
    (hfr : ∀ k, pv'.ownBlock = some k → pv.ownBlock = some k ∨ w.heap.size ≤ k) : CW w0 B n start ev cv (w2.setCell ⟨B + 4, 0, none⟩ pv') vis path' pv' := by
  have hbig := h.big
  have hsep : ∀ k, pv'.ownBlock = some k → k = B + 3 ∨ B + 8 ≤ k := fun k hk => by
    rcases hfr k hk with h1 | h1
    · exact h.sep k h1
    · right; omega
  refine ⟨(h.keptRow hg h.rE (by omega) (by omega)).other (by simp only []; omega) _, (h.keptRow hg h.rC (by omega) (by omega)).other (by simp only []; omega) _, (h.keptRow hg h.rS (by omega) (by omega)).other (by simp only []; omega) _,
    (h.keptRow hg h.rP (by omega) (by omega)).set 0 _, (h.keptRow hg h.rV (by omega) (by omega)).other (by simp only []; omega) _, (h.keptRow hg h.rW (by omega) (by omega)).other (by simp only []; omega) _,
    (h.mp.kept hg (fun e => by have := h.sep _ e.symm; omega)).setCell (by simp only []; omega) _, ?_, hsep, (h.bel.grown hg (by omega) (fun k hk => by have := h.sep k hk; omega)).setCell (by simp only []; omega) _, ?_⟩
  · refine ho.kept (row := some (B + 4)) ⟨rfl, rfl, rfl, by simp [World.setCell], fun k _ hk => heap_setCell_other w2 _ k _ (fun e => hk (by simp [e]))⟩ ?_
    cases e : pv'.ownBlock with
    | none => exact .inl rfl
    | some k => right; intro hh; cases hh; have := hsep _ e; omega
  · have := hg.size
    simp [World.setCell]; omega

/-- 'path = path[:len(path)-1]', stored back. -/
theorem CW.shrink (h : CW w0 B n start ev cv w vis path pv) {pv' : Value} {path' : List Nat} (ho : w.ownsRow B 3 1 pv' path'.length (path'.map (fun x : Nat => Value.int .i64 (x : Int)))) (hb : pv'.ownBlock = pv.ownBlock) : CW w0 B n start ev cv (w.setCell ⟨B + 4, 0, none⟩ pv') vis path' pv' :=
  h.grow ⟨rfl, rfl, rfl, Nat.le_refl _, fun _ _ _ => rfl⟩ ho (fun _ hk => .inl (hb ▸ hk))

/-- 'visited[y] = true' -/
theorem CW.mark (h : CW w0 B n start ev cv w vis path pv) {w2 : World} {vis' : Nat → Bool} (hg : w.grownBy w2 (some (B + 5))) (hm : BMap w2 (B + 5) n vis') : CW w0 B n start ev cv w2 vis' path pv := by
  have hbig := h.big
  have k : ∀ {g e xs}, HasRow w g e xs → g ≠ B + 5 → HasRow w2 g e xs := fun hr hne => hr.grown hg (fun e => hne (by injection e))
  refine ⟨k h.rE (by omega), k h.rC (by omega), k h.rS (by omega), k h.rP (by omega), k h.rV (by omega), k h.rW (by omega), hm, h.own.kept hg ?_, h.sep, h.bel.grown hg (by omega) (fun j hj => by cases hj; omega), by have := hg.size; omega⟩
  cases e : pv.ownBlock with
  | none => exact .inl rfl
  | some j => right; intro hh; cases hh; have := h.sep _ e; omega
end

end Go.Proofs.Qxb6001235a
