import Derived.Test.Qxb6000997aRows
import Derived.WalkKit
import Derived.ProofKit
import Derived.OpenShut
import Derived.ShutString
import Derived.ChangeOld
import Derived.Below
import Derived.WalkSpells
import Derived.WalkLawsBesides
import Derived.Laws.CopyOwn
import Derived.Test.Qxb6000997aAlpha
namespace Go.Proofs.Qxb6000997a.fnIsLowerHexMatchesAlphabet
open Go.ChangeShapes Go.WideShapes Go.ChangeAt Go.RowKit
open Go.ChangeMaps (open_string shut_string)
set_option linter.unusedVariables false

theorem own : ownKnob Try.prog.godebug = none := by kernel_rfl
theorem laidOut : laidOutB Try.prog = true := by kernel_rfl

/-- WHAT THE WALK IS TOLD OF A SLICE OF INTEGERS THAT CAME IN: it is nil; or it leads to a row of 'cap' cells, the numbers 'zs' (the first 'len' are its elements, the rest its spare room), each fitting its kind. -/
def IsRow (k : IntKind) (w : World) (a : Option Addr) (len cap : Nat) (zs : List Int) : Prop :=
  (a = none ∧ len = 0 ∧ cap = 0 ∧ zs = []) ∨
  ∃ x, a = some x ∧ len ≤ cap ∧ cap ≤ maxLen ∧ zs.length = cap ∧ (∀ i, i < zs.length → w.cell? (x.add i) = some (.int k (zs.getD i 0))) ∧ ∀ n ∈ zs, (Lit.int k n).wf = true

/-! ### STEP 1: THE WALK -/
theorem info5 : (Try.prog.info? 5).map (fun i => (i.zero, i.size, i.bytes)) = some (some (.int .u8 0), 1, 1) := by kernel_rfl
theorem size5 : (Try.prog.info? 5).map (·.size) = some 1 := by kernel_rfl

set_option maxHeartbeats 400000 in
theorem zzB_yes (a : Option Addr) (len cap : Nat) (w : World) (h : len ≤ 1048576) :
    Calls Try.prog 8 #[.slice a len cap] w fun e w' => e = .returned (.bool true) ∧ w = w' := by
  go_enter Try.func8, Try.ntmps8
  go_wp2
  go_ret
  exact ⟨rfl, rfl⟩

set_option maxHeartbeats 400000 in
theorem zzB_no (a : Option Addr) (len cap : Nat) (w : World) (hl : len ≤ 9223372036854775807) (h : 1048576 < len) :
    Calls Try.prog 8 #[.slice a len cap] w fun e w' => e = .returned (.bool false) ∧ w = w' := by
  go_enter Try.func8, Try.ntmps8
  go_wp2
  go_ret
  exact ⟨rfl, rfl⟩

set_option maxHeartbeats 400000 in
theorem walk_long (a : Option Addr) (len cap : Nat) (w : World) (hl : len ≤ 9223372036854775807) (h : 1048576 < len) :
    Calls Try.prog 3 #[.slice a len cap] w fun e w' => e = .returned (.bool true) ∧ Below w.heap.size w w' := by
  go_enter Try.func3, Try.ntmps3
  go_wp2_with (go_at_call 8; refine (zzB_no _ _ _ _ hl h).mono ?_; rintro e w' ⟨rfl, rfl⟩)
  go_ret
  exact ⟨rfl, Below.refl _ _⟩

theorem zeros (n : Nat) : (madeCells (Value.cells (.int .u8 0)) (n * 1)).toList = List.replicate n (.int .u8 0) := by
  rw [Nat.mul_one]; exact toList_madeCells_one _ _

set_option maxHeartbeats 400000 in
theorem walk_nil (w : World) :
    Calls Try.prog 3 #[.slice none 0 0] w fun e w' => e = .returned (.bool true) ∧ Below w.heap.size w w' := by
  have hnil := fun (w : World) (a : Option Addr) (n c n' c' : Nat) => run_neq_slice_nil_any (P := Try.prog) w 22 5 a n c n' c' Try.underlying22
  go_enter Try.func3, Try.ntmps3
  go_wp2_with (first
    | (go_at_call 8; refine (zzB_yes _ _ _ _ (by omega)).mono ?_; rintro e w' ⟨rfl, rfl⟩)
    | (go_at_call 9; refine (zzHex_any none 0 0 (fun _ => 0) _ (by omega) (fun h => absurd h (by omega))).mono ?_; rintro e w' ⟨rfl, rfl⟩)
    | (go_at_call 10; refine (alpha_zero none 0 _).mono ?_; rintro e w' ⟨rfl, n, rfl⟩))
  go_ret
  exact ⟨rfl, below_drewN (Below.refl _ _) _⟩

/-- The bytes f, as a row of cells. -/
def rowOf (f : Nat → Int) (len : Nat) : List Value := (List.range len).map (fun i => Value.int .u8 (f i))
theorem rowOf_len (f : Nat → Int) (len : Nat) : (rowOf f len).length = len := by simp [rowOf]
theorem rowOf_get (f : Nat → Int) (len j : Nat) (v : Value) (h : (rowOf f len)[j]? = some v) : j < len ∧ v = .int .u8 (f j) := by
  unfold rowOf at h
  by_cases hj : j < len
  · simp [hj] at h
    exact ⟨hj, h.symm⟩
  · simp [hj] at h
theorem rowOf_one (f : Nat → Int) (len : Nat) : ∀ v ∈ rowOf f len, v.oneCell' = true := by
  intro v hv
  simp only [rowOf, List.mem_map] at hv
  obtain ⟨i, _, rfl⟩ := hv
  rfl
theorem src_of {x : Addr} {len : Nat} {f : Nat → Int} {w w1 : World} (hc : 0 < len → ∃ b off, x = ⟨b, off, none⟩ ∧ b < w.heap.size ∧ ∀ i, i < len → w.cell? ⟨b, off + i, none⟩ = some (.int .u8 (f i))) (hg : w.grownBy w1 none)
    (hp : 0 < (rowOf f len).length) : ∃ ad, some x = some ad ∧ ∀ j v, (rowOf f len)[j]? = some v → w1.cell? (ad.add j) = some v := by
  rw [rowOf_len] at hp
  obtain ⟨b, off, rfl, hb, hcc⟩ := hc hp
  refine ⟨_, rfl, fun j v hj => ?_⟩
  obtain ⟨hjl, rfl⟩ := rowOf_get f len j v hj
  rw [add_plain]
  exact hg.cell (hcc j hjl) (by simp)
theorem end_of {f : Nat → Int} {len g : Nat} {w2 : World} (h : Hid (w2.heap[g]? = some (.cells (splice (List.replicate len (Value.int .u8 0)) 0 (rowOf f len)).toArray 5 (0, 0)))) : HasRow w2 g 5 (rowOf f len) := by
  have h := h.out
  unfold HasRow
  rw [h]
  simp [splice, rowOf_len]
theorem cell_of {f : Nat → Int} {len g : Nat} {w2 : World} (h : HasRow w2 g 5 (rowOf f len)) (_ : 0 < len) : ∃ b off, (some (⟨g, 0, none⟩ : Addr)) = some ⟨b, off, none⟩ ∧ ∀ i, i < len → w2.cell? ⟨b, off + i, none⟩ = some (.int .u8 (f i)) := by
  refine ⟨_, _, rfl, fun i hi => ?_⟩
  rw [Nat.zero_add, h.cell]
  simp [rowOf, hi]

set_option maxHeartbeats 800000 in
theorem walk_some (x : Addr) (len cap : Nat) (f : Nat → Int) (w : World) (hl : len ≤ 1048576)
    (hc : 0 < len → ∃ b off, x = ⟨b, off, none⟩ ∧ b < w.heap.size ∧ ∀ i, i < len → w.cell? ⟨b, off + i, none⟩ = some (.int .u8 (f i))) :
    Calls Try.prog 3 #[.slice (some x) len cap] w fun e w' => e = .returned (.bool true) ∧ Below w.heap.size w w' := by
  have hnil := fun (w : World) (a : Option Addr) (n c n' c' : Nat) => run_neq_slice_nil_any (P := Try.prog) w 22 5 a n c n' c' Try.underlying22
  obtain ⟨i0, hi, hz0, hz1, hz2⟩ := info_parts info5
  have HC : ∀ w1 : World, w.grownBy w1 none → 0 < (rowOf f len).length → ∃ ad, some x = some ad ∧ ∀ j v, (rowOf f len)[j]? = some v → w1.cell? (ad.add j) = some v := fun w1 hg hp => src_of hc hg hp
  obtain ⟨S, hS⟩ : ∃ S : Prop, S = ∀ w1 : World, w.grownBy w1 none → 0 < (rowOf f len).length → ∃ ad, some x = some ad ∧ ∀ j v, (rowOf f len)[j]? = some v → w1.cell? (ad.add j) = some v := ⟨_, rfl⟩
  have hSS : S := by rw [hS]; exact HC
  have HS : Hid (S = _) := hS
  clear hc HC hS
  go_enter Try.func3, Try.ntmps3
  go_wp2_with (first
    | (go_at_call 8; refine (zzB_yes _ _ _ _ (by omega)).mono ?_; rintro e w' ⟨rfl, rfl⟩)
    | (at_make; refine wpList_make_full _ rfl (.tmp 13) (.tmp 13) 22 rfl w.heap.size 5 i0 (.int .u8 0) 1 Try.underlying22 hi hz0 hz1 _ _ _ _ len rfl rfl (by omega) (by omega) (by rw [hz2]; omega) (by unfold maxLen; omega) (Nat.le_refl _) ?_; intro w1 hown1 hgrow1; have hR : Hid _ := HasRow.of_owns hown1; rw [zeros] at hR; clear hown1)
    | (refine wpList_copy_splice rfl (.tmp 15) (.tmp 16) 22 22 rfl 5 Try.underlying22 size5 _ _ _ _ _ _ rfl rfl w.heap.size 0 (List.replicate len (.int .u8 0)) 5 hR.out (rowOf f len) (by rw [rowOf_len]; simp) (fun h => ⟨rfl, (HS.out ▸ hSS : ∀ w1 : World, w.grownBy w1 none → 0 < (rowOf f len).length → ∃ ad, some x = some ad ∧ ∀ j v, (rowOf f len)[j]? = some v → w1.cell? (ad.add j) = some v) _ hgrow1 h⟩) (by rw [rowOf_len]; simp) (rowOf_one f len) w.heap.size w ((Below.refl _ w).grown hgrow1 (Nat.le_refl _) (fun k h => by cases h)) (Nat.le_refl _) ?_; intro w2 hR2 hB2))
  have hR3 := end_of hR2
  have h1 := zzHex_any (some ⟨w.heap.size, 0, none⟩) len len f w2 (by omega) (cell_of hR3)
  have h2 := alpha_any (some ⟨w.heap.size, 0, none⟩) len len f w2 (by omega) (cell_of hR3)
  refine h1.mono ?_
  rintro e w' ⟨rfl, rfl⟩
  go_wp2_with fail
  refine h2.mono ?_
  rintro e w' ⟨rfl, n, rfl⟩
  go_wp2_with fail
  go_ret
  exact ⟨ret_bool (by simp), below_drewN hB2 _⟩

theorem walk (a0 : Option Addr) (len0 cap0 : Nat) (z0 : List Int) (w : World) (w0 : IsRow .u8 w a0 len0 cap0 z0) :
    Calls Try.prog 3 #[.slice a0 len0 cap0] w fun e w' => e = .returned (.bool true) ∧ Below w.heap.size w w' := by
  have hl : len0 ≤ 9223372036854775807 := by
    rcases w0 with ⟨_, rfl, _⟩ | ⟨x, _, h1, h2, _⟩
    · omega
    · unfold maxLen at h2; omega
  by_cases c1 : 1048576 < len0
  · exact walk_long _ _ _ _ hl c1
  rcases w0 with ⟨rfl, rfl, rfl, _⟩ | ⟨x, rfl, h1, h2, h3, h4, _⟩
  · exact walk_nil w
  refine walk_some x len0 cap0 (fun i => z0.getD i 0) w (by omega) ?_
  intro hpos
  obtain ⟨b, off, rfl, hc⟩ := ints_at h4 (by omega)
  exact ⟨b, off, rfl, World.block_lt_of_cell? w _ (hc 0 (by omega)), fun i hi => hc i (by omega)⟩

/-! ### THE ROW's STEP: WRITTEN OUT: LEAVE IT -/
set_option maxRecDepth 100000 in
theorem lifted (os : Os) (started : os.Started) (H : Type) (enc : TypeId × Value → H) :
    ReturnsInHanded {} Try.checked os 3 .any (Rows.fnIsLowerHexMatchesAlphabetSpec.pre6 enc Try.prog Try.f3 Rows.fnIsLowerHexMatchesAlphabetRow.domain false) (Rows.fnIsLowerHexMatchesAlphabetSpec.post enc Try.prog Try.f3 false true false false) := by
  refine returnsInHanded_of_change (C := Try.checked) own started (by kernel_rfl) Try.func3
    (ChangeSpec.witness6 (enc := enc) (C := Try.checked) false ⟨#[], #[.slice none 0 0], []⟩ 8 (by kernel_rfl) (by kernel_rfl) (by kernel_rfl) (by kernel_rfl)) ?_
  intro W base args ds gs before hval0 hW hcnd _
  have hval : ∀ (j : Nat) t v, Try.f3.params[j]? = some t → args[j]? = some v → Value.okWide Try.prog W .any base t v := hval0
  have hW' := hW
  obtain ⟨p, q, hA0, hV, rfl, hfz, hnd⟩ := hW
  have hA : DataW.TrodAll enc Try.prog W 0 (fun _ => true) true Try.f3.params.toList args.toList ds p := hA0
  rw [Try.params3] at hA hval
  obtain ⟨v0, vs0, d0, ds0, p0, q0, hargs, rfl, rfl, h0, r0⟩ := trodAll_cons hA
  obtain ⟨rfl, rfl, rfl⟩ := trodAll_nil r0
  obtain rfl : args = #[v0] := by cases args; simp_all
  obtain ⟨rfl, rfl⟩ := trodVars_none hV
  obtain ⟨a0, len0, cap0, rfl⟩ := okWide_slice Try.underlying22 (hval 0 22 v0 rfl rfl)
  have k0 := h0
  have lt0 : ∀ x ∈ p0, x.block < W.heap.size := by obtain ⟨m, hm⟩ := k0; exact DataW.trod_lt m _ _ _ hm
  obtain ⟨z0, w0⟩ : ∃ zs, IsRow .u8 W a0 len0 cap0 zs := by
    obtain ⟨fuel, hf⟩ := h0
    rcases open_ints Try.underlying22 Try.underlying5 (by kernel_rfl) hf with ⟨hcs, _⟩ | ⟨x, l, c, zs, hcs, _, hl, hm, hz, _, hcell, hwz⟩
    · simp [Value.cells] at hcs
      obtain ⟨rfl, rfl, rfl⟩ := hcs
      exact ⟨[], .inl ⟨rfl, rfl, rfl, rfl⟩⟩
    · simp [Value.cells] at hcs
      obtain ⟨rfl, rfl, rfl⟩ := hcs
      exact ⟨zs, .inr ⟨_, rfl, hl, hm, by simpa using hz, hcell, hwz⟩⟩
  clear hA0 hval0
  refine (walk a0 len0 cap0 z0 W w0).mono fun e W' ⟨he, bel⟩ => ?_
  subst he
  exact ⟨_, rfl, _, _, _, [], _, [], hW', trodAll_mk1 (shut_bool Try.underlying4 _), (trodAll_cons_mk (Below.trod laidOut (by kernel_rfl) (of_decide_eq_true (by kernel_rfl)) k0 bel lt0) trodAll_mk0), rfl, bel.frame _, fun h => by cases h⟩

theorem over : Rows.fnIsLowerHexMatchesAlphabetRow.holds Try.pinned (OpenSpec.ofChange Rows.fnIsLowerHexMatchesAlphabetSpec) :=
  OpenClaim.holds_of_wide 3 Try.f3 rfl rfl rfl rfl rfl rfl rfl ⟨rfl, rfl, rfl, rfl, rfl⟩ rfl rfl rfl rfl rfl (by kernel_rfl) Try.func3 (by kernel_rfl)
    (of_decide_eq_true (by kernel_rfl)) (by unfold Func.isWrapper; first | (rw [if_pos (by decide +kernel)]; kernel_rfl) | (rw [if_neg (by decide +kernel)]; exact ⟨rfl, rfl⟩))
    (fun os started H enc _ => lifted os started H enc)

/-- ████ THE STATEMENT ████ -/
theorem proved : Rows.FnIsLowerHexMatchesAlphabetSaid := over
end Go.Proofs.Qxb6000997a.fnIsLowerHexMatchesAlphabet
