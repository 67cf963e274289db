import Derived.Test.Qxb6000997aRows
import Derived.WalkKit
import Derived.ProofKit
import Derived.OpenShut
import Derived.ShutString
import Derived.ChangeOld
import Derived.Below
import Derived.Test.Qxb6000997aLowUpLaw
namespace Go.Proofs.Qxb6000997a.fnIsLowerHexAcceptsLowerRefusesUpper
open Go.ChangeShapes Go.WideShapes Go.ChangeAt Go.RowKit
open Go.ChangeMaps (open_string shut_string)
set_option linter.unusedVariables false

theorem own : ownKnob Try.prog.godebug = none := by kernel_rfl
theorem laidOut : laidOutB Try.prog = true := by kernel_rfl

/-- WHAT THE WALK IS TOLD OF A SLICE OF INTEGERS THAT CAME IN: it is nil; or it leads to a row of 'cap' cells, the numbers 'zs' (the first 'len' are its elements, the rest its spare room), each fitting its kind. -/
def IsRow (k : IntKind) (w : World) (a : Option Addr) (len cap : Nat) (zs : List Int) : Prop :=
  (a = none ∧ len = 0 ∧ cap = 0 ∧ zs = []) ∨
  ∃ x, a = some x ∧ len ≤ cap ∧ cap ≤ maxLen ∧ zs.length = cap ∧ (∀ i, i < zs.length → w.cell? (x.add i) = some (.int k (zs.getD i 0))) ∧ ∀ n ∈ zs, (Lit.int k n).wf = true

/-! ### STEP 1: THE WALK -/
theorem info5 : (Try.prog.info? 5).map (fun i => (i.zero, i.size, i.bytes)) = some (some (.int .u8 0), 1, 1) := by kernel_rfl

set_option maxHeartbeats 400000 in
theorem zzB_yes (a : Option Addr) (len cap : Nat) (w : World) (h : len ≤ 1048576) :
    Calls Try.prog 12 #[.slice a len cap] w fun e w' => e = .returned (.bool true) ∧ w = w' := by
  go_enter Try.func12, Try.ntmps12
  go_wp2
  go_ret
  exact ⟨rfl, rfl⟩

set_option maxHeartbeats 400000 in
theorem zzB_no (a : Option Addr) (len cap : Nat) (w : World) (hl : len ≤ 9223372036854775807) (h : 1048576 < len) :
    Calls Try.prog 12 #[.slice a len cap] w fun e w' => e = .returned (.bool false) ∧ w = w' := by
  go_enter Try.func12, Try.ntmps12
  go_wp2
  go_ret
  exact ⟨rfl, rfl⟩

set_option maxHeartbeats 400000 in
theorem walk_long (a : Option Addr) (len cap : Nat) (w : World) (hl : len ≤ 9223372036854775807) (h : 1048576 < len) :
    Calls Try.prog 5 #[.slice a len cap] w fun e w' => e = .returned (.bool true) ∧ Below w.heap.size w w' := by
  go_enter Try.func5, Try.ntmps5
  go_wp2_with (go_at_call 12; refine (zzB_no _ _ _ _ hl h).mono ?_; rintro e w' ⟨rfl, rfl⟩)
  go_ret
  exact ⟨rfl, Below.refl _ _⟩

set_option maxHeartbeats 400000 in
theorem walk_mid (a : Option Addr) (len cap : Nat) (w : World) (hl : len ≤ 1048576) (h : 524288 < len) :
    Calls Try.prog 5 #[.slice a len cap] w fun e w' => e = .returned (.bool true) ∧ Below w.heap.size w w' := by
  go_enter Try.func5, Try.ntmps5
  go_wp2_with (go_at_call 12; refine (zzB_yes _ _ _ _ hl).mono ?_; rintro e w' ⟨rfl, rfl⟩)
  go_ret
  exact ⟨rfl, Below.refl _ _⟩

theorem zeros (n : Nat) : (madeCells (Value.cells (.int .u8 0)) (n * 1)).toList = (List.replicate n (0 : Int)).map (Value.int .u8) := by
  rw [Nat.mul_one, List.map_replicate]; exact toList_madeCells_one _ _

theorem letter_yes {f : Nat → Int} {k : Nat} (h : 10 ≤ f k / 16 ∨ 10 ≤ f k % 16) : Value.bool true = Value.bool (anyLetter f (2 * (k + 1))) := by
  rw [anyLetter_two]
  rcases h with h | h <;> simp [h]
theorem letter_no {f : Nat → Int} {k : Nat} (h : f k / 16 < 10 ∧ f k % 16 < 10) : Value.bool (anyLetter f (2 * k)) = Value.bool (anyLetter f (2 * (k + 1))) := by
  rw [anyLetter_two, decide_eq_false (by omega), decide_eq_false (by omega)]; simp

set_option maxHeartbeats 800000 in
theorem walk_short (a : Option Addr) (len cap : Nat) (f : Nat → Int) (w : World) (hl : len ≤ 524288)
    (hc : 0 < len → ∃ b off, a = some ⟨b, off, none⟩ ∧ b < w.heap.size ∧ ∀ i, i < len → w.cell? ⟨b, off + i, none⟩ = some (.int .u8 (f i))) (hf : ∀ i, 0 ≤ f i ∧ f i ≤ 255) :
    Calls Try.prog 5 #[.slice a len cap] w fun e w' => e = .returned (.bool true) ∧ Below w.heap.size w w' := by
  obtain ⟨i0, hi, hz0, hz1, hz2⟩ := info_parts info5
  go_enter Try.func5, Try.ntmps5
  go_wp2_with (first
   | (go_at_call 12; refine (zzB_yes _ _ _ _ (by omega)).mono ?_; rintro e w' ⟨rfl, rfl⟩)
   | (at_make; refine wpList_make_full _ rfl (.tmp 17) (.tmp 17) 22 rfl w.heap.size 5 i0 (.int .u8 0) 1 Try.underlying22 hi hz0 hz1 _ _ _ _ (2 * len) rfl rfl (by omega) (by omega) (by rw [hz2]; omega) (by unfold maxLen; omega) (Nat.le_refl _) ?_; intro w1 hown1 hgrow1)
   | (at_make; refine wpList_make_full _ rfl (.tmp 21) (.tmp 21) 22 rfl w.heap.size 5 i0 (.int .u8 0) 1 Try.underlying22 hi hz0 hz1 _ _ _ _ (2 * len) rfl rfl (by omega) (by omega) (by rw [hz2]; omega) (by unfold maxLen; omega) hgrow1.size ?_; intro w2 hown2 hgrow2))
  have hR1 := HasRow.of_owns hown1
  have hR2 := HasRow.of_owns hown2
  have hlt1 := hR1.lt
  have hR1' := hR1.grown hgrow2 (by simp)
  have hb2 : Below w.heap.size w w2 := ((Below.refl _ w).grown hgrow1 (Nat.le_refl _) (fun k h => by cases h)).grown hgrow2 hgrow1.size (fun k h => by cases h)
  rw [zeros] at hR1' hR2
  clear hown1 hown2 hR1 hgrow1 hgrow2
  generalize hg2 : w1.heap.size = g2 at *
  generalize hg1 : w.heap.size = g1 at *
  have HG : Hid (w.heap.size = g1) := hg1
  clear hg1 hg2
  go_loopw [5, 6] (fun hl i wr => ∃ (k : Nat) (L U : List Int), i = .int .i64 k ∧ hl = .bool (anyLetter f (2 * k)) ∧ Rel5 f len k g1 g2 L U w wr) (fun _ i _ => len - (intOf i).toNat)
  case atStart => exact ⟨0, List.replicate (2 * len) 0, List.replicate (2 * len) 0, rfl, rfl, ⟨Nat.zero_le _, hR1', hR2, by simp, by simp, fun j hj => by omega, fun j hj => by omega, hb2⟩⟩
  case round =>
    obtain ⟨k, L, U, rfl, rfl, R⟩ := hrel
    have hR1 := R.hk
    clear hR1' hR2 hb2
    by_cases hlt : k < len
    · obtain ⟨b, off, rfl, hb, hc⟩ := hc (by omega)
      have hck : wr.cell? ⟨b, off + k, none⟩ = some (.int .u8 (f k)) := (R.bel.cell (by exact hb)).trans (hc k hlt)
      have hfk := hf k
      have l1 := R.l1
      have l2 := R.l2
      have c1 := R.r1.ints_cell (2 * k) (by omega)
      have c2 := R.r1.ints_cell (2 * k + 1) (by omega)
      have c3 := R.r2.ints_cell (2 * k) (by omega)
      have c4 := R.r2.ints_cell (2 * k + 1) (by omega)
      have f1 : ∀ j, wr.frozen? ⟨g1, j, none⟩ = false := fun j => R.r1.frozen j
      have f2 : ∀ j, wr.frozen? ⟨g2, j, none⟩ = false := fun j => R.r2.frozen j
      generalize L.getD (2 * k) 0 = x1 at c1
      generalize L.getD (2 * k + 1) 0 = x2 at c2
      generalize U.getD (2 * k) 0 = x3 at c3
      generalize U.getD (2 * k + 1) 0 = x4 at c4
      clear hf hc l1 l2
      go_wp2
      all_goals
        have q1 : 0 ≤ f k / 16 := by omega
        have q2 : f k / 16 < 16 := by omega
        have q3 : 0 ≤ f k % 16 := by omega
        have q4 : f k % 16 < 16 := by omega
        go_roundw
        case rel => exact ⟨k + 1, _, _, by go_num, by first | exact letter_yes (by omega) | exact letter_no (by omega), rel5_step R hlt hlt1 (lo_at _ q1 q2 _) (lo_at _ q3 q4 _) (up_at _ q1 q2 _) (up_at _ q3 q4 _)⟩
        case measure => simp [intOf]; omega
    · obtain rfl : k = len := by omega
      have l1 := R.l1
      have l2 := R.l2
      have e1 : hexAll (fun j => L.getD j 0) (2 * k) = true := low_all hf _ R.v1
      have e2 : hexAll (fun j => U.getD j 0) (2 * k) = !anyLetter f (2 * k) := up_all hf _ R.v2
      have h1 := fun w (h : wr = w) => zzHex_any (some ⟨g1, 0, none⟩) (2 * k) (2 * k) (fun j => L.getD j 0) w (by omega) (fun _ => ⟨g1, 0, rfl, fun i hi => by rw [Nat.zero_add, ← h]; exact R.r1.ints_cell i (by omega)⟩)
      have h2 := fun w (h : wr = w) => zzHex_any (some ⟨g2, 0, none⟩) (2 * k) (2 * k) (fun j => U.getD j 0) w (by omega) (fun _ => ⟨g2, 0, rfl, fun i hi => by rw [Nat.zero_add, ← h]; exact R.r2.ints_cell i (by omega)⟩)
      rw [e1] at h1
      rw [e2] at h2
      have H1 : Hid _ := h1
      have H2 : Hid _ := h2
      clear h1 h2 e1 e2 l1 l2 hf hc
      go_wp2_with fail
      refine (H1.out _ rfl).mono ?_
      rintro e w' ⟨rfl, rfl⟩
      go_wp2_with fail
      refine (H2.out _ rfl).mono ?_
      rintro e w' ⟨rfl, rfl⟩
      go_wp2_with fail
      go_ret
      have hB := R.bel
      rw [← HG.out] at hB
      exact ⟨ret_bool (by simp), hB⟩

theorem walk (a0 : Option Addr) (len0 cap0 : Nat) (z0 : List Int) (w : World) (w0 : IsRow .u8 w a0 len0 cap0 z0) :
    Calls Try.prog 5 #[.slice a0 len0 cap0] w fun e w' => e = .returned (.bool true) ∧ Below w.heap.size w w' := by
  have hl : len0 ≤ 9223372036854775807 := by
    rcases w0 with ⟨_, rfl, _⟩ | ⟨x, _, h1, h2, _⟩
    · omega
    · unfold maxLen at h2; omega
  by_cases c1 : 1048576 < len0
  · exact walk_long _ _ _ _ hl c1
  by_cases c2 : 524288 < len0
  · exact walk_mid _ _ _ _ (by omega) c2
  refine walk_short a0 len0 cap0 (fun i => z0.getD i 0) w (by omega) ?_ ?_
  · intro hpos
    rcases w0 with ⟨_, rfl, _⟩ | ⟨x, rfl, h1, h2, h3, h4, _⟩
    · omega
    · obtain ⟨b, off, rfl, hc⟩ := ints_at h4 (by omega)
      exact ⟨b, off, rfl, World.block_lt_of_cell? w _ (hc 0 (by omega)), fun i hi => hc i (by omega)⟩
  · intro i
    rcases w0 with ⟨_, _, _, rfl⟩ | ⟨x, _, _, _, _, _, h5⟩
    · simp
    · have := range_u8 h5 i
      simpa [List.getD_eq_getElem?_getD] using this

/-! ### THE ROW's STEP: WRITTEN OUT: LEAVE IT -/
set_option maxRecDepth 100000 in
theorem lifted (os : Os) (started : os.Started) (H : Type) (enc : TypeId × Value → H) :
    ReturnsInHanded {} Try.checked os 5 .any (Rows.fnIsLowerHexAcceptsLowerRefusesUpperSpec.pre6 enc Try.prog Try.f5 Rows.fnIsLowerHexAcceptsLowerRefusesUpperRow.domain false) (Rows.fnIsLowerHexAcceptsLowerRefusesUpperSpec.post enc Try.prog Try.f5 false true false false) := by
  refine returnsInHanded_of_change (C := Try.checked) own started (by kernel_rfl) Try.func5
    (ChangeSpec.witness6 (enc := enc) (C := Try.checked) false ⟨#[], #[.slice none 0 0], []⟩ 8 (by kernel_rfl) (by kernel_rfl) (by kernel_rfl) (by kernel_rfl)) ?_
  intro W base args ds gs before hval0 hW hcnd _
  have hval : ∀ (j : Nat) t v, Try.f5.params[j]? = some t → args[j]? = some v → Value.okWide Try.prog W .any base t v := hval0
  have hW' := hW
  obtain ⟨p, q, hA0, hV, rfl, hfz, hnd⟩ := hW
  have hA : DataW.TrodAll enc Try.prog W 0 (fun _ => true) true Try.f5.params.toList args.toList ds p := hA0
  rw [Try.params5] at hA hval
  obtain ⟨v0, vs0, d0, ds0, p0, q0, hargs, rfl, rfl, h0, r0⟩ := trodAll_cons hA
  obtain ⟨rfl, rfl, rfl⟩ := trodAll_nil r0
  obtain rfl : args = #[v0] := by cases args; simp_all
  obtain ⟨rfl, rfl⟩ := trodVars_none hV
  obtain ⟨a0, len0, cap0, rfl⟩ := okWide_slice Try.underlying22 (hval 0 22 v0 rfl rfl)
  have k0 := h0
  have lt0 : ∀ x ∈ p0, x.block < W.heap.size := by obtain ⟨m, hm⟩ := k0; exact DataW.trod_lt m _ _ _ hm
  obtain ⟨z0, w0⟩ : ∃ zs, IsRow .u8 W a0 len0 cap0 zs := by
    obtain ⟨fuel, hf⟩ := h0
    rcases open_ints Try.underlying22 Try.underlying5 (by kernel_rfl) hf with ⟨hcs, _⟩ | ⟨x, l, c, zs, hcs, _, hl, hm, hz, _, hcell, hwz⟩
    · simp [Value.cells] at hcs
      obtain ⟨rfl, rfl, rfl⟩ := hcs
      exact ⟨[], .inl ⟨rfl, rfl, rfl, rfl⟩⟩
    · simp [Value.cells] at hcs
      obtain ⟨rfl, rfl, rfl⟩ := hcs
      exact ⟨zs, .inr ⟨_, rfl, hl, hm, by simpa using hz, hcell, hwz⟩⟩
  clear hA0 hval0
  refine (walk a0 len0 cap0 z0 W w0).mono fun e W' ⟨he, bel⟩ => ?_
  subst he
  exact ⟨_, rfl, _, _, _, [], _, [], hW', trodAll_mk1 (shut_bool Try.underlying4 _), (trodAll_cons_mk (Below.trod laidOut (by kernel_rfl) (of_decide_eq_true (by kernel_rfl)) k0 bel lt0) trodAll_mk0), rfl, bel.frame _, fun h => by cases h⟩

theorem over : Rows.fnIsLowerHexAcceptsLowerRefusesUpperRow.holds Try.pinned (OpenSpec.ofChange Rows.fnIsLowerHexAcceptsLowerRefusesUpperSpec) :=
  OpenClaim.holds_of_wide 5 Try.f5 rfl rfl rfl rfl rfl rfl rfl ⟨rfl, rfl, rfl, rfl, rfl⟩ rfl rfl rfl rfl rfl (by kernel_rfl) Try.func5 (by kernel_rfl)
    (of_decide_eq_true (by kernel_rfl)) (by unfold Func.isWrapper; first | (rw [if_pos (by decide +kernel)]; kernel_rfl) | (rw [if_neg (by decide +kernel)]; exact ⟨rfl, rfl⟩))
    (fun os started H enc _ => lifted os started H enc)

/-- ████ THE STATEMENT ████ -/
theorem proved : Rows.FnIsLowerHexAcceptsLowerRefusesUpperSaid := over
end Go.Proofs.Qxb6000997a.fnIsLowerHexAcceptsLowerRefusesUpper
