import Derived.Test.Qxb6000997aRows
import Derived.WalkKit
import Derived.ProofKit
import Derived.OpenShut
import Derived.ShutString
import Derived.ChangeOld
import Derived.Below
import Derived.Test.Qxb6000997aFirstWalk
namespace Go.Proofs.Qxb6000997a.fnNotPlainFirstFlagIsFirstUnplainByte
open Go.ChangeShapes Go.WideShapes Go.ChangeAt Go.RowKit
set_option linter.unusedVariables false

theorem own : ownKnob Try.prog.godebug = none := by kernel_rfl
theorem laidOut : laidOutB Try.prog = true := by kernel_rfl
theorem cells30 : Try.prog.cellsOf 30 = 8 := by kernel_rfl
theorem cells5 : Try.prog.cellsOf 5 = 1 := by kernel_rfl

theorem list8 {α : Type} (l : List α) (h : l.length = 8) : ∃ a b c d e f g i, l = [a, b, c, d, e, f, g, i] := by
  match l, h with
  | [a, b, c, d, e, f, g, i], _ => exact ⟨a, b, c, d, e, f, g, i, rfl⟩

/-- Eight bytes that came in by value. -/
theorem open8 {H : Type} {enc : TypeId × Value → H} {W : World} {r : Reach} {base b0 : Nat} {spare : Nat → Bool} {held : Bool} {v : Value} {d : DataW H} {p : List MemPlace}
    (hv : Value.okWide Try.prog W r b0 30 v) (h : DataW.Trod enc Try.prog W base spare held 30 v d p) :
    ∃ f : Nat → Nat, (∀ i, f i < 256) ∧ v = .agg #[.int .u8 (f 0), .int .u8 (f 1), .int .u8 (f 2), .int .u8 (f 3), .int .u8 (f 4), .int .u8 (f 5), .int .u8 (f 6), .int .u8 (f 7)] := by
  obtain ⟨cs, rfl, hsz, _⟩ : ∃ cs, v = .agg cs ∧ cs.size = Try.prog.cellsOf 30 ∧ Row.okWide Try.prog W r b0 30 cs := by
    simpa [Value.okWide, Try.underlying30] using hv
  rw [cells30] at hsz
  obtain ⟨l⟩ := cs
  obtain ⟨c0, c1, c2, c3, c4, c5, c6, c7, rfl⟩ := list8 l hsz
  obtain ⟨fuel, hf⟩ := h
  obtain ⟨xs, m, _, _, _, hlen, hx⟩ := DataW.trod_array Try.underlying30 hf
  have get : ∀ i, i < 8 → ∃ n : Nat, n < 256 ∧ [c0, c1, c2, c3, c4, c5, c6, c7][i]? = some (.int .u8 (n : Int)) := by
    intro i hi
    have h1 := hx i hi
    rw [cells5] at h1
    have h2 : xs[i]? = some (xs[i]'(by omega)) := List.getElem?_eq_getElem (by omega)
    rw [h2] at h1
    obtain ⟨n, e0, _, wn⟩ := DataW.trod_int Try.underlying5 h1
    have bn := bounds_u8 wn
    refine ⟨n.toNat, by omega, ?_⟩
    rw [show ((n.toNat : Nat) : Int) = n from by omega]
    rcases lt8 hi with rfl | rfl | rfl | rfl | rfl | rfl | rfl | rfl <;> simpa [Value.cells] using e0
  have fe : ∃ f : Nat → Nat, ∀ i, f i < 256 ∧ (i < 8 → [c0, c1, c2, c3, c4, c5, c6, c7][i]? = some (.int .u8 (f i : Int))) := by
    have : ∀ i, ∃ n : Nat, n < 256 ∧ (i < 8 → [c0, c1, c2, c3, c4, c5, c6, c7][i]? = some (.int .u8 (n : Int))) := by
      intro i
      by_cases hi : i < 8
      · obtain ⟨n, h1, h2⟩ := get i hi
        exact ⟨n, h1, fun _ => h2⟩
      · exact ⟨0, by omega, fun h => absurd h hi⟩
    exact ⟨fun i => Classical.choose (this i), fun i => Classical.choose_spec (this i)⟩
  obtain ⟨f, hf2⟩ := fe
  refine ⟨f, fun i => (hf2 i).1, ?_⟩
  have e0 := (hf2 0).2 (by omega)
  have e1 := (hf2 1).2 (by omega)
  have e2 := (hf2 2).2 (by omega)
  have e3 := (hf2 3).2 (by omega)
  have e4 := (hf2 4).2 (by omega)
  have e5 := (hf2 5).2 (by omega)
  have e6 := (hf2 6).2 (by omega)
  have e7 := (hf2 7).2 (by omega)
  simp at e0 e1 e2 e3 e4 e5 e6 e7
  subst e0 e1 e2 e3 e4 e5 e6 e7
  rfl

set_option maxRecDepth 100000 in
theorem lifted (os : Os) (started : os.Started) (H : Type) (enc : TypeId × Value → H) :
    ReturnsInHanded {} Try.checked os 7 .any (Rows.fnNotPlainFirstFlagIsFirstUnplainByteSpec.pre6 enc Try.prog Try.f7 Rows.fnNotPlainFirstFlagIsFirstUnplainByteRow.domain false) (Rows.fnNotPlainFirstFlagIsFirstUnplainByteSpec.post enc Try.prog Try.f7 false true false false) := by
  refine returnsInHanded_of_change (C := Try.checked) own started (by kernel_rfl) Try.func7
    (ChangeSpec.witness6 (enc := enc) (C := Try.checked) false ⟨#[], #[.agg #[.int .u8 0, .int .u8 0, .int .u8 0, .int .u8 0, .int .u8 0, .int .u8 0, .int .u8 0, .int .u8 0]], []⟩ 8 (by kernel_rfl) (by kernel_rfl) (by kernel_rfl) (by kernel_rfl)) ?_
  intro W base args ds gs before hval0 hW hcnd _
  have hval : ∀ (j : Nat) t v, Try.f7.params[j]? = some t → args[j]? = some v → Value.okWide Try.prog W .any base t v := hval0
  have hW' := hW
  obtain ⟨p, q, hA0, hV, rfl, hfz, hnd⟩ := hW
  have hA : DataW.TrodAll enc Try.prog W 0 (fun _ => true) true Try.f7.params.toList args.toList ds p := hA0
  rw [Try.params7] at hA hval
  obtain ⟨v0, vs0, d0, ds0, p0, q0, hargs, rfl, rfl, h0, r0⟩ := trodAll_cons hA
  obtain ⟨rfl, rfl, rfl⟩ := trodAll_nil r0
  obtain rfl : args = #[v0] := by cases args; simp_all
  obtain ⟨rfl, rfl⟩ := trodVars_none hV
  have k0 := h0
  have lt0 : ∀ x ∈ p0, x.block < W.heap.size := by obtain ⟨m, hm⟩ := k0; exact DataW.trod_lt m _ _ _ hm
  obtain ⟨f, hf, rfl⟩ := open8 (hval 0 30 v0 rfl rfl) h0
  clear hA0 hval0
  refine (walk7 f hf W).mono fun e W' ⟨he, bel⟩ => ?_
  subst he
  exact ⟨_, rfl, _, _, _, [], _, [], hW', trodAll_mk1 (shut_bool Try.underlying4 _), (trodAll_cons_mk (Below.trod laidOut (by kernel_rfl) (of_decide_eq_true (by kernel_rfl)) k0 bel lt0) trodAll_mk0), rfl, bel.frame _, fun h => by cases h⟩

theorem over : Rows.fnNotPlainFirstFlagIsFirstUnplainByteRow.holds Try.pinned (OpenSpec.ofChange Rows.fnNotPlainFirstFlagIsFirstUnplainByteSpec) :=
  OpenClaim.holds_of_wide 7 Try.f7 rfl rfl rfl rfl rfl rfl rfl ⟨rfl, rfl, rfl, rfl, rfl⟩ rfl rfl rfl rfl rfl (by kernel_rfl) Try.func7 (by kernel_rfl)
    (of_decide_eq_true (by kernel_rfl)) (by unfold Func.isWrapper; first | (rw [if_pos (by decide +kernel)]; kernel_rfl) | (rw [if_neg (by decide +kernel)]; exact ⟨rfl, rfl⟩))
    (fun os started H enc _ => lifted os started H enc)

theorem proved : Rows.FnNotPlainFirstFlagIsFirstUnplainByteSaid := over
end Go.Proofs.Qxb6000997a.fnNotPlainFirstFlagIsFirstUnplainByte
