import Derived.Test.Qxb6001235aClone
import Derived.ProofKit
import Derived.OpenShut
import Derived.ChangeOld
import Derived.Deep.Matrix
namespace Go.Proofs.Qxb6001235a
open Go.ChangeShapes Go.WideShapes Go.ChangeAt Go.RowKit Go.Deep

theorem cells25 : Try.prog.cellsOf 25 = 1 := by kernel_rfl
theorem cells3 : Try.prog.cellsOf 3 = 1 := by kernel_rfl

/-- A slice of slices of ints that came in. -/
theorem open_edges {H : Type} {enc : TypeId × Value → H} {W : World} {v : Value} {d : DataW H} {p : List MemPlace} {r : Go.Reach} {b0 : Nat} (hv : Value.okWide Try.prog W r b0 22 v) (h : DataW.Trod enc Try.prog W 0 (fun _ => true) true 22 v d p) :
    ∃ (R : List (List Int)) (a : Option Addr) (n cap : Nat), v = .slice a n cap ∧ EdgesAt W v R ∧ n ≤ 9223372036854775807 ∧ ∀ u, u < n → (R.getD u []).length ≤ 9223372036854775807 := by
  obtain ⟨a, n, cap, rfl⟩ := okWide_slice Try.underlying22 hv
  obtain ⟨fuel, hf⟩ := h
  rcases open_int_rows Try.underlying22 Try.underlying25 Try.underlying3 cells25 cells3 hf with ⟨hcs, _⟩ | ⟨x, len, cp, A, L, C, Z, hcs, _, hlc, hcm, _, hrow⟩
  · simp [Value.cells] at hcs
    obtain ⟨rfl, rfl, rfl⟩ := hcs
    exact ⟨[], none, 0, 0, rfl, ⟨none, 0, rfl, fun hh => by simp at hh⟩, by omega, fun u hu => by omega⟩
  · simp [Value.cells] at hcs
    obtain ⟨rfl, rfl, rfl⟩ := hcs
    unfold maxLen at hcm
    have hR : ∀ u, u < n → ((List.range n).map (fun r => (Z r).take (L r))).getD u [] = (Z u).take (L u) := fun u hu => by
      simp [List.getD_eq_getElem?_getD, hu]
    have hlen : ∀ u, u < n → ((Z u).take (L u)).length = L u := fun u hu => by
      have h1 := hrow u (by omega)
      rw [List.length_take, h1.2.2.2.1]
      exact Nat.min_eq_left h1.2.1
    refine ⟨(List.range n).map (fun r => (Z r).take (L r)), some x, n, cap, rfl, ⟨some x, cap, by simp, fun hp => ?_⟩, by omega, fun u hu => ?_⟩
    · have hn : 0 < n := by simpa using hp
      have h0 := (hrow 0 (by omega)).1
      obtain ⟨b, off, spot⟩ := x
      have hspot : spot = none := by simpa [Addr.add] using World.cell?_spot h0
      subst hspot
      refine ⟨b, off, rfl, fun i hi => ?_⟩
      have hi' : i < n := by simpa using hi
      obtain ⟨h1, h2, h3, h4, h5, h6, h7⟩ := hrow i (by omega)
      rw [add_plain] at h1
      refine ⟨_, h1, ?_⟩
      rw [hR i hi']
      refine ⟨A i, C i, by rw [hlen i hi'], fun hp2 => ?_⟩
      rw [hlen i hi'] at hp2
      cases hA : A i with
      | none => have := h6 hA; omega
      | some a' =>
        have h8 := (h7 a' hA).2
        obtain ⟨b', off', spot'⟩ := a'
        have hs' : spot' = none := by simpa [Addr.add] using World.cell?_spot (h8 0 (by omega))
        subst hs'
        refine ⟨b', off', rfl, fun j hj => ?_⟩
        rw [hlen i hi'] at hj
        have h9 := h8 j (by omega)
        rw [add_plain] at h9
        rw [h9]
        simp [List.getD_eq_getElem?_getD, hj]
    · rw [hR u hu, hlen u hu]
      have h1 := hrow u (by omega)
      have h2 := h1.2.2.1
      unfold maxLen at h2
      omega
end Go.Proofs.Qxb6001235a
