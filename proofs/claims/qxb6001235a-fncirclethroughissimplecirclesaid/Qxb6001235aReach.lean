import Derived.Test.Qxb6001235aGraph
/- The plain mathematics of the search with a stack: no Go in sight. -/
namespace Go.Proofs.Qxb6001235a

/-- s: the source; hold: the vertex whose edges are being looked at. -/
structure RF (n : Nat) (E : Nat → List Nat) (s : Nat) (seen : Nat → Bool) (stack : List Nat) (hold : Nat → Prop) : Prop where
  src : seen s = true
  snd : ∀ y, y < n → seen y = true → Reach E s y
  stk : ∀ x, x ∈ stack → x < n ∧ seen x = true
  nod : stack.Nodup
  clo : ∀ x, x < n → seen x = true → x ∈ stack ∨ hold x ∨ ∀ y, y ∈ E x → seen y = true

def rfM (n : Nat) (seen : Nat → Bool) (stack : List Nat) : Nat := 2 * cnt (fun x => !seen x) n + stack.length

section
variable {n : Nat} {E : Nat → List Nat} {s v y : Nat} {seen : Nat → Bool} {st stack : List Nat} {hold : Nat → Prop}

theorem RF.len (h : RF n E s seen stack hold) : stack.length ≤ n := by
  rw [← cnt_mem stack n h.nod (fun x hx => (h.stk x hx).1)]
  exact cnt_le _ _

theorem rf_start (hs : s < n) : RF n E s (upd (fun _ => false) s true) [s] (fun _ => False) := by
  have e : ∀ x, upd (fun _ => false) s true x = true → x = s := fun x hx => by
    by_cases h : x = s
    · exact h
    · rw [upd_other _ _ h] at hx; cases hx
  refine ⟨upd_same _ _ _, fun y _ hy => by rw [e y hy]; exact Reach.refl _ _, fun x hx => ?_, by simp, fun x _ hx => .inl (by rw [e x hx]; simp)⟩
  simp at hx; subst hx
  exact ⟨hs, upd_same _ _ _⟩

theorem rf_pop (h : RF n E s seen (st ++ [v]) (fun _ => False)) : RF n E s seen st (fun x => x = v) := by
  refine ⟨h.src, h.snd, fun x hx => h.stk x (by simp [hx]), (List.nodup_append.1 h.nod).1, fun x hx hsx => ?_⟩
  rcases h.clo x hx hsx with h1 | h1 | h1
  · rcases List.mem_append.1 h1 with h2 | h2
    · exact .inl h2
    · exact .inr (.inl (by simpa using h2))
  · exact h1.elim
  · exact .inr (.inr h1)

theorem rf_push (h : RF n E s seen st hold) (hv : v < n) (hvs : seen v = true) (hy : y ∈ E v) (hyn : y < n) (hyu : seen y = false) : RF n E s (upd seen y true) (st ++ [y]) hold := by
  have mono : ∀ x, seen x = true → upd seen y true x = true := fun x hx => by
    by_cases e : x = y
    · subst e; exact upd_same _ _ _
    · rw [upd_other _ _ e]; exact hx
  refine ⟨mono _ h.src, fun x hx hsx => ?_, fun x hx => ?_, ?_, fun x hx hsx => ?_⟩
  · by_cases e : x = y
    · subst e; exact (h.snd v hv hvs).trans (Reach.edge hy)
    · rw [upd_other _ _ e] at hsx; exact h.snd x hx hsx
  · rcases List.mem_append.1 hx with h1 | h1
    · exact ⟨(h.stk x h1).1, mono x (h.stk x h1).2⟩
    · simp at h1; subst h1; exact ⟨hyn, upd_same _ _ _⟩
  · rw [List.nodup_append]
    refine ⟨h.nod, by simp, fun a ha b hb e => ?_⟩
    simp at hb
    subst hb
    have := (h.stk a ha).2
    rw [e, hyu] at this; cases this
  · by_cases e : x = y
    · subst e; exact .inl (by simp)
    · rw [upd_other _ _ e] at hsx
      rcases h.clo x hx hsx with h1 | h1 | h1
      · exact .inl (by simp [h1])
      · exact .inr (.inl h1)
      · exact .inr (.inr (fun z hz => mono z (h1 z hz)))

theorem rf_push_m (hyn : y < n) (hyu : seen y = false) : rfM n (upd seen y true) (st ++ [y]) + 1 = rfM n seen st := by
  unfold rfM
  have : cnt (fun x => !seen x) n = cnt (fun x => !upd seen y true x) n + 1 := by
    refine cnt_add (a := y) hyn (by simp [upd_same]) (by simp [hyu]) ?_
    intro x _ hx
    rw [upd_other _ _ hx]
  simp
  omega

theorem rf_pop_m : rfM n seen (st ++ [v]) = rfM n seen st + 1 := by
  unfold rfM
  simp
  omega

theorem rf_done (h : RF n E s seen st (fun x => x = v)) (hall : ∀ y, y ∈ E v → seen y = true) : RF n E s seen st (fun _ => False) := by
  refine ⟨h.src, h.snd, h.stk, h.nod, fun x hx hsx => ?_⟩
  rcases h.clo x hx hsx with h1 | h1 | h1
  · exact .inl h1
  · subst h1; exact .inr (.inr hall)
  · exact .inr (.inr h1)

theorem rf_end (h : RF n E s seen [] (fun _ => False)) (hs : s < n) (hE : ∀ x, x < n → ∀ y, y ∈ E x → y < n) (hy : y < n) : seen y = true ↔ Reach E s y := by
  constructor
  · exact h.snd y hy
  · intro hr
    refine (hr (fun z => z < n ∧ seen z = true) ⟨hs, h.src⟩ ?_).2
    rintro a b ⟨ha, has⟩ hb
    refine ⟨hE a ha b hb, ?_⟩
    rcases h.clo a ha has with h1 | h1 | h1
    · simp at h1
    · exact h1.elim
    · exact h1 b hb
end

end Go.Proofs.Qxb6001235a
