import Derived.Test.Qxb6001235aGraph
/- The plain mathematics of the walk that looks for a circle: no Go in sight. -/
namespace Go.Proofs.Qxb6001235a

theorem cnt_mono {p q : Nat → Bool} {n : Nat} (h : ∀ x, x < n → p x = true → q x = true) : cnt p n ≤ cnt q n := by
  induction n with
  | zero => exact Nat.le_refl _
  | succ n ih =>
    rw [cnt, cnt]
    have := ih (fun x hx => h x (by omega))
    have h1 := h n (by omega)
    cases hp : p n
    · simp; omega
    · rw [h1 hp]; simp; omega

theorem len_le_cnt {N : List Nat} {p : Nat → Bool} {n : Nat} (hn : N.Nodup) (h : ∀ x, x ∈ N → x < n ∧ p x = true) : N.length ≤ cnt p n := by
  rw [← cnt_mem N n hn (fun x hx => (h x hx).1)]
  exact cnt_mono (fun x _ hx => (h x (by simpa using hx)).2)

/-- Two that meet p: one of them is not s. -/
theorem other_of_cnt {p : Nat → Bool} {n s : Nat} (h : 2 ≤ cnt p n) : ∃ y, y < n ∧ y ≠ s ∧ p y = true := by
  by_cases hex : ∃ y, y < n ∧ y ≠ s ∧ p y = true
  · exact hex
  · have h1 : cnt p n ≤ cnt (fun x => decide (x ∈ [s])) n := cnt_mono (fun x hx hpx => by
      simp
      by_cases e : x = s
      · exact e
      · exact absurd ⟨x, hx, e, hpx⟩ hex)
    have h2 : cnt (fun x => decide (x ∈ [s])) n ≤ 1 := by
      by_cases hs : s < n
      · rw [cnt_mem [s] n (by simp) (fun x hx => by simp at hx; omega)]
        simp
      · rw [cnt_zero (fun x hx => by simp; omega)]; omega
    omega

/-- Each is an edge of the one before. -/
def Chain (E : Nat → List Nat) : List Nat → Prop
  | [] => True
  | [_] => True
  | a :: b :: l => b ∈ E a ∧ Chain E (b :: l)

theorem chain_snoc {E : Nat → List Nat} {v y : Nat} (hy : y ∈ E v) : ∀ {q : List Nat}, Chain E (q ++ [v]) → Chain E (q ++ [v] ++ [y])
  | [], _ => ⟨hy, trivial⟩
  | [_], h => ⟨h.1, hy, trivial⟩
  | _ :: b :: l, h => ⟨h.1, chain_snoc (q := b :: l) hy h.2⟩

theorem chain_at {E : Nat → List Nat} : ∀ {l : List Nat}, Chain E l → ∀ i, i + 1 < l.length → l.getD (i + 1) 0 ∈ E (l.getD i 0)
  | [], _, i, h => by simp at h
  | [_], _, i, h => by simp at h
  | _ :: _ :: _, h, 0, _ => h.1
  | _ :: b :: l, h, i + 1, hi => by
    have := chain_at (l := b :: l) h.2 i (by simpa using hi)
    simpa using this

section
variable (n : Nat) (E : Nat → List Nat) (comp : Nat → Int) (start : Nat)

/-- In start's component. -/
def Cls (y : Nat) : Prop := comp y = comp start

/-- What is marked: vertices of the component, never start. -/
def VisOk (vis : Nat → Bool) : Prop := ∀ y, vis y = true → y < n ∧ Cls comp start y ∧ y ≠ start

/-- The path, from start to v. -/
structure PathOk (vis : Nat → Bool) (path : List Nat) (v : Nat) : Prop where
  last : ∃ q, path = q ++ [v]
  head : ∃ t, path = start :: t ∧ (∀ x, x ∈ t → vis x = true) ∧ t.Nodup
  chain : Chain E path

/-- A circle found. -/
def Found (path : List Nat) : Prop := ∃ inner, path = start :: (inner ++ [start]) ∧ inner.Nodup ∧ (∀ x, x ∈ inner → x < n ∧ Cls comp start x ∧ x ≠ start) ∧ Chain E path

/-- Every edge of x has been looked at: none leads to start, those inside the component lead to what is marked. -/
def Explored (vis : Nat → Bool) (x : Nat) : Prop := ∀ y, y ∈ E x → y ≠ start ∧ (Cls comp start y → vis y = true)

structure CPre (vis : Nat → Bool) (path : List Nat) (v : Nat) : Prop where
  sn : start < n
  vn : v < n
  vok : VisOk n comp start vis
  pok : PathOk E start vis path v

structure CPost (vis : Nat → Bool) (v : Nat) (vis' : Nat → Bool) : Prop where
  mono : ∀ y, vis y = true → vis' y = true
  vok : VisOk n comp start vis'
  expl : ∀ x, (x = v ∨ (vis' x = true ∧ vis x = false)) → Explored E comp start vis' x

structure CLI (vis : Nat → Bool) (v k : Nat) (vis' : Nat → Bool) : Prop where
  mono : ∀ y, vis y = true → vis' y = true
  vok : VisOk n comp start vis'
  expl : ∀ x, vis' x = true → vis x = false → Explored E comp start vis' x
  own : ∀ y, y ∈ (E v).take k → y ≠ start ∧ (Cls comp start y → vis' y = true)
end

section
variable {n : Nat} {E : Nat → List Nat} {comp : Nat → Int} {start : Nat} {vis vis' vis2 : Nat → Bool} {path : List Nat} {v k y : Nat}

theorem PathOk.mono (h : PathOk E start vis path v) (hm : ∀ y, vis y = true → vis' y = true) : PathOk E start vis' path v := by
  obtain ⟨t, h1, h2, h3⟩ := h.head
  exact ⟨h.last, ⟨t, h1, fun x hx => hm x (h2 x hx), h3⟩, h.chain⟩

theorem PathOk.len (h : PathOk E start vis path v) (hv : VisOk n comp start vis) : path.length ≤ n + 1 := by
  obtain ⟨t, h1, h2, h3⟩ := h.head
  have := len_le_cnt (p := fun _ => true) h3 (fun x hx => ⟨(hv x (h2 x hx)).1, rfl⟩)
  have h4 := cnt_le (fun _ => true) n
  rw [h1]
  simp
  omega

theorem PathOk.pos (h : PathOk E start vis path v) : 0 < path.length := by
  obtain ⟨t, h1, _⟩ := h.head
  rw [h1]; simp

theorem cli_start (h : CPre n E comp start vis path v) : CLI n E comp start vis v 0 vis :=
  ⟨fun _ h => h, h.vok, fun x h1 h2 => (by rw [h1] at h2; cases h2), by simp⟩

/-- An edge back to start. -/
theorem found_of (h : CPre n E comp start vis path v) (hy : start ∈ E v) : Found n E comp start (path ++ [start]) := by
  obtain ⟨q, hq⟩ := h.pok.last
  obtain ⟨t, h1, h2, h3⟩ := h.pok.head
  refine ⟨t, by rw [h1]; rfl, h3, fun x hx => h.vok x (h2 x hx), ?_⟩
  have hc := h.pok.chain
  rw [hq] at hc ⊢
  exact chain_snoc hy hc

/-- Into the child. -/
theorem child_cpre (h : CPre n E comp start vis path v) (hl : CLI n E comp start vis v k vis') (hy : y ∈ E v) (hyn : y < n) (hys : y ≠ start) (hyc : Cls comp start y) (hyv : vis' y = false) : CPre n E comp start (upd vis' y true) (path ++ [y]) y := by
  have mono1 : ∀ x, vis' x = true → upd vis' y true x = true := fun x hx => by
    by_cases e : x = y
    · subst e; exact upd_same _ _ _
    · rw [upd_other _ _ e]; exact hx
  refine ⟨h.sn, hyn, fun x hx => ?_, ⟨⟨path, rfl⟩, ?_, ?_⟩⟩
  · by_cases e : x = y
    · subst e; exact ⟨hyn, hyc, hys⟩
    · rw [upd_other _ _ e] at hx; exact hl.vok x hx
  · obtain ⟨t, h1, h2, h3⟩ := h.pok.head
    refine ⟨t ++ [y], by rw [h1]; rfl, fun x hx => ?_, ?_⟩
    · rcases List.mem_append.1 hx with hx | hx
      · exact mono1 x (hl.mono x (h2 x hx))
      · simp at hx; subst hx; exact upd_same _ _ _
    · rw [List.nodup_append]
      refine ⟨h3, by simp, fun a ha b hb e => ?_⟩
      simp at hb
      subst hb
      have := hl.mono a (h2 a ha)
      rw [e, hyv] at this; cases this
  · obtain ⟨q, hq⟩ := h.pok.last
    have hc := h.pok.chain
    rw [hq] at hc ⊢
    exact chain_snoc hy hc

theorem take_succ_mem' {l : List Nat} {k w y : Nat} (hw : l[k]? = some w) (hy : y ∈ l.take (k + 1)) : y ∈ l.take k ∨ y = w := by
  rw [List.take_add_one, hw] at hy
  simpa using hy

theorem child_cli (hl : CLI n E comp start vis v k vis') (hk : (E v)[k]? = some y) (hys : y ≠ start) (hyv : vis' y = false) (p : CPost n E comp start (upd vis' y true) y vis2) : CLI n E comp start vis v (k + 1) vis2 := by
  have mono1 : ∀ x, vis' x = true → upd vis' y true x = true := fun x hx => by
    by_cases e : x = y
    · subst e; exact upd_same _ _ _
    · rw [upd_other _ _ e]; exact hx
  have mono2 : ∀ x, vis' x = true → vis2 x = true := fun x hx => p.mono x (mono1 x hx)
  refine ⟨fun x hx => mono2 x (hl.mono x hx), p.vok, fun x hx hnx => ?_, fun z hz => ?_⟩
  · by_cases e : x = y
    · exact p.expl x (.inl e)
    · cases hv : vis' x with
      | true =>
        intro z hz
        have := hl.expl x hv hnx z hz
        exact ⟨this.1, fun hc => mono2 z (this.2 hc)⟩
      | false => exact p.expl x (.inr ⟨hx, by rw [upd_other _ _ e]; exact hv⟩)
  · rcases take_succ_mem' hk hz with h1 | rfl
    · have := hl.own z h1
      exact ⟨this.1, fun hc => mono2 z (this.2 hc)⟩
    · exact ⟨hys, fun _ => p.mono z (upd_same _ _ _)⟩

theorem skip_cli (hl : CLI n E comp start vis v k vis') (hk : (E v)[k]? = some y) (hys : y ≠ start) (hyv : Cls comp start y → vis' y = true) : CLI n E comp start vis v (k + 1) vis' := by
  refine ⟨hl.mono, hl.vok, hl.expl, fun z hz => ?_⟩
  rcases take_succ_mem' hk hz with h1 | rfl
  · exact hl.own z h1
  · exact ⟨hys, hyv⟩

theorem cpost_of (hl : CLI n E comp start vis v (E v).length vis') : CPost n E comp start vis v vis' := by
  have hown := hl.own
  rw [List.take_length] at hown
  refine ⟨hl.mono, hl.vok, fun x hx => ?_⟩
  rcases hx with rfl | ⟨h1, h2⟩
  · exact hown
  · exact hl.expl x h1 h2

/-- Where the component holds a circle the walk from start finds one. -/
theorem no_miss {sizes : List Int} (hc : Comps n E comp sizes) (hs : start < n) (hE : ∀ x, x < n → ∀ y, y ∈ E x → y < n) (p : CPost n E comp start (fun _ => false) start vis')
    (h : (∃ y, y < n ∧ y ≠ start ∧ comp y = comp start) ∨ start ∈ E start) : False := by
  have ex : ∀ x, (x = start ∨ vis' x = true) → Explored E comp start vis' x := fun x hx => by
    rcases hx with hx | hx
    · exact p.expl x (.inl hx)
    · exact p.expl x (.inr ⟨hx, rfl⟩)
  rcases h with ⟨y, hy, hne, hcy⟩ | h
  · -- start reaches y inside what is marked
    have r1 := hc.scc start y hs hy hcy.symm
    have hyv : y < n ∧ ((y = start ∨ vis' y = true) ∨ comp y < comp start) := by
      refine r1 (fun z => z < n ∧ ((z = start ∨ vis' z = true) ∨ comp z < comp start)) ⟨hs, .inl (.inl rfl)⟩ ?_
      rintro a b ⟨ha, hab⟩ hb
      refine ⟨hE a ha b hb, ?_⟩
      have ht := hc.top a b ha hb
      rcases hab with h1 | h1
      · have h2 := ex a h1 b hb
        have hca : comp a = comp start := by
          rcases h1 with rfl | h1
          · rfl
          · exact (p.vok a h1).2.1
        by_cases e : comp b = comp start
        · exact .inl (.inr (h2.2 e))
        · exact .inr (by omega)
      · exact .inr (by omega)
    have hyv2 : vis' y = true := by
      rcases hyv.2 with (h1 | h1) | h1
      · exact absurd h1 hne
      · exact h1
      · omega
    -- y reaches start: but no marked vertex leads to start
    have r2 := hc.scc y start hy hs hcy
    have hsv : start < n ∧ (vis' start = true ∨ comp start < comp start) := by
      refine r2 (fun z => z < n ∧ (vis' z = true ∨ comp z < comp start)) ⟨hy, .inl hyv2⟩ ?_
      rintro a b ⟨ha, hab⟩ hb
      refine ⟨hE a ha b hb, ?_⟩
      have ht := hc.top a b ha hb
      rcases hab with h1 | h1
      · have h2 := ex a (.inr h1) b hb
        have hca := (p.vok a h1).2.1
        unfold Cls at hca
        by_cases e : comp b = comp start
        · exact .inl (h2.2 e)
        · exact .inr (by omega)
      · exact .inr (by omega)
    rcases hsv.2 with h1 | h1
    · exact (p.vok start h1).2.2 rfl
    · omega
  · exact (ex start (.inl rfl) start h).1 rfl
end

end Go.Proofs.Qxb6001235a
