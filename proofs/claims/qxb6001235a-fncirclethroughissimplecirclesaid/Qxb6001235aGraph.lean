/- The plain mathematics of Tarjan's components: no Go in sight. -/
namespace Go.Proofs.Qxb6001235a

/-- One place of a function turned. -/
def upd {α : Type} (f : Nat → α) (i : Nat) (a : α) : Nat → α := fun j => if j = i then a else f j
theorem upd_same {α : Type} (f : Nat → α) (i : Nat) (a : α) : upd f i a i = a := by simp [upd]
theorem upd_other {α : Type} (f : Nat → α) {i j : Nat} (a : α) (h : j ≠ i) : upd f i a j = f j := by simp [upd, h]

/-- y is in every set that holds x and is closed under edges. -/
def Reach (E : Nat → List Nat) (x y : Nat) : Prop := ∀ P : Nat → Prop, P x → (∀ a b, P a → b ∈ E a → P b) → P y
theorem Reach.refl (E : Nat → List Nat) (x : Nat) : Reach E x x := fun _ h _ => h
theorem Reach.edge {E : Nat → List Nat} {x y : Nat} (h : y ∈ E x) : Reach E x y := fun _ h0 hs => hs x y h0 h
theorem Reach.trans {E : Nat → List Nat} {x y z : Nat} (h : Reach E x y) (k : Reach E y z) : Reach E x z := fun P h0 hs => k P (h P h0 hs) hs

/-- How many numbers below n meet p. -/
def cnt (p : Nat → Bool) : Nat → Nat
  | 0 => 0
  | n + 1 => cnt p n + if p n then 1 else 0

theorem cnt_congr {p q : Nat → Bool} {n : Nat} (h : ∀ x, x < n → p x = q x) : cnt p n = cnt q n := by
  induction n with
  | zero => rfl
  | succ n ih => rw [cnt, cnt, ih (fun x hx => h x (by omega)), h n (by omega)]

theorem cnt_le (p : Nat → Bool) (n : Nat) : cnt p n ≤ n := by
  induction n with
  | zero => exact Nat.le_refl _
  | succ n ih => rw [cnt]; split <;> omega

/-- One number more meets it. -/
theorem cnt_add {p q : Nat → Bool} {n a : Nat} (ha : a < n) (hp : p a = false) (hq : q a = true) (h : ∀ x, x < n → x ≠ a → q x = p x) : cnt q n = cnt p n + 1 := by
  induction n with
  | zero => omega
  | succ n ih =>
    rw [cnt, cnt]
    by_cases e : a = n
    · subst e
      rw [cnt_congr (fun x hx => h x (by omega) (by omega)), hp, hq]
      simp
    · rw [ih (by omega) (fun x hx hn => h x (by omega) hn), h n (by omega) (by omega)]
      omega

theorem cnt_zero {p : Nat → Bool} {n : Nat} (h : ∀ x, x < n → p x = false) : cnt p n = 0 := by
  induction n with
  | zero => rfl
  | succ n ih => rw [cnt, ih (fun x hx => h x (by omega)), h n (by omega)]; rfl

theorem cnt_pos {p : Nat → Bool} {n a : Nat} (ha : a < n) (hp : p a = true) : 1 ≤ cnt p n := by
  induction n with
  | zero => omega
  | succ n ih =>
    rw [cnt]
    by_cases e : a = n
    · subst e; rw [hp]; simp
    · have := ih (by omega); omega

theorem cnt_mem (N : List Nat) (n : Nat) (hn : N.Nodup) (h : ∀ x, x ∈ N → x < n) : cnt (fun x => decide (x ∈ N)) n = N.length := by
  induction N with
  | nil => exact cnt_zero (fun x _ => by simp)
  | cons a N ih =>
    rw [List.nodup_cons] at hn
    have := ih hn.2 (fun x hx => h x (List.mem_cons_of_mem _ hx))
    rw [List.length_cons, ← this]
    refine cnt_add (a := a) (h a (by simp)) (by simpa using hn.1) (by simp) ?_
    intro x _ hx
    simp [hx]

theorem pw_mono {α : Type} {R Q : α → α → Prop} : ∀ {l : List α}, l.Pairwise R → (∀ a b, a ∈ l → b ∈ l → R a b → Q a b) → l.Pairwise Q
  | [], _, _ => List.Pairwise.nil
  | a :: l, h, k => by
    rw [List.pairwise_cons] at h ⊢
    exact ⟨fun b hb => k a b (by simp) (by simp [hb]) (h.1 b hb), pw_mono h.2 (fun x y hx hy => k x y (by simp [hx]) (by simp [hy]))⟩

structure St where
  ord : Nat → Int
  low : Nat → Int
  on : Nat → Bool
  comp : Nat → Int
  stack : List Nat
  next : Nat
  sizes : List Int

/-- Visited, and off the stack. -/
def Done (S : St) (x : Nat) : Prop := S.ord x ≠ -1 ∧ S.on x = false
def doneIn (S : St) (c : Nat) (x : Nat) : Bool := (S.ord x != -1) && (!S.on x) && (S.comp x == (c : Int))
theorem doneIn_iff (S : St) (c x : Nat) : doneIn S c x = true ↔ Done S x ∧ S.comp x = c := by
  simp [doneIn, Done, and_assoc]

structure Inv (n : Nat) (E : Nat → List Nat) (G : Nat → Prop) (S : St) : Prop where
  rng : ∀ x, x < n → S.ord x = -1 ∨ (0 ≤ S.ord x ∧ S.ord x < S.next)
  inj : ∀ x y, x < n → y < n → S.ord x ≠ -1 → S.ord x = S.ord y → x = y
  onIff : ∀ x, x < n → (S.on x = true ↔ x ∈ S.stack)
  stk : ∀ x, x ∈ S.stack → x < n ∧ S.ord x ≠ -1
  srt : S.stack.Pairwise (fun x y => S.ord x < S.ord y)
  cmp : ∀ x, x < n → Done S x → 0 ≤ S.comp x ∧ S.comp x < S.sizes.length
  gry : ∀ x, G x → x ∈ S.stack
  top : ∀ x y, x < n → Done S x → y ∈ E x → Done S y ∧ S.comp y ≤ S.comp x
  blk : ∀ x y, x ∈ S.stack → ¬ G x → y ∈ E x → S.ord y ≠ -1
  fwd : ∀ x y, G x → y ∈ S.stack → S.ord x ≤ S.ord y → Reach E x y
  bwd : ∀ y, y ∈ S.stack → ∃ x, G x ∧ S.ord x ≤ S.ord y ∧ Reach E y x
  scc : ∀ x y, x < n → y < n → Done S x → Done S y → S.comp x = S.comp y → Reach E x y
  szs : ∀ c, c < S.sizes.length → S.sizes.getD c 0 = (cnt (doneIn S c) n : Int) ∧ 1 ≤ cnt (doneIn S c) n
  cap : S.sizes.length + S.stack.length ≤ S.next
  whi : S.next + cnt (fun x => S.ord x == -1) n = n

structure Pre (n : Nat) (E : Nat → List Nat) (G : Nat → Prop) (S : St) (v : Nat) : Prop where
  inv : Inv n E G S
  lt : v < n
  new : S.ord v = -1
  acc : ∀ g, G g → Reach E g v

structure Post (n : Nat) (E : Nat → List Nat) (G : Nat → Prop) (S : St) (v : Nat) (S' : St) : Prop where
  inv : Inv n E G S'
  stk : ∃ s, S'.stack = S.stack ++ s ∧ ∀ x, x ∈ s → ∀ y, y ∈ E x → y ∈ S.stack → S'.low v ≤ S'.ord y
  ordk : ∀ x, x < n → S.ord x ≠ -1 → S'.ord x = S.ord x
  lowk : ∀ x, x < n → S.ord x ≠ -1 → S'.low x = S.low x
  vis : S'.ord v ≠ -1
  nxt : S.next < S'.next
  lowv : (∃ y, y ∈ S'.stack ∧ S'.low v = S'.ord y ∧ Reach E v y) ∨ (S.next : Int) ≤ S'.low v

/-- At the head of the round for the k-th edge of v. -/
structure LI (n : Nat) (E : Nat → List Nat) (G : Nat → Prop) (S0 : St) (v k : Nat) (S : St) : Prop where
  lt : v < n
  new : S0.ord v = -1
  inv0 : Inv n E G S0
  inv : Inv n E (fun x => G x ∨ x = v) S
  stk : ∃ s, S.stack = S0.stack ++ v :: s ∧ ∀ x, x ∈ s → ∀ y, y ∈ E x → y ∈ S0.stack → S.low v ≤ S.ord y
  own : ∀ y, y ∈ (E v).take k → y ∈ S0.stack → S.low v ≤ S.ord y
  seen : ∀ y, y ∈ (E v).take k → S.ord y ≠ -1
  ordk : ∀ x, x < n → S0.ord x ≠ -1 → S.ord x = S0.ord x
  lowk : ∀ x, x < n → S0.ord x ≠ -1 → S.low x = S0.low x
  ordv : S.ord v = S0.next
  nxt : S0.next < S.next
  lowv : ∃ y, y ∈ S.stack ∧ S.low v = S.ord y ∧ Reach E v y
  lowle : S.low v ≤ S.ord v

def enter (S : St) (v : Nat) : St :=
  { S with ord := upd S.ord v S.next, low := upd S.low v S.next, next := S.next + 1, stack := S.stack ++ [v], on := upd S.on v true }

theorem not_stack_of_new {n : Nat} {E : Nat → List Nat} {G : Nat → Prop} {S : St} {v : Nat} (h : Inv n E G S) (hv : S.ord v = -1) : v ∉ S.stack :=
  fun hm => (h.stk v hm).2 hv

theorem enter_inv {n : Nat} {E : Nat → List Nat} {G : Nat → Prop} {S : St} {v : Nat} (h : Pre n E G S v) : Inv n E (fun x => G x ∨ x = v) (enter S v) := by
  have I := h.inv
  have hv := h.new
  have hns := not_stack_of_new I hv
  have oe : ∀ x, x ≠ v → (enter S v).ord x = S.ord x := fun x hx => upd_other _ _ hx
  have ov : (enter S v).ord v = S.next := upd_same _ _ _
  have ne : ∀ x, x ∈ S.stack → x ≠ v := fun x hx e => hns (e ▸ hx)
  have mem : ∀ x, x ∈ (enter S v).stack ↔ x ∈ S.stack ∨ x = v := fun x => by simp [enter]
  have don : ∀ x, Done (enter S v) x ↔ Done S x := by
    intro x
    by_cases e : x = v
    · subst e
      simp [Done, enter, upd_same, hv]
    · simp [Done, enter, upd_other _ _ e]
  have lt : ∀ x, x < n → S.ord x < S.next := fun x hx => by rcases I.rng x hx with h | h <;> omega
  refine ⟨?_, ?_, ?_, ?_, ?_, ?_, ?_, ?_, ?_, ?_, ?_, ?_, ?_, ?_, ?_⟩
  · intro x hx
    show _ ∨ (_ ∧ _ < ((S.next + 1 : Nat) : Int))
    by_cases e : x = v
    · subst e; rw [ov]; right; omega
    · rw [oe x e]; rcases I.rng x hx with h | h
      · exact .inl h
      · right; omega
  · intro x y hx hy hn he
    by_cases e1 : x = v
    · by_cases e2 : y = v
      · rw [e1, e2]
      · rw [e1, ov, oe y e2] at he
        have := lt y hy; omega
    · by_cases e2 : y = v
      · rw [e2, ov, oe x e1] at he
        have := lt x hx; omega
      · rw [oe x e1] at hn
        rw [oe x e1, oe y e2] at he
        exact I.inj x y hx hy hn he
  · intro x hx
    rw [mem]
    by_cases e : x = v
    · subst e; simp [enter, upd_same]
    · simp only [enter, upd_other _ _ e, e, or_false]; exact I.onIff x hx
  · intro x hx
    rcases (mem x).1 hx with hx | rfl
    · rw [oe x (ne x hx)]; exact I.stk x hx
    · exact ⟨h.lt, by rw [ov]; omega⟩
  · show (S.stack ++ [v]).Pairwise _
    rw [List.pairwise_append]
    refine ⟨pw_mono I.srt ?_, by simp, ?_⟩
    · intro a b ha hb hab
      rw [oe a (ne a ha), oe b (ne b hb)]; exact hab
    · intro a ha b hb
      simp at hb; subst hb
      rw [oe a (ne a ha), ov]; exact lt a (I.stk a ha).1
  · intro x hx hd
    exact I.cmp x hx ((don x).1 hd)
  · intro x hx
    rw [mem]
    rcases hx with hx | hx
    · exact .inl (I.gry x hx)
    · exact .inr hx
  · intro x y hx hd hy
    have := I.top x y hx ((don x).1 hd) hy
    exact ⟨(don y).2 this.1, this.2⟩
  · intro x y hx hg hy
    have hg1 : ¬ G x := fun h => hg (.inl h)
    have hg2 : x ≠ v := fun h => hg (.inr h)
    have hxs : x ∈ S.stack := by
      rcases (mem x).1 hx with h | h
      · exact h
      · exact absurd h hg2
    have := I.blk x y hxs hg1 hy
    by_cases e : y = v
    · subst e; rw [ov]; omega
    · rw [oe y e]; exact this
  · intro x y hx hy hle
    rcases hx with hx | rfl
    · rcases (mem y).1 hy with hy | rfl
      · have nx := ne x (I.gry x hx)
        rw [oe x nx, oe y (ne y hy)] at hle
        exact I.fwd x y hx hy hle
      · exact h.acc x hx
    · rcases (mem y).1 hy with hy | rfl
      · rw [ov, oe y (ne y hy)] at hle
        have := lt y (I.stk y hy).1; omega
      · exact Reach.refl _ _
  · intro y hy
    rcases (mem y).1 hy with hy | rfl
    · obtain ⟨x, hx, hle, hr⟩ := I.bwd y hy
      exact ⟨x, .inl hx, by rw [oe x (ne x (I.gry x hx)), oe y (ne y hy)]; exact hle, hr⟩
    · exact ⟨y, .inr rfl, Int.le_refl _, Reach.refl _ _⟩
  · intro x y hx hy hdx hdy hc
    exact I.scc x y hx hy ((don x).1 hdx) ((don y).1 hdy) hc
  · intro c hc
    have e : cnt (doneIn (enter S v) c) n = cnt (doneIn S c) n := by
      apply cnt_congr
      intro x _
      have : doneIn (enter S v) c x = true ↔ doneIn S c x = true := by
        rw [doneIn_iff, doneIn_iff, don]; rfl
      cases h1 : doneIn (enter S v) c x <;> cases h2 : doneIn S c x <;> simp_all
    rw [e]
    exact I.szs c hc
  · show S.sizes.length + (S.stack ++ [v]).length ≤ S.next + 1
    have := I.cap
    simp; omega
  · show S.next + 1 + _ = n
    have hw := I.whi
    have : cnt (fun x => S.ord x == -1) n = cnt (fun x => (enter S v).ord x == -1) n + 1 := by
      refine cnt_add (a := v) h.lt (by rw [ov]; simp) (by simp [hv]) ?_
      intro x _ hx
      rw [oe x hx]
    omega

theorem enter_li {n : Nat} {E : Nat → List Nat} {G : Nat → Prop} {S : St} {v : Nat} (h : Pre n E G S v) : LI n E G S v 0 (enter S v) := by
  have hv := h.new
  have ne : ∀ x, S.ord x ≠ -1 → x ≠ v := fun x hx e => hx (e ▸ hv)
  refine ⟨h.lt, hv, h.inv, enter_inv h, ⟨[], by simp [enter], by simp⟩, by simp, by simp, ?_, ?_, upd_same _ _ _, ?_, ?_, by simp [enter, upd_same]⟩
  · intro x _ hx; exact upd_other _ _ (ne x hx)
  · intro x _ hx; exact upd_other _ _ (ne x hx)
  · show S.next < S.next + 1; omega
  · exact ⟨v, by simp [enter], by simp [enter, upd_same], Reach.refl _ _⟩

/-! ### The rounds -/
section
variable {n : Nat} {E : Nat → List Nat} {G : Nat → Prop} {S0 S S' : St} {v k w : Nat}

theorem LI.mem (h : LI n E G S0 v k S) : v ∈ S.stack := by
  obtain ⟨s, hs, _⟩ := h.stk
  rw [hs]; simp

theorem LI.sub (h : LI n E G S0 v k S) {x : Nat} (hx : x ∈ S0.stack) : x ∈ S.stack := by
  obtain ⟨s, hs, _⟩ := h.stk
  rw [hs]; simp [hx]

/-- Every gray vertex reaches v. -/
theorem LI.gray_v (h : LI n E G S0 v k S) {g : Nat} (hg : G g ∨ g = v) : Reach E g v := by
  refine h.inv.fwd g v hg h.mem ?_
  rcases hg with hg | rfl
  · have h0 := h.inv0.gry g hg
    have h1 := h.inv0.stk g h0
    rw [h.ordk g h1.1 h1.2, h.ordv]
    rcases h.inv0.rng g h1.1 with h2 | h2
    · exact absurd h2 h1.2
    · omega
  · exact Int.le_refl _

theorem child_pre (h : LI n E G S0 v k S) (hw : w ∈ E v) (hwn : w < n) (hnew : S.ord w = -1) : Pre n E (fun x => G x ∨ x = v) S w :=
  ⟨h.inv, hwn, hnew, fun _ hg => (h.gray_v hg).trans (Reach.edge hw)⟩

theorem take_succ_mem {l : List Nat} {k w y : Nat} (hw : l[k]? = some w) (hy : y ∈ l.take (k + 1)) : y ∈ l.take k ∨ y = w := by
  rw [List.take_add_one, hw] at hy
  simpa using hy

/-- Turning 'low' alone keeps Inv. -/
theorem Inv.low (h : Inv n E G S) (f : Nat → Int) : Inv n E G { S with low := f } :=
  ⟨h.rng, h.inj, h.onIff, h.stk, h.srt, h.cmp, h.gry, h.top, h.blk, h.fwd, h.bwd, h.scc, h.szs, h.cap, h.whi⟩

theorem back_li (h : LI n E G S0 v k S) (hw : (E v)[k]? = some w) (hold : S.ord w ≠ -1) (hws : w ∈ S.stack) :
    LI n E G S0 v (k + 1) { S with low := upd S.low v (min (S.low v) (S.ord w)) } := by
  have hv : S0.ord v = -1 := h.new
  have ne : ∀ x, S0.ord x ≠ -1 → x ≠ v := fun x hx e => hx (e ▸ hv)
  have hm : ∀ z : Int, S.low v ≤ z → min (S.low v) (S.ord w) ≤ z := fun z hz => by omega
  have hle := h.lowle
  refine ⟨h.lt, h.new, h.inv0, h.inv.low _, ?_, ?_, ?_, h.ordk, ?_, h.ordv, h.nxt, ?_, by show upd S.low v _ v ≤ S.ord v; rw [upd_same]; omega⟩
  · obtain ⟨s, hs, hc⟩ := h.stk
    refine ⟨s, hs, fun x hx y hy hy0 => ?_⟩
    show upd S.low v _ v ≤ S.ord y
    rw [upd_same]
    exact hm _ (hc x hx y hy hy0)
  · intro y hy hy0
    show upd S.low v _ v ≤ S.ord y
    rw [upd_same]
    rcases take_succ_mem hw hy with hy | rfl
    · exact hm _ (h.own y hy hy0)
    · omega
  · intro y hy
    rcases take_succ_mem hw hy with hy | rfl
    · exact h.seen y hy
    · exact hold
  · intro x hx hxo
    show upd S.low v _ x = _
    rw [upd_other _ _ (ne x hxo)]
    exact h.lowk x hx hxo
  · obtain ⟨y, hy, he, hr⟩ := h.lowv
    show ∃ y, y ∈ S.stack ∧ upd S.low v _ v = S.ord y ∧ Reach E v y
    rw [upd_same]
    by_cases c : S.low v ≤ S.ord w
    · exact ⟨y, hy, by omega, hr⟩
    · exact ⟨w, hws, by omega, Reach.edge (List.mem_of_getElem? hw)⟩

theorem skip_li (h : LI n E G S0 v k S) (hw : (E v)[k]? = some w) (hold : S.ord w ≠ -1) (hws : w ∉ S.stack) : LI n E G S0 v (k + 1) S := by
  refine ⟨h.lt, h.new, h.inv0, h.inv, h.stk, ?_, ?_, h.ordk, h.lowk, h.ordv, h.nxt, h.lowv, h.lowle⟩
  · intro y hy hy0
    rcases take_succ_mem hw hy with hy | rfl
    · exact h.own y hy hy0
    · exact absurd (h.sub hy0) hws
  · intro y hy
    rcases take_succ_mem hw hy with hy | rfl
    · exact h.seen y hy
    · exact hold

theorem child_li (hE : ∀ y, y ∈ E v → y < n) (h : LI n E G S0 v k S) (hw : (E v)[k]? = some w) (hnew : S.ord w = -1) (p : Post n E (fun x => G x ∨ x = v) S w S') :
    LI n E G S0 v (k + 1) { S' with low := upd S'.low v (min (S'.low v) (S'.low w)) } := by
  have hv : S0.ord v = -1 := h.new
  have ne : ∀ x, S0.ord x ≠ -1 → x ≠ v := fun x hx e => hx (e ▸ hv)
  have hvS := h.inv.stk v h.mem
  have o0 : ∀ x, x < n → S0.ord x ≠ -1 → S'.ord x = S.ord x := fun x hx hx0 => p.ordk x hx (by rw [h.ordk x hx hx0]; exact hx0)
  have lv : S'.low v = S.low v := p.lowk v h.lt hvS.2
  have ov : S'.ord v = S.ord v := p.ordk v h.lt hvS.2
  have sl : ∀ x, x < n → S.ord x < S.next := fun x hx => by rcases h.inv.rng x hx with q | q <;> omega
  obtain ⟨s, hs, hc⟩ := h.stk
  obtain ⟨s', hs', hc'⟩ := p.stk
  have st0 : ∀ y, y ∈ S0.stack → y < n ∧ S0.ord y ≠ -1 := fun y hy => h.inv0.stk y hy
  have hle := h.lowle
  refine ⟨h.lt, h.new, h.inv0, p.inv.low _, ?_, ?_, ?_, ?_, ?_, ?_, ?_, ?_, by show upd S'.low v _ v ≤ S'.ord v; rw [upd_same, lv, ov]; omega⟩
  · refine ⟨s ++ s', by show S'.stack = _; rw [hs', hs]; simp, fun x hx y hy hy0 => ?_⟩
    show upd S'.low v _ v ≤ S'.ord y
    rw [upd_same, o0 y (st0 y hy0).1 (st0 y hy0).2, lv]
    rcases List.mem_append.1 hx with hx | hx
    · have := hc x hx y hy hy0; omega
    · have := hc' x hx y hy (h.sub hy0)
      rw [o0 y (st0 y hy0).1 (st0 y hy0).2] at this
      omega
  · intro y hy hy0
    show upd S'.low v _ v ≤ S'.ord y
    rw [upd_same, o0 y (st0 y hy0).1 (st0 y hy0).2, lv]
    rcases take_succ_mem hw hy with hy | rfl
    · have := h.own y hy hy0; omega
    · exact absurd hnew (h.inv.stk y (h.sub hy0)).2
  · intro y hy
    show S'.ord y ≠ -1
    rcases take_succ_mem hw hy with hy | rfl
    · rw [p.ordk y (hE y (List.mem_of_mem_take hy)) (h.seen y hy)]; exact h.seen y hy
    · exact p.vis
  · intro x hx hx0
    show S'.ord x = _
    rw [o0 x hx hx0]; exact h.ordk x hx hx0
  · intro x hx hx0
    show upd S'.low v _ x = _
    rw [upd_other _ _ (ne x hx0), p.lowk x hx (by rw [h.ordk x hx hx0]; exact hx0)]
    exact h.lowk x hx hx0
  · show S'.ord v = _
    rw [ov]; exact h.ordv
  · show S0.next < S'.next
    have := h.nxt; have := p.nxt; omega
  · show ∃ y, y ∈ S'.stack ∧ upd S'.low v _ v = S'.ord y ∧ Reach E v y
    rw [upd_same, lv]
    obtain ⟨y, hy, he, hr⟩ := h.lowv
    have hyS := h.inv.stk y hy
    have hy' : y ∈ S'.stack := by rw [hs']; simp [hy]
    have oy : S'.ord y = S.ord y := p.ordk y hyS.1 hyS.2
    by_cases c : S.low v ≤ S'.low w
    · exact ⟨y, hy', by rw [oy]; omega, hr⟩
    · rcases p.lowv with ⟨z, hz, hez, hrz⟩ | hbig
      · exact ⟨z, hz, by omega, (Reach.edge (List.mem_of_getElem? hw)).trans hrz⟩
      · have := sl y hyS.1; omega

/-! ### The end of a visit -/
theorem LI.v_fresh (h : LI n E G S0 v k S) : v ∉ S0.stack := not_stack_of_new h.inv0 h.new
theorem LI.not_gray (h : LI n E G S0 v k S) : ¬ G v := fun hg => h.v_fresh (h.inv0.gry v hg)

/-- The new part of the stack lies above the old. -/
theorem LI.old_lt (h : LI n E G S0 v k S) {y : Nat} (hy : y ∈ S0.stack) : S.ord y < S.ord v := by
  have h1 := h.inv0.stk y hy
  rw [h.ordk y h1.1 h1.2, h.ordv]
  rcases h.inv0.rng y h1.1 with h2 | h2
  · exact absurd h2 h1.2
  · omega

theorem LI.new_ge {s : List Nat} (h : LI n E G S0 v k S) (hs : S.stack = S0.stack ++ v :: s) {y : Nat} (hy : y ∈ s) : S.ord v < S.ord y := by
  have hw := h.inv.srt
  rw [hs, List.pairwise_append] at hw
  exact (List.pairwise_cons.1 hw.2.1).1 y hy

/-- low v < ord v: v stays on the stack and is black from now on. -/
theorem stay_post (h : LI n E G S0 v (E v).length S) (hlow : S.low v ≠ S.ord v) : Post n E G S0 v S := by
  have I := h.inv
  obtain ⟨s, hs, hc⟩ := h.stk
  obtain ⟨z, hz, hez, hrz⟩ := h.lowv
  have hle := h.lowle
  have hseen := h.seen
  have hown := h.own
  rw [List.take_length] at hseen hown
  have hzv : S.ord z < S.ord v := by omega
  have hns := h.v_fresh
  refine ⟨⟨I.rng, I.inj, I.onIff, I.stk, I.srt, I.cmp, ?_, I.top, ?_, ?_, ?_, I.scc, I.szs, I.cap, I.whi⟩, ?_, h.ordk, h.lowk, ?_, h.nxt, .inl ⟨z, hz, hez, hrz⟩⟩
  · intro x hx; exact I.gry x (.inl hx)
  · intro x y hx hg hy
    by_cases e : x = v
    · subst e; exact hseen y hy
    · exact I.blk x y hx (fun hh => by rcases hh with hh | hh; exact hg hh; exact e hh) hy
  · intro x y hx hy hxy; exact I.fwd x y (.inl hx) hy hxy
  · intro y hy
    obtain ⟨x, hx, hxy, hr⟩ := I.bwd y hy
    rcases hx with hx | rfl
    · exact ⟨x, hx, hxy, hr⟩
    · obtain ⟨g, hg, hgz, hrg⟩ := I.bwd z hz
      rcases hg with hg | rfl
      · exact ⟨g, hg, by omega, (hr.trans hrz).trans hrg⟩
      · omega
  · refine ⟨v :: s, hs, fun x hx y hy hy0 => ?_⟩
    rcases List.mem_cons.1 hx with rfl | hx
    · exact hown y hy hy0
    · exact hc x hx y hy hy0
  · rw [h.ordv]; omega

/-- What the popping leaves. -/
def popped (S : St) (r q : List Nat) : St :=
  { S with stack := r, on := fun x => if x ∈ q then false else S.on x, comp := fun x => if x ∈ q then (S.sizes.length : Int) else S.comp x, sizes := S.sizes ++ [(q.length : Int)] }

theorem pop_post {s : List Nat} (hE : ∀ x, x < n → ∀ y, y ∈ E x → y < n) (h : LI n E G S0 v (E v).length S) (hs : S.stack = S0.stack ++ v :: s) (hlow : S.low v = S.ord v) : Post n E G S0 v (popped S S0.stack (v :: s)) := by
  have I := h.inv
  have hc : ∀ x, x ∈ s → ∀ y, y ∈ E x → y ∈ S0.stack → S.low v ≤ S.ord y := by
    obtain ⟨s2, hs2, hc⟩ := h.stk
    rw [hs] at hs2
    have := List.append_cancel_left hs2
    injection this with _ h2
    subst h2
    exact hc
  have hseen := h.seen
  have hown := h.own
  rw [List.take_length] at hseen hown
  have hns := h.v_fresh
  have sub : ∀ x, x ∈ S0.stack → x ∈ S.stack := fun x hx => h.sub hx
  have subN : ∀ x, x ∈ v :: s → x ∈ S.stack := fun x hx => by rw [hs]; exact List.mem_append.2 (.inr hx)
  have split : ∀ x, x ∈ S.stack → x ∈ S0.stack ∨ x ∈ v :: s := fun x hx => by rw [hs] at hx; exact List.mem_append.1 hx
  have geN : ∀ x, x ∈ v :: s → S.ord v ≤ S.ord x := fun x hx => by
    rcases List.mem_cons.1 hx with rfl | hx
    · exact Int.le_refl _
    · have := h.new_ge hs hx; omega
  have disj : ∀ x, x ∈ S0.stack → x ∉ v :: s := fun x hx hN => by have := h.old_lt hx; have := geN x hN; omega
  have nodup : (v :: s).Nodup := by
    have hw := I.srt
    rw [hs, List.pairwise_append] at hw
    refine pw_mono hw.2.1 (fun a b _ _ hab e => ?_)
    rw [e] at hab; omega
  have onN : ∀ x, x ∈ v :: s → S.on x = true := fun x hx => (I.onIff x (I.stk x (subN x hx)).1).2 (subN x hx)
  have ndN : ∀ x, x ∈ v :: s → ¬ Done S x := fun x hx hd => by have := onN x hx; rw [hd.2] at this; cases this
  have don : ∀ x, Done (popped S S0.stack (v :: s)) x ↔ Done S x ∨ x ∈ v :: s := by
    intro x
    by_cases e : x ∈ v :: s
    · have h1 := (I.stk x (subN x e)).2
      constructor
      · intro _; exact .inr e
      · intro _; exact ⟨h1, by show (if x ∈ v :: s then false else S.on x) = false; rw [if_pos e]⟩
    · constructor
      · intro hd
        refine .inl ⟨hd.1, ?_⟩
        have h2 : (if x ∈ v :: s then false else S.on x) = false := hd.2
        rw [if_neg e] at h2; exact h2
      · intro hd
        rcases hd with hd | hd
        · exact ⟨hd.1, by show (if x ∈ v :: s then false else S.on x) = false; rw [if_neg e]; exact hd.2⟩
        · exact absurd hd e
  have cN : ∀ x, x ∈ v :: s → (popped S S0.stack (v :: s)).comp x = S.sizes.length := fun x hx => if_pos hx
  have cO : ∀ x, x ∉ v :: s → (popped S S0.stack (v :: s)).comp x = S.comp x := fun x hx => if_neg hx
  have cD : ∀ x, Done S x → (popped S S0.stack (v :: s)).comp x = S.comp x := fun x hx => cO x (fun hN => ndN x hN hx)
  have len1 : (popped S S0.stack (v :: s)).sizes.length = S.sizes.length + 1 := by simp [popped]
  have toV : ∀ x, x ∈ v :: s → Reach E x v := fun x hx => by
    obtain ⟨g, hg, _, hr⟩ := I.bwd x (subN x hx)
    exact hr.trans (h.gray_v hg)
  refine ⟨⟨I.rng, I.inj, ?_, ?_, ?_, ?_, ?_, ?_, ?_, ?_, ?_, ?_, ?_, ?_, I.whi⟩, ⟨[], by simp [popped], by simp⟩, h.ordk, h.lowk, ?_, h.nxt, .inr ?_⟩
  · intro x hx
    show (if x ∈ v :: s then false else S.on x) = true ↔ x ∈ S0.stack
    by_cases e : x ∈ v :: s
    · rw [if_pos e]
      constructor
      · intro hh; cases hh
      · intro hh; exact absurd e (disj x hh)
    · rw [if_neg e, I.onIff x hx]
      constructor
      · intro hh; rcases split x hh with h1 | h1
        · exact h1
        · exact absurd h1 e
      · intro hh; exact sub x hh
  · intro x hx; exact I.stk x (sub x hx)
  · have hw := I.srt
    rw [hs, List.pairwise_append] at hw
    exact hw.1
  · intro x hx hd
    rw [len1]
    rcases (don x).1 hd with hd | hN
    · rw [cD x hd]; have := I.cmp x hx hd; omega
    · rw [cN x hN]; omega
  · intro x hx; exact h.inv0.gry x hx
  · intro x y hx hd hy
    rcases (don x).1 hd with hd | hN
    · have h1 := I.top x y hx hd hy
      exact ⟨(don y).2 (.inl h1.1), by rw [cD x hd, cD y h1.1]; exact h1.2⟩
    · have hyn := hE x hx y hy
      have hyv : S.ord y ≠ -1 := by
        rcases List.mem_cons.1 hN with rfl | hxs
        · exact hseen y hy
        · refine I.blk x y (subN x hN) (fun hh => ?_) hy
          rcases hh with hh | hh
          · exact disj x (h.inv0.gry x hh) hN
          · subst hh
            exact (List.nodup_cons.1 nodup).1 hxs
      cases ho : S.on y with
      | false =>
        have hdy : Done S y := ⟨hyv, ho⟩
        refine ⟨(don y).2 (.inl hdy), ?_⟩
        rw [cD y hdy, cN x hN]
        have := I.cmp y hyn hdy; omega
      | true =>
        rcases split y ((I.onIff y hyn).1 ho) with h1 | h1
        · have h2 := h.old_lt h1
          have h3 : S.low v ≤ S.ord y := by
            rcases List.mem_cons.1 hN with rfl | hxs
            · exact hown y hy h1
            · exact hc x hxs y hy h1
          omega
        · exact ⟨(don y).2 (.inr h1), by rw [cN x hN, cN y h1]; exact Int.le_refl _⟩
  · intro x y hx hg hy
    refine I.blk x y (sub x hx) (fun hh => ?_) hy
    rcases hh with hh | hh
    · exact hg hh
    · subst hh; exact hns hx
  · intro x y hx hy hxy; exact I.fwd x y (.inl hx) (sub y hy) hxy
  · intro y hy
    obtain ⟨x, hx, hxy, hr⟩ := I.bwd y (sub y hy)
    rcases hx with hx | rfl
    · exact ⟨x, hx, hxy, hr⟩
    · have := h.old_lt hy; omega
  · intro x y hx hy hdx hdy hcc
    rcases (don x).1 hdx with hdx | hNx
    · rcases (don y).1 hdy with hdy | hNy
      · rw [cD x hdx, cD y hdy] at hcc
        exact I.scc x y hx hy hdx hdy hcc
      · rw [cD x hdx, cN y hNy] at hcc
        have := I.cmp x hx hdx; omega
    · rcases (don y).1 hdy with hdy | hNy
      · rw [cN x hNx, cD y hdy] at hcc
        have := I.cmp y hy hdy; omega
      · exact (toV x hNx).trans (I.fwd v y (.inr rfl) (subN y hNy) (geN y hNy))
  · intro c hcl
    rw [len1] at hcl
    by_cases e : c < S.sizes.length
    · have e1 : (popped S S0.stack (v :: s)).sizes.getD c 0 = S.sizes.getD c 0 := by
        simp [popped, List.getD_eq_getElem?_getD, List.getElem?_append_left e]
      have e2 : cnt (doneIn (popped S S0.stack (v :: s)) c) n = cnt (doneIn S c) n := by
        apply cnt_congr
        intro x hx
        have : doneIn (popped S S0.stack (v :: s)) c x = true ↔ doneIn S c x = true := by
          rw [doneIn_iff, doneIn_iff, don]
          constructor
          · rintro ⟨hd | hN, hcx⟩
            · rw [cD x hd] at hcx; exact ⟨hd, hcx⟩
            · rw [cN x hN] at hcx; omega
          · rintro ⟨hd, hcx⟩
            exact ⟨.inl hd, by rw [cD x hd]; exact hcx⟩
        exact Bool.eq_iff_iff.2 this
      rw [e1, e2]
      exact I.szs c e
    · obtain rfl : c = S.sizes.length := by omega
      have e1 : (popped S S0.stack (v :: s)).sizes.getD S.sizes.length 0 = ((v :: s).length : Int) := by
        simp [popped, List.getD_eq_getElem?_getD]
      have e2 : cnt (doneIn (popped S S0.stack (v :: s)) S.sizes.length) n = (v :: s).length := by
        rw [← cnt_mem (v :: s) n nodup (fun x hx => (I.stk x (subN x hx)).1)]
        apply cnt_congr
        intro x hx
        have : doneIn (popped S S0.stack (v :: s)) S.sizes.length x = true ↔ decide (x ∈ v :: s) = true := by
          rw [doneIn_iff, don, decide_eq_true_eq]
          constructor
          · rintro ⟨hd | hN, hcx⟩
            · rw [cD x hd] at hcx
              have := I.cmp x hx hd; omega
            · exact hN
          · intro hN
            exact ⟨.inr hN, cN x hN⟩
        exact Bool.eq_iff_iff.2 this
      rw [e1, e2]
      exact ⟨rfl, by simp⟩
  · rw [len1]
    show S.sizes.length + 1 + S0.stack.length ≤ S.next
    have h1 := I.cap
    rw [hs] at h1
    simp at h1
    omega
  · show S.ord v ≠ -1
    rw [h.ordv]; omega
  · show (S0.next : Int) ≤ S.low v
    rw [hlow, h.ordv]; exact Int.le_refl _
end

/-! ### From the outside -/
def start : St := { ord := fun _ => -1, low := fun _ => 0, on := fun _ => false, comp := fun _ => 0, stack := [], next := 0, sizes := [] }

theorem start_inv (n : Nat) (E : Nat → List Nat) : Inv n E (fun _ => False) start := by
  have nd : ∀ x, ¬ Done start x := fun x h => h.1 rfl
  refine ⟨fun x _ => .inl rfl, fun x y _ _ h => absurd rfl h, ?_, by simp [start], by simp [start], fun x _ h => absurd h (nd x), fun x h => h.elim, fun x y _ h => absurd h (nd x), by simp [start],
    fun x y h => h.elim, by simp [start], fun x y _ _ h => absurd h (nd x), by simp [start], by simp [start], ?_⟩
  · intro x _; simp [start]
  · show 0 + cnt (fun _ => (-1 : Int) == -1) n = n
    rw [Nat.zero_add]
    induction n with
    | zero => rfl
    | succ n ih => rw [cnt, ih]; simp

theorem Inv.empty {n : Nat} {E : Nat → List Nat} {S : St} (h : Inv n E (fun _ => False) S) : S.stack = [] := by
  cases e : S.stack with
  | nil => rfl
  | cons a l =>
    obtain ⟨x, hx, _⟩ := h.bwd a (by rw [e]; simp)
    exact hx.elim

/-- What the components are. -/
structure Comps (n : Nat) (E : Nat → List Nat) (comp : Nat → Int) (sizes : List Int) : Prop where
  rng : ∀ x, x < n → 0 ≤ comp x ∧ comp x < sizes.length
  top : ∀ x y, x < n → y ∈ E x → comp y ≤ comp x
  scc : ∀ x y, x < n → y < n → comp x = comp y → Reach E x y
  szs : ∀ c, c < sizes.length → sizes.getD c 0 = (cnt (fun x => comp x == (c : Int)) n : Int) ∧ 1 ≤ sizes.getD c 0
  cap : sizes.length ≤ n

theorem comps_of {n : Nat} {E : Nat → List Nat} {S : St} (h : Inv n E (fun _ => False) S) (hall : ∀ x, x < n → S.ord x ≠ -1) : Comps n E S.comp S.sizes := by
  have he := h.empty
  have don : ∀ x, x < n → Done S x := fun x hx => ⟨hall x hx, by
    cases ho : S.on x with
    | false => rfl
    | true => have := (h.onIff x hx).1 ho; rw [he] at this; simp at this⟩
  refine ⟨fun x hx => h.cmp x hx (don x hx), fun x y hx hy => (h.top x y hx (don x hx) hy).2, fun x y hx hy hc => h.scc x y hx hy (don x hx) (don y hy) hc, ?_, ?_⟩
  · intro c hc
    have e : cnt (doneIn S c) n = cnt (fun x => S.comp x == (c : Int)) n := by
      apply cnt_congr
      intro x hx
      have hd := don x hx
      simp [doneIn, hd.1, hd.2]
    have := h.szs c hc
    rw [e] at this
    exact ⟨this.1, by rw [this.1]; omega⟩
  · have h1 := h.cap
    have h2 := h.whi
    omega

/-- In each other's reach: the same component; and back. -/
theorem Comps.reach_le {n : Nat} {E : Nat → List Nat} {comp : Nat → Int} {sizes : List Int} (h : Comps n E comp sizes) (hE : ∀ x, x < n → ∀ y, y ∈ E x → y < n) {x y : Nat} (hx : x < n) (hr : Reach E x y) : y < n ∧ comp y ≤ comp x :=
  hr (fun z => z < n ∧ comp z ≤ comp x) ⟨hx, Int.le_refl _⟩ (fun a b ha hb => ⟨hE a ha.1 b hb, by have := h.top a b ha.1 hb; omega⟩)

theorem Comps.same_iff {n : Nat} {E : Nat → List Nat} {comp : Nat → Int} {sizes : List Int} (h : Comps n E comp sizes) (hE : ∀ x, x < n → ∀ y, y ∈ E x → y < n) {x y : Nat} (hx : x < n) (hy : y < n) :
    comp x = comp y ↔ Reach E x y ∧ Reach E y x := by
  constructor
  · intro hc; exact ⟨h.scc x y hx hy hc, h.scc y x hy hx hc.symm⟩
  · rintro ⟨h1, h2⟩
    have := (h.reach_le hE hx h1).2
    have := (h.reach_le hE hy h2).2
    omega

end Go.Proofs.Qxb6001235a
