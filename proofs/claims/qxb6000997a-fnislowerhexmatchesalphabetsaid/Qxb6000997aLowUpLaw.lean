import Derived.Test.Qxb6000997aHex
import Derived.Test.Qxb6000997aArr
namespace Go.Proofs.Qxb6000997a
open Go.RowKit

/-- The j-th nibble of the bytes f. -/
def nib (f : Nat → Int) (j : Nat) : Int := if j % 2 = 0 then f (j / 2) / 16 else f (j / 2) % 16
def loCh (n : Int) : Int := if n < 10 then 48 + n else 87 + n
def upCh (n : Int) : Int := if n < 10 then 48 + n else 55 + n
def anyLetter (f : Nat → Int) : Nat → Bool
  | 0 => false
  | n + 1 => anyLetter f n || decide (10 ≤ nib f n)

theorem nib_even (f : Nat → Int) (k : Nat) : nib f (2 * k) = f k / 16 := by
  unfold nib; rw [if_pos (by omega), show 2 * k / 2 = k from by omega]
theorem nib_odd (f : Nat → Int) (k : Nat) : nib f (2 * k + 1) = f k % 16 := by
  unfold nib; rw [if_neg (by omega), show (2 * k + 1) / 2 = k from by omega]
theorem nib_bd (f : Nat → Int) (hf : ∀ i, 0 ≤ f i ∧ f i ≤ 255) (j : Nat) : 0 ≤ nib f j ∧ nib f j < 16 := by
  have := hf (j / 2)
  unfold nib; split <;> omega

theorem anyLetter_two (f : Nat → Int) (k : Nat) : anyLetter f (2 * (k + 1)) = (anyLetter f (2 * k) || (decide (10 ≤ f k / 16) || decide (10 ≤ f k % 16))) := by
  rw [show 2 * (k + 1) = 2 * k + 1 + 1 from by omega, anyLetter, anyLetter, nib_even, nib_odd, Bool.or_assoc]

theorem lo_at (n : Int) (h0 : 0 ≤ n) (h1 : n < 16) (hp : n.toNat < (ByteArray.mk #[48, 49, 50, 51, 52, 53, 54, 55, 56, 57, 97, 98, 99, 100, 101, 102]).size) :
    (((ByteArray.mk #[48, 49, 50, 51, 52, 53, 54, 55, 56, 57, 97, 98, 99, 100, 101, 102])[n.toNat]'hp).toNat : Int) = loCh n := by
  have h : n = 0 ∨ n = 1 ∨ n = 2 ∨ n = 3 ∨ n = 4 ∨ n = 5 ∨ n = 6 ∨ n = 7 ∨ n = 8 ∨ n = 9 ∨ n = 10 ∨ n = 11 ∨ n = 12 ∨ n = 13 ∨ n = 14 ∨ n = 15 := by omega
  rcases h with rfl | rfl | rfl | rfl | rfl | rfl | rfl | rfl | rfl | rfl | rfl | rfl | rfl | rfl | rfl | rfl <;> rfl
theorem up_at (n : Int) (h0 : 0 ≤ n) (h1 : n < 16) (hp : n.toNat < (ByteArray.mk #[48, 49, 50, 51, 52, 53, 54, 55, 56, 57, 65, 66, 67, 68, 69, 70]).size) :
    (((ByteArray.mk #[48, 49, 50, 51, 52, 53, 54, 55, 56, 57, 65, 66, 67, 68, 69, 70])[n.toNat]'hp).toNat : Int) = upCh n := by
  have h : n = 0 ∨ n = 1 ∨ n = 2 ∨ n = 3 ∨ n = 4 ∨ n = 5 ∨ n = 6 ∨ n = 7 ∨ n = 8 ∨ n = 9 ∨ n = 10 ∨ n = 11 ∨ n = 12 ∨ n = 13 ∨ n = 14 ∨ n = 15 := by omega
  rcases h with rfl | rfl | rfl | rfl | rfl | rfl | rfl | rfl | rfl | rfl | rfl | rfl | rfl | rfl | rfl | rfl <;> rfl

/-- What the loop has filled. -/
structure Rel5 (f : Nat → Int) (len k g1 g2 : Nat) (L U : List Int) (w wr : World) : Prop where
  hk : k ≤ len
  r1 : HasRow wr g1 5 (L.map (Value.int .u8))
  r2 : HasRow wr g2 5 (U.map (Value.int .u8))
  l1 : L.length = 2 * len
  l2 : U.length = 2 * len
  v1 : ∀ j, j < 2 * k → L.getD j 0 = loCh (nib f j)
  v2 : ∀ j, j < 2 * k → U.getD j 0 = upCh (nib f j)
  bel : Below g1 w wr

theorem rel5_step {f : Nat → Int} {len k g1 g2 : Nat} {L U : List Int} {w wr : World} (R : Rel5 f len k g1 g2 L U w wr) (hlt : k < len) (hg : g1 < g2)
    {a b c d : Int} (ha : a = loCh (f k / 16)) (hb : b = loCh (f k % 16)) (hc : c = upCh (f k / 16)) (hd : d = upCh (f k % 16)) :
    Rel5 f len (k + 1) g1 g2 ((L.set (2 * k) a).set (2 * k + 1) b) ((U.set (2 * k) c).set (2 * k + 1) d) w
      ((((wr.setCell ⟨g1, 2 * k, none⟩ (.int .u8 a)).setCell ⟨g1, 2 * k + 1, none⟩ (.int .u8 b)).setCell ⟨g2, 2 * k, none⟩ (.int .u8 c)).setCell ⟨g2, 2 * k + 1, none⟩ (.int .u8 d)) := by
  have l1 := R.l1
  have l2 := R.l2
  refine ⟨hlt, ?_, ?_, by simpa using l1, by simpa using l2, ?_, ?_, (((R.bel.setCell (Nat.le_refl _) _).setCell (Nat.le_refl _) _).setCell (by simp; omega) _).setCell (by simp; omega) _⟩
  · rw [List.map_set, List.map_set]
    exact (((R.r1.set _ _).set _ _).other (by simp; omega) _).other (by simp; omega) _
  · rw [List.map_set, List.map_set]
    exact (((R.r2.other (by simp; omega) _).other (by simp; omega) _).set _ _).set _ _
  · intro j hj
    simp only [List.getD_eq_getElem?_getD, List.getElem?_set]
    by_cases e1 : 2 * k + 1 = j
    · subst e1; rw [if_pos rfl, if_pos (by simp only [List.length_set]; omega), hb, nib_odd]; rfl
    · by_cases e2 : 2 * k = j
      · subst e2; rw [if_neg e1, if_pos rfl, if_pos (by omega), ha, nib_even]; rfl
      · rw [if_neg e1, if_neg e2, ← List.getD_eq_getElem?_getD]; exact R.v1 j (by omega)
  · intro j hj
    simp only [List.getD_eq_getElem?_getD, List.getElem?_set]
    by_cases e1 : 2 * k + 1 = j
    · subst e1; rw [if_pos rfl, if_pos (by simp only [List.length_set]; omega), hd, nib_odd]; rfl
    · by_cases e2 : 2 * k = j
      · subst e2; rw [if_neg e1, if_pos rfl, if_pos (by omega), hc, nib_even]; rfl
      · rw [if_neg e1, if_neg e2, ← List.getD_eq_getElem?_getD]; exact R.v2 j (by omega)

theorem hexB_true (c : Int) : hexB c = true ↔ (48 ≤ c ∧ c ≤ 57) ∨ (97 ≤ c ∧ c ≤ 102) := by unfold hexB; exact decide_eq_true_iff
theorem hexB_false (c : Int) : hexB c = false ↔ ¬ ((48 ≤ c ∧ c ≤ 57) ∨ (97 ≤ c ∧ c ≤ 102)) := by unfold hexB; exact decide_eq_false_iff_not

theorem low_all {f g : Nat → Int} (hf : ∀ i, 0 ≤ f i ∧ f i ≤ 255) (n : Nat) (h : ∀ j, j < n → g j = loCh (nib f j)) : hexAll g n = true := by
  rw [hexAll_iff]
  intro i hi
  have := nib_bd f hf i
  rw [h i hi, hexB_true]
  unfold loCh
  split <;> omega

theorem up_all {f g : Nat → Int} (hf : ∀ i, 0 ≤ f i ∧ f i ≤ 255) (n : Nat) (h : ∀ j, j < n → g j = upCh (nib f j)) : hexAll g n = !anyLetter f n := by
  induction n with
  | zero => rfl
  | succ n ih =>
    rw [hexAll, anyLetter, ih (fun j hj => h j (by omega)), h n (by omega), Bool.not_or]
    have := nib_bd f hf n
    congr 1
    by_cases c : 10 ≤ nib f n
    · rw [decide_eq_true c, Bool.not_true, hexB_false]; unfold upCh; rw [if_neg (by omega)]; omega
    · rw [decide_eq_false c, Bool.not_false, hexB_true]; unfold upCh; rw [if_pos (by omega)]; omega

theorem HasRow.ints_cell {w : World} {g : Nat} {e : TypeId} {k : IntKind} {xs : List Int} (h : HasRow w g e (xs.map (Value.int k))) (j : Nat) (hj : j < xs.length) : w.cell? ⟨g, j, none⟩ = some (.int k (xs.getD j 0)) := by
  rw [h.cell]; simp [hj]

end Go.Proofs.Qxb6000997a
