/-
  THE PLAIN PART: no Go in sight: the widest request at a level, and what fits.
-/
import Derived.KernelRfl
namespace Go.Proofs.Qxb6605940a

/-- The width without queues. -/
def wfree (l : Int) : Int := max (l * 15 / 100) 1
/-- The width at a level that queues with a hand of h. -/
def wq (l h : Int) : Int := max (min (l * 15 / 100) (l / h)) 1

/-- Does a width of w fit l seats (and, where q, a hand of h)? -/
def fitsB (w l : Int) (q : Bool) (h : Int) : Bool := decide (1 ≤ w ∧ 0 ≤ l ∧ w ≤ l ∧ 20 * w ≤ 3 * l) && (!q || decide (w * h ≤ l))

theorem fits_iff (w l : Int) (q : Bool) (h : Int) : fitsB w l q h = true ↔ (1 ≤ w ∧ 0 ≤ l ∧ w ≤ l ∧ 20 * w ≤ 3 * l) ∧ (q = true → w * h ≤ l) := by
  unfold fitsB
  cases q <;> simp

theorem fits_false_iff (w l : Int) (q : Bool) (h : Int) : fitsB w l q h = false ↔ ¬ ((1 ≤ w ∧ 0 ≤ l ∧ w ≤ l ∧ 20 * w ≤ 3 * l) ∧ (q = true → w * h ≤ l)) := by
  rw [← fits_iff]; simp

theorem wfree_pos (l : Int) : 1 ≤ wfree l := by unfold wfree; omega
theorem wq_pos (l h : Int) : 1 ≤ wq l h := by unfold wq; omega
theorem wfree_le (l : Int) (h : l ≤ 614891469123651720) : wfree l ≤ 92233720368547758 := by unfold wfree; omega
theorem wq_le_free (l h : Int) : wq l h ≤ wfree l := by unfold wq wfree; omega
theorem wfree_neg (l : Int) (h : l < 0) : wfree l = 1 := by unfold wfree; omega
theorem wq_neg (l h : Int) (hl : l < 0) : wq l h = 1 := by unfold wq; omega

/-! ### Without queues -/
theorem free_two (l h : Int) (e : fitsB 2 l false h = true) : fitsB (wfree l) l false h = true ∧ fitsB (wfree l + 1) l false h = false := by
  rw [fits_iff] at *
  rw [fits_false_iff]
  unfold wfree
  refine ⟨⟨by omega, by simp⟩, by rintro ⟨h1, -⟩; omega⟩
theorem free_one (l h : Int) (e : fitsB 2 l false h = false) : wfree l = 1 := by
  rw [fits_false_iff] at e
  have e' : ¬ (1 ≤ (2 : Int) ∧ 0 ≤ l ∧ 2 ≤ l ∧ 20 * 2 ≤ 3 * l) := fun x => e ⟨x, by simp⟩
  unfold wfree
  omega

/-! ### With queues -/
theorem le_hand (l h w : Int) (hh : 1 ≤ h) : w ≤ l / h ↔ w * h ≤ l := Int.le_ediv_iff_mul_le (by omega)

theorem q_two (l h : Int) (hh : 1 ≤ h) (e : fitsB 2 l true h = true) : fitsB (wq l h) l true h = true ∧ fitsB (wq l h + 1) l true h = false := by
  rw [fits_iff] at *
  rw [fits_false_iff]
  obtain ⟨e1, e2⟩ := e
  have e3 := (le_hand l h 2 hh).2 (e2 rfl)
  have hw := (le_hand l h (wq l h) hh).1 (by unfold wq; omega)
  have hn := (le_hand l h (wq l h + 1) hh)
  refine ⟨⟨by unfold wq; omega, fun _ => hw⟩, ?_⟩
  rintro ⟨h1, h2⟩
  have h3 := hn.2 (h2 rfl)
  unfold wq at h1 h3
  omega
theorem q_one (l h : Int) (hh : 1 ≤ h) (e : fitsB 2 l true h = false) : wq l h = 1 := by
  rw [fits_false_iff] at e
  have e3 := le_hand l h 2 hh
  by_cases k : 2 * h ≤ l
  · have e' : ¬ (1 ≤ (2 : Int) ∧ 0 ≤ l ∧ 2 ≤ l ∧ 20 * 2 ≤ 3 * l) := fun x => e ⟨x, fun _ => k⟩
    unfold wq
    omega
  · have : ¬ 2 ≤ l / h := fun x => k (e3.1 x)
    unfold wq
    omega

/-- A full hand of the widest requests fits, unless the width is the floor. -/
theorem q_hand (l h : Int) (hh : 1 ≤ h) (e : 1 < wq l h) : 0 ≤ l ∧ wq l h * h ≤ l := by
  have hw := (le_hand l h (wq l h) hh)
  have h1 : wq l h ≤ l / h := by unfold wq at *; omega
  refine ⟨?_, hw.1 h1⟩
  unfold wq at e
  omega

/-! ### The steps of twenty -/
theorem step_down (l : Int) (h : 34 ≤ l) : wfree l = wfree (l - 20) + 3 := by unfold wfree; omega
theorem step_up (l : Int) (h : 14 ≤ l) : wfree (l + 20) = wfree l + 3 := by unfold wfree; omega
theorem step_low (l : Int) (h : l < 14) : wfree l = 1 := by unfold wfree; omega

end Go.Proofs.Qxb6605940a
