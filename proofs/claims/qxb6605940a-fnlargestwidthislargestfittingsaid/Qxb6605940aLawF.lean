/-
  THE WALK of the law FnLargestWidthIsLargestFitting (5).
-/
import Derived.Test.Qxb6605940aWidth
namespace Go.Proofs.Qxb6605940a
open Go.RowKit

set_option maxHeartbeats 800000 in
/-- Out of the bounds the law says nothing. -/
theorem fitting_far (l : Int) (p : Option Addr) (w : World) (hfar : 614891469123651720 < l ∨ l < -614891469123651720) :
    Calls Try.prog 5 #[.int .i64 l, .pointer p] w fun e w' => e = .returned (.bool true) ∧ Below w.heap.size w w' := by
  by_cases h1 : 614891469123651720 < l
  · clear hfar
    go_enter Try.func5, Try.ntmps5
    go_wp2
    go_ret
    exact ⟨rfl, Below.refl _ _⟩
  · have h2 : l < -614891469123651720 := by omega
    clear hfar
    go_enter Try.func5, Try.ntmps5
    go_wp2
    go_ret
    exact ⟨rfl, Below.refl _ _⟩

set_option maxHeartbeats 800000 in
theorem fitting_nil (l : Int) (h1 : -614891469123651720 ≤ l) (h2 : l ≤ 614891469123651720) (w : World) :
    Calls Try.prog 5 #[.int .i64 l, .pointer none] w fun e w' => e = .returned (.bool true) ∧ Below w.heap.size w w' := by
  have p1 := wfree_pos l
  have p2 := wfree_le l h2
  by_cases e2 : fitsB 2 l false 0 = true
  · obtain ⟨f1, f2⟩ := free_two l 0 e2
    go_enter Try.func5, Try.ntmps5
    go_wp2_with fail
    refine (toQ_nil _).mono ?_
    rintro e w' ⟨rfl, rfl⟩
    go_wp2_with fail
    refine (zz_free l h1 h2 _).mono ?_
    rintro e w' ⟨rfl, rfl⟩
    go_wp2_with fail
    refine (fits_any 2 l false 0 _ h2 (by omega) (by omega)).mono ?_
    rintro e w' ⟨rfl, rfl⟩
    go_wp2_with fail
    refine (fits_any (wfree l) l false 0 _ h2 (by omega) (by omega)).mono ?_
    rintro e w' ⟨rfl, rfl⟩
    go_wp2_with fail
    refine (fits_any (wfree l + 1) l false 0 _ h2 (by omega) (by omega)).mono ?_
    rintro e w' ⟨rfl, rfl⟩
    go_wp2
    go_ret
    exact ⟨rfl, Below.refl _ _⟩
  · have e2' : fitsB 2 l false 0 = false := by simpa using e2
    have e3 := free_one l 0 e2'
    clear e2
    have e4 : (wfree l == 1) = true := by rw [e3]; rfl
    clear e3
    go_enter Try.func5, Try.ntmps5
    go_wp2_with fail
    refine (toQ_nil _).mono ?_
    rintro e w' ⟨rfl, rfl⟩
    go_wp2_with fail
    refine (zz_free l h1 h2 _).mono ?_
    rintro e w' ⟨rfl, rfl⟩
    go_wp2_with fail
    refine (fits_any 2 l false 0 _ h2 (by omega) (by omega)).mono ?_
    rintro e w' ⟨rfl, rfl⟩
    go_wp2
    go_ret
    exact ⟨rfl, Below.refl _ _⟩

set_option maxHeartbeats 1600000 in
theorem fitting_some (l : Int) (h1 : -614891469123651720 ≤ l) (h2 : l ≤ 614891469123651720) (b off : Nat) (q h n : Int) (w : World) (g2 : h ≤ 9223372036854775807)
    (c0 : w.cell? ⟨b, off, none⟩ = some (.int .i64 q)) (c1 : w.cell? ⟨b, off + 1, none⟩ = some (.int .i64 h)) (c2 : w.cell? ⟨b, off + 2, none⟩ = some (.int .i64 n)) :
    Calls Try.prog 5 #[.int .i64 l, .pointer (some ⟨b, off, none⟩)] w fun e w' => e = .returned (.bool true) ∧ Below w.heap.size w w' := by
  by_cases g1 : h < 1
  · go_enter Try.func5, Try.ntmps5
    go_wp2
    go_ret
    exact ⟨rfl, Below.refl _ _⟩
  have g1' : 1 ≤ h := by omega
  clear g1
  have p1 := wq_pos l h
  have p2 : wq l h ≤ 92233720368547758 := Int.le_trans (wq_le_free l h) (wfree_le l h2)
  by_cases e2 : fitsB 2 l true h = true
  · obtain ⟨f1, f2⟩ := q_two l h g1' e2
    go_enter Try.func5, Try.ntmps5
    go_wp2_with fail
    refine (toQ_some b off q h n _ c0 c1 c2).mono ?_
    rintro e w1 ⟨rfl, hb, hc⟩
    clear c0 c1 c2
    go_wp2_with fail
    refine (zz_queue l h _ h1 h2 g1' g2 _ hc).mono ?_
    rintro e w' ⟨rfl, rfl⟩
    go_wp2_with fail
    refine (fits_any 2 l true h _ h2 (by omega) g2).mono ?_
    rintro e w' ⟨rfl, rfl⟩
    go_wp2_with fail
    refine (fits_any (wq l h) l true h _ h2 (by omega) g2).mono ?_
    rintro e w' ⟨rfl, rfl⟩
    go_wp2_with fail
    refine (fits_any (wq l h + 1) l true h _ h2 (by omega) g2).mono ?_
    rintro e w' ⟨rfl, rfl⟩
    go_wp2
    go_ret
    exact ⟨rfl, hb⟩
  · have e2' : fitsB 2 l true h = false := by simpa using e2
    have e3 := q_one l h g1' e2'
    clear e2
    have e4 : (wq l h == 1) = true := by rw [e3]; rfl
    clear e3
    go_enter Try.func5, Try.ntmps5
    go_wp2_with fail
    refine (toQ_some b off q h n _ c0 c1 c2).mono ?_
    rintro e w1 ⟨rfl, hb, hc⟩
    clear c0 c1 c2
    go_wp2_with fail
    refine (zz_queue l h _ h1 h2 g1' g2 _ hc).mono ?_
    rintro e w' ⟨rfl, rfl⟩
    go_wp2_with fail
    refine (fits_any 2 l true h _ h2 (by omega) g2).mono ?_
    rintro e w' ⟨rfl, rfl⟩
    go_wp2
    go_ret
    exact ⟨rfl, hb⟩

end Go.Proofs.Qxb6605940a
