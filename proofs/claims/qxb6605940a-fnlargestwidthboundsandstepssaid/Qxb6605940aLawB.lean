/-
  THE WALK of the law FnLargestWidthBoundsAndSteps (6).
-/
import Derived.Test.Qxb6605940aWidth
namespace Go.Proofs.Qxb6605940a
open Go.RowKit

set_option maxHeartbeats 800000 in
/-- Out of the bounds the law says nothing. -/
theorem bounds_far (l : Int) (p : Option Addr) (w : World) (hfar : 614891469123651720 < l ∨ l < -614891469123651720) :
    Calls Try.prog 6 #[.int .i64 l, .pointer p] w fun e w' => e = .returned (.bool true) ∧ Below w.heap.size w w' := by
  by_cases h1 : 614891469123651720 < l
  · clear hfar
    go_enter Try.func6, Try.ntmps6
    go_wp2
    go_ret
    exact ⟨rfl, Below.refl _ _⟩
  · have h2 : l < -614891469123651720 := by omega
    clear hfar
    go_enter Try.func6, Try.ntmps6
    go_wp2
    go_ret
    exact ⟨rfl, Below.refl _ _⟩

/-- The step of twenty, as the law's last lines ask it. -/
theorem step_eq_down (l : Int) (h : 34 ≤ l) : (wfree l == wfree (l - 20) + 3) = true := by rw [step_down l h]; exact beq_self_eq_true _
theorem step_eq_up (l : Int) (h : 14 ≤ l) : (wfree (l + 20) == wfree l + 3) = true := by rw [step_up l h]; exact beq_self_eq_true _
theorem step_eq_low (l : Int) (h : l < 14) : (wfree l == 1) = true := by rw [step_low l h]; rfl

set_option maxHeartbeats 1600000 in
theorem bounds_nil (l : Int) (h1 : -614891469123651720 ≤ l) (h2 : l ≤ 614891469123651720) (w : World) :
    Calls Try.prog 6 #[.int .i64 l, .pointer none] w fun e w' => e = .returned (.bool true) ∧ Below w.heap.size w w' := by
  have p1 := wfree_pos l
  have p2 := wfree_le l h2
  go_enter Try.func6, Try.ntmps6
  go_wp2_with fail
  refine (toQ_nil _).mono ?_
  rintro e w' ⟨rfl, rfl⟩
  go_wp2_with fail
  refine (zz_free l h1 h2 _).mono ?_
  rintro e w' ⟨rfl, rfl⟩
  go_wp2_with fail
  refine (zz_free l h1 h2 _).mono ?_
  rintro e w' ⟨rfl, rfl⟩
  by_cases s1 : 34 ≤ l
  · have s2 := step_eq_down l s1
    have s3 := wfree_pos (l - 20)
    have s4 := wfree_le (l - 20) (by omega)
    go_wp2_with fail
    refine (zz_free (l - 20) (by omega) (by omega) _).mono ?_
    rintro e w' ⟨rfl, rfl⟩
    go_wp2
    go_ret
    exact ⟨rfl, Below.refl _ _⟩
  by_cases s5 : 14 ≤ l
  · have s2 := step_eq_up l s5
    go_wp2_with fail
    refine (zz_free (l + 20) (by omega) (by omega) _).mono ?_
    rintro e w' ⟨rfl, rfl⟩
    go_wp2
    go_ret
    exact ⟨rfl, Below.refl _ _⟩
  · have s2 := step_eq_low l (by omega)
    go_wp2
    go_ret
    exact ⟨rfl, Below.refl _ _⟩

set_option maxHeartbeats 3200000 in
theorem bounds_some (l : Int) (h1 : -614891469123651720 ≤ l) (h2 : l ≤ 614891469123651720) (b off : Nat) (q h n : Int) (w : World) (g2 : h ≤ 9223372036854775807)
    (c0 : w.cell? ⟨b, off, none⟩ = some (.int .i64 q)) (c1 : w.cell? ⟨b, off + 1, none⟩ = some (.int .i64 h)) (c2 : w.cell? ⟨b, off + 2, none⟩ = some (.int .i64 n)) :
    Calls Try.prog 6 #[.int .i64 l, .pointer (some ⟨b, off, none⟩)] w fun e w' => e = .returned (.bool true) ∧ Below w.heap.size w w' := by
  by_cases g1 : h < 1
  · go_enter Try.func6, Try.ntmps6
    go_wp2
    go_ret
    exact ⟨rfl, Below.refl _ _⟩
  have g1' : 1 ≤ h := by omega
  clear g1
  have p1 := wfree_pos l
  have p2 := wfree_le l h2
  have p3 := wq_pos l h
  have p4 := wq_le_free l h
  by_cases k : 1 < wq l h
  · obtain ⟨k1, k2⟩ := q_hand l h g1' k
    obtain ⟨k3, k4⟩ := words_fit (wq l h) h l (Int.mul_nonneg (by omega) (by omega)) k2 (by omega)
    have k3' : (hiW (wq l h) h != 0) = false := by rw [k3]; rfl
    have k4' : loW (wq l h) h ≤ l := by rw [k4]; exact k2
    have k5 := words_nonneg (wq l h) h
    clear k2 k3 k4
    go_enter Try.func6, Try.ntmps6
    go_wp2_with fail
    refine (toQ_some b off q h n _ c0 c1 c2).mono ?_
    rintro e w1 ⟨rfl, hb, hc⟩
    clear c0 c1 c2
    go_wp2_with fail
    refine (zz_queue l h _ h1 h2 g1' g2 _ hc).mono ?_
    rintro e w' ⟨rfl, rfl⟩
    go_wp2_with fail
    refine (zz_free l h1 h2 _).mono ?_
    rintro e w' ⟨rfl, rfl⟩
    go_wp2_with fail
    refine (wideMul_any (wq l h) h ⟨by omega, by omega⟩ ⟨by omega, g2⟩ _).mono ?_
    rintro e w' ⟨rfl, rfl⟩
    by_cases s1 : 34 ≤ l
    · have s2 := step_eq_down l s1
      have s3 := wfree_pos (l - 20)
      have s4 := wfree_le (l - 20) (by omega)
      go_wp2_with fail
      refine (zz_free (l - 20) (by omega) (by omega) _).mono ?_
      rintro e w' ⟨rfl, rfl⟩
      go_wp2
      go_ret
      exact ⟨rfl, hb⟩
    by_cases s5 : 14 ≤ l
    · have s2 := step_eq_up l s5
      go_wp2_with fail
      refine (zz_free (l + 20) (by omega) (by omega) _).mono ?_
      rintro e w' ⟨rfl, rfl⟩
      go_wp2
      go_ret
      exact ⟨rfl, hb⟩
    · have s2 := step_eq_low l (by omega)
      go_wp2
      go_ret
      exact ⟨rfl, hb⟩
  · go_enter Try.func6, Try.ntmps6
    go_wp2_with fail
    refine (toQ_some b off q h n _ c0 c1 c2).mono ?_
    rintro e w1 ⟨rfl, hb, hc⟩
    clear c0 c1 c2
    go_wp2_with fail
    refine (zz_queue l h _ h1 h2 g1' g2 _ hc).mono ?_
    rintro e w' ⟨rfl, rfl⟩
    go_wp2_with fail
    refine (zz_free l h1 h2 _).mono ?_
    rintro e w' ⟨rfl, rfl⟩
    by_cases s1 : 34 ≤ l
    · have s2 := step_eq_down l s1
      have s3 := wfree_pos (l - 20)
      have s4 := wfree_le (l - 20) (by omega)
      go_wp2_with fail
      refine (zz_free (l - 20) (by omega) (by omega) _).mono ?_
      rintro e w' ⟨rfl, rfl⟩
      go_wp2
      go_ret
      exact ⟨rfl, hb⟩
    by_cases s5 : 14 ≤ l
    · have s2 := step_eq_up l s5
      go_wp2_with fail
      refine (zz_free (l + 20) (by omega) (by omega) _).mono ?_
      rintro e w' ⟨rfl, rfl⟩
      go_wp2
      go_ret
      exact ⟨rfl, hb⟩
    · have s2 := step_eq_low l (by omega)
      go_wp2
      go_ret
      exact ⟨rfl, hb⟩

end Go.Proofs.Qxb6605940a
