/-
  THE WALKS of largestWidth (25), ZZlargestWidth (17), toQueuing (18).
-/
import Derived.Test.Qxb6605940aFits
import Derived.WalkLawsBesides
import Derived.RegionTactic
import Derived.ChangeAlike
import Derived.BigRegion
namespace Go.Proofs.Qxb6605940a
open Go.RowKit

theorem ret_int {k : IntKind} {a b : Int} (h : a = b) : Ending.returned (.int k a) = .returned (.int k b) := by rw [h]

theorem tdiv_neg (x d : Int) (hx : x < 0) (hd : 0 < d) : x.tdiv d ≤ 0 := by
  have h := Int.tdiv_nonneg (a := -x) (b := d) (by omega) (by omega)
  rw [Int.neg_tdiv] at h
  omega

set_option maxHeartbeats 800000 in
theorem lw_free (l : Int) (h1 : -614891469123651720 ≤ l) (h2 : l ≤ 614891469123651720) (w : World) :
    Calls Try.prog 25 #[.int .i64 l, .pointer none] w fun e w' => e = .returned (.int .i64 (wfree l)) ∧ w = w' := by
  by_cases hn : l < 0
  · have HB : Hid (wfree l = 1) := wfree_neg l hn
    have ht := tdiv_neg (l * 15) 100 (by omega) (by omega)
    have ht' : (l * 15).tdiv 100 < 1 := by omega
    go_enter Try.func25, Try.ntmps25
    go_wp2
    go_ret
    exact ⟨ret_int HB.out.symm, rfl⟩
  · have hp : 0 ≤ l := by omega
    clear hn
    go_enter Try.func25, Try.ntmps25
    go_wp2
    all_goals (go_ret; exact ⟨ret_int (by unfold wfree; omega), rfl⟩)

set_option maxHeartbeats 800000 in
theorem lw_queue (l h : Int) (b : Nat) (h1 : -614891469123651720 ≤ l) (h2 : l ≤ 614891469123651720) (g1 : 1 ≤ h) (g2 : h ≤ 9223372036854775807) (w : World) (hc : w.cell? ⟨b, 1, none⟩ = some (.int .i64 h)) :
    Calls Try.prog 25 #[.int .i64 l, .pointer (some ⟨b, 0, none⟩)] w fun e w' => e = .returned (.int .i64 (wq l h)) ∧ w = w' := by
  by_cases hn : l < 0
  · have HB : Hid (wq l h = 1) := wq_neg l h hn
    have ht := tdiv_neg (l * 15) 100 (by omega) (by omega)
    have hu := tdiv_neg l h hn (by omega)
    go_enter Try.func25, Try.ntmps25
    go_wp2
    all_goals (go_ret; exact ⟨ret_int HB.out.symm, rfl⟩)
  · have hp : 0 ≤ l := by omega
    clear hn
    go_enter Try.func25, Try.ntmps25
    go_wp2
    all_goals (go_ret; exact ⟨ret_int (by unfold wq; omega), rfl⟩)

theorem zz_free (l : Int) (h1 : -614891469123651720 ≤ l) (h2 : l ≤ 614891469123651720) (w : World) :
    Calls Try.prog 17 #[.int .i64 l, .pointer none] w fun e w' => e = .returned (.int .i64 (wfree l)) ∧ w = w' := by
  go_enter Try.func17, Try.ntmps17
  go_wp2_with (go_at_call 25; refine (lw_free l h1 h2 _).mono ?_; rintro e w' ⟨rfl, rfl⟩)
  go_ret
  exact ⟨rfl, rfl⟩

theorem zz_queue (l h : Int) (b : Nat) (h1 : -614891469123651720 ≤ l) (h2 : l ≤ 614891469123651720) (g1 : 1 ≤ h) (g2 : h ≤ 9223372036854775807) (w : World) (hc : w.cell? ⟨b, 1, none⟩ = some (.int .i64 h)) :
    Calls Try.prog 17 #[.int .i64 l, .pointer (some ⟨b, 0, none⟩)] w fun e w' => e = .returned (.int .i64 (wq l h)) ∧ w = w' := by
  go_enter Try.func17, Try.ntmps17
  go_wp2_with (go_at_call 25; refine (lw_queue l h b h1 h2 g1 g2 _ hc).mono ?_; rintro e w' ⟨rfl, rfl⟩)
  go_ret
  exact ⟨rfl, rfl⟩

theorem toQ_nil (w : World) :
    Calls Try.prog 18 #[.pointer none] w fun e w' => e = .returned (.pointer none) ∧ w = w' := by
  go_enter Try.func18, Try.ntmps18
  go_wp2
  go_ret
  exact ⟨rfl, rfl⟩

set_option maxHeartbeats 1600000 in
theorem toQ_some (b off : Nat) (q h n : Int) (w : World) (c0 : w.cell? ⟨b, off, none⟩ = some (.int .i64 q)) (c1 : w.cell? ⟨b, off + 1, none⟩ = some (.int .i64 h)) (c2 : w.cell? ⟨b, off + 2, none⟩ = some (.int .i64 n)) :
    Calls Try.prog 18 #[.pointer (some ⟨b, off, none⟩)] w fun e w' => e = .returned (.pointer (some ⟨w.heap.size, 0, none⟩)) ∧ Below w.heap.size w w' ∧ w'.cell? ⟨w.heap.size, 1, none⟩ = some (.int .i64 h) := by
  go_enter Try.func18, Try.ntmps18
  go_wp2
  go_region
  all_goals go_wp2
  all_goals go_ret
  all_goals exact ⟨rfl, ((Below.refl _ w).alloc (Nat.le_refl _) _).drew, by simp⟩

end Go.Proofs.Qxb6605940a
