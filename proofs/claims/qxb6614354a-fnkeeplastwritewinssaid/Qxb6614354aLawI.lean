/-
  THE WALK of the law FnClientStringIgnoresToken (3).
-/
import Derived.Test.Qxb6614354aSmall
import Derived.Test.Qxb6614354aClient
namespace Go.Proofs.Qxb6614354a
open Go.RowKit

theorem below_drewN {B : Nat} {a w : World} (h : Below B a w) (n : Nat) : Below B a (w.drewN n) := h.trans ⟨rfl, rfl, rfl, Nat.le_refl _, fun _ _ => rfl⟩

set_option maxHeartbeats 1600000 in
theorem ignores_any (base t0 t1 : ByteArray) (h1 : base.size ≤ maxLen) (h2 : t0.size ≤ maxLen) (h3 : t1.size ≤ maxLen) (w : World) :
    Calls Try.prog 3 #[.string base, .string t0, .string t1] w fun e w' => e = .returned (.bool true) ∧ Below w.heap.size w w' := by
  have hM : Hid (base.size ≤ maxLen ∧ t0.size ≤ maxLen ∧ t1.size ≤ maxLen) := ⟨h1, h2, h3⟩
  unfold maxLen at h1 h2 h3
  by_cases g1 : (262144 : Int) < base.size
  · go_enter Try.func3, Try.ntmps3
    go_wp2_with (go_at_call 7; refine (bytes7_any base t0 t1 _ hM.out.1 hM.out.2.1 hM.out.2.2).mono ?_; rintro e w' ⟨⟨bb, rfl⟩, rfl⟩; cases bb)
    all_goals (go_ret; exact ⟨rfl, Below.refl _ _⟩)
  by_cases g2 : (262144 : Int) < t0.size
  · go_enter Try.func3, Try.ntmps3
    go_wp2_with (go_at_call 7; refine (bytes7_any base t0 t1 _ hM.out.1 hM.out.2.1 hM.out.2.2).mono ?_; rintro e w' ⟨⟨bb, rfl⟩, rfl⟩; cases bb)
    all_goals (go_ret; exact ⟨rfl, Below.refl _ _⟩)
  by_cases g3 : (262144 : Int) < t1.size
  · go_enter Try.func3, Try.ntmps3
    go_wp2_with (go_at_call 7; refine (bytes7_any base t0 t1 _ hM.out.1 hM.out.2.1 hM.out.2.2).mono ?_; rintro e w' ⟨⟨bb, rfl⟩, rfl⟩; cases bb)
    all_goals (go_ret; exact ⟨rfl, Below.refl _ _⟩)
  go_enter Try.func3, Try.ntmps3
  go_wp2_with (go_at_call 7; refine (bytes7_any base t0 t1 _ hM.out.1 hM.out.2.1 hM.out.2.2).mono ?_; rintro e w' ⟨⟨bb, rfl⟩, rfl⟩; cases bb)
  · go_ret
    exact ⟨rfl, Below.refl _ _⟩
  refine (reach_any base _ hM.out.1).mono ?_
  rintro e w' ⟨⟨bb, rfl⟩, n, rfl⟩
  cases bb
  · go_wp2
    go_ret
    exact ⟨rfl, below_drewN (Below.refl _ _) n⟩
  go_wp2_with fail
  refine (new_any w _ base t0 (below_drewN (Below.refl _ _) n)).mono ?_
  rintro e w1 ⟨rfl, hc1, -⟩
  go_wp2_with fail
  refine (string_any w _ _ base t0 hc1 (by omega)).mono ?_
  rintro e w' ⟨rfl, rfl⟩
  go_wp2_with fail
  refine (zzkeep_any w _ _ base t0 t1 hc1).mono ?_
  rintro e w2 ⟨rfl, hc2, -⟩
  go_wp2_with fail
  refine (string_any w _ _ base t1 hc2 (by omega)).mono ?_
  rintro e w' ⟨rfl, rfl⟩
  unfold desc
  go_wp2_with fail
  refine (token_any w _ _ base t1 hc2).mono ?_
  rintro e w3 ⟨rfl, hc3, -⟩
  go_wp2
  go_ret
  exact ⟨rfl, hc3.1⟩

end Go.Proofs.Qxb6614354a
