/-
  THE WALK of the law FnKeepTouchesOnlyItsClient (6).
-/
import Derived.Test.Qxb6614354aLawI
namespace Go.Proofs.Qxb6614354a
open Go.RowKit

theorem Cl.alloc {W w : World} {b : Nat} {base tok : ByteArray} (h : Cl W w b base tok) (o : Obj) : Cl W (w.alloc o) b base tok := by
  obtain ⟨h1, h2, h3, h4, h5, h6, h7, h8⟩ := h
  have hn : Below w.heap.size w (w.alloc o) := (Below.refl _ w).alloc (Nat.le_refl _) o
  exact ⟨h1.alloc h1.size o, h2, Nat.lt_of_lt_of_le h3 hn.size, (hn.cell (p := ⟨b, 0, none⟩) h3).trans h4, (hn.cell (p := ⟨b, 2, none⟩) h3).trans h5, (hn.cell (p := ⟨b, 4, none⟩) h3).trans h6, (hn.frozen (p := ⟨b, 2, none⟩) h3).trans h7, (hn.frozen (p := ⟨b, 4, none⟩) h3).trans h8⟩

set_option maxHeartbeats 1600000 in
theorem touches_any (base t0 t1 : ByteArray) (h1 : base.size ≤ maxLen) (h2 : t0.size ≤ maxLen) (h3 : t1.size ≤ maxLen) (w : World) :
    Calls Try.prog 6 #[.string base, .string t0, .string t1] w fun e w' => e = .returned (.bool true) ∧ Below w.heap.size w w' := by
  have hM : Hid (base.size ≤ maxLen ∧ t0.size ≤ maxLen ∧ t1.size ≤ maxLen) := ⟨h1, h2, h3⟩
  unfold maxLen at h1 h2 h3
  by_cases g1 : (262144 : Int) < base.size
  · go_enter Try.func6, Try.ntmps6
    go_wp2_with (go_at_call 16; refine (bytes16_any base t0 t1 _ hM.out.1 hM.out.2.1 hM.out.2.2).mono ?_; rintro e w' ⟨⟨bb, rfl⟩, rfl⟩; cases bb)
    all_goals (go_ret; exact ⟨rfl, Below.refl _ _⟩)
  by_cases g2 : (262144 : Int) < t0.size
  · go_enter Try.func6, Try.ntmps6
    go_wp2_with (go_at_call 16; refine (bytes16_any base t0 t1 _ hM.out.1 hM.out.2.1 hM.out.2.2).mono ?_; rintro e w' ⟨⟨bb, rfl⟩, rfl⟩; cases bb)
    all_goals (go_ret; exact ⟨rfl, Below.refl _ _⟩)
  by_cases g3 : (262144 : Int) < t1.size
  · go_enter Try.func6, Try.ntmps6
    go_wp2_with (go_at_call 16; refine (bytes16_any base t0 t1 _ hM.out.1 hM.out.2.1 hM.out.2.2).mono ?_; rintro e w' ⟨⟨bb, rfl⟩, rfl⟩; cases bb)
    all_goals (go_ret; exact ⟨rfl, Below.refl _ _⟩)
  go_enter Try.func6, Try.ntmps6
  go_wp2_with (go_at_call 16; refine (bytes16_any base t0 t1 _ hM.out.1 hM.out.2.1 hM.out.2.2).mono ?_; rintro e w' ⟨⟨bb, rfl⟩, rfl⟩; cases bb)
  · go_ret
    exact ⟨rfl, Below.refl _ _⟩
  refine (reach_any base _ hM.out.1).mono ?_
  rintro e w' ⟨⟨bb, rfl⟩, n, rfl⟩
  cases bb
  · go_wp2
    go_ret
    exact ⟨rfl, below_drewN (Below.refl _ _) n⟩
  go_wp2_with fail
  refine (new_any w _ base t0 (below_drewN (Below.refl _ _) n)).mono ?_
  rintro e w1 ⟨rfl, hc1, -⟩
  go_wp2_with fail
  refine (new_any w _ base t0 hc1.1).mono ?_
  rintro e w2 ⟨rfl, hd2, hw2⟩
  have hne : Hid (w1.heap.size ≠ w.heap.size) := Nat.ne_of_gt hc1.2.2.1
  have hc2 : Cl w w2 w.heap.size base t0 := by rw [hw2]; exact Cl.alloc hc1 _
  clear hw2 hc1
  go_wp2_with fail
  refine (zzkeep_any w _ _ base t0 t1 hc2).mono ?_
  rintro e w3 ⟨rfl, hc3, ha3⟩
  have hd3 := hd2.aside hne.out ha3 hc3.1
  clear hc2 hd2 ha3
  go_wp2_with fail
  refine (token_any w _ _ base t1 hc3).mono ?_
  rintro e w4 ⟨rfl, hc4, ha4⟩
  have hd4 := hd3.aside hne.out ha4 hc4.1
  clear hc3 hd3 ha4
  go_wp2_with fail
  refine (zzkeep_any w _ _ base t1 t1 hc4).mono ?_
  rintro e w5 ⟨rfl, hc5, ha5⟩
  have hd5 := hd4.aside hne.out ha5 hc5.1
  clear hc4 hd4 ha5
  go_wp2_with fail
  refine (token_any w _ _ base t1 hc5).mono ?_
  rintro e w6 ⟨rfl, hc6, ha6⟩
  have hd6 := hd5.aside hne.out ha6 hc6.1
  clear hc5 hd5 ha6
  go_wp2_with fail
  refine (token_any w _ _ base t0 hd6).mono ?_
  rintro e w7 ⟨rfl, hd7, ha7⟩
  have hc7 := hc6.aside (Ne.symm hne.out) ha7 hd7.1
  clear hc6 hd6 ha7
  go_wp2_with fail
  refine (string_any w _ _ base t1 hc7 (by omega)).mono ?_
  rintro e w' ⟨rfl, rfl⟩
  unfold desc
  go_wp2_with fail
  refine (string_any w _ _ base t0 hd7 (by omega)).mono ?_
  rintro e w' ⟨rfl, rfl⟩
  unfold desc
  go_wp2
  go_ret
  exact ⟨rfl, hc7.1⟩

end Go.Proofs.Qxb6614354a
