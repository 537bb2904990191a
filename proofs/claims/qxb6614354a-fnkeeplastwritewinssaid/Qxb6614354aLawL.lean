/-
  THE WALK of the law FnKeepLastWriteWins (5).
-/
import Derived.Test.Qxb6614354aBytes
import Derived.Test.Qxb6614354aLawI
import Derived.Deep.RegionWith
namespace Go.Proofs.Qxb6614354a
open Go.RowKit

/-- The token behind k keeps. -/
def last (t0 : ByteArray) (el : Nat → ByteArray) : Nat → ByteArray
  | 0 => t0
  | k + 1 => el k

theorem Cl.drewN {W w : World} {b : Nat} {base tok : ByteArray} (h : Cl W w b base tok) (n : Nat) : Cl W (w.drewN n) b base tok := ⟨below_drewN h.1 n, h.2⟩
theorem Cl.drew {W w : World} {b : Nat} {base tok : ByteArray} (h : Cl W w b base tok) : Cl W w.drew b base tok := ⟨h.1.drew, h.2⟩

set_option maxHeartbeats 400000 in
theorem string_wide (W w : World) (b : Nat) (base tok : ByteArray) (h : Cl W w b base tok) (hb : (base.size : Int) ≤ 2000000) :
    Calls Try.prog 10 #[.pointer (some ⟨b, 0, none⟩)] w fun e w' => e = .returned (.string (desc base)) ∧ w = w' := by
  obtain ⟨_, _, _, c0, _⟩ := h
  go_enter Try.func10, Try.ntmps10
  go_wp2
  go_ret
  exact ⟨rfl, rfl⟩

theorem lastwrite_big (base t0 : ByteArray) (a : Option Addr) (len cap : Nat) (h1 : base.size ≤ maxLen) (h2 : t0.size ≤ maxLen) (hl : len ≤ maxLen) (w : World) (hbig : ¬ ((base.size : Int) + t0.size + len ≤ 1048576)) :
    Calls Try.prog 5 #[.string base, .string t0, .slice a len cap] w fun e w' => e = .returned (.bool true) ∧ Below w.heap.size w w' := by
  have hM : Hid (base.size ≤ maxLen ∧ t0.size ≤ maxLen ∧ len ≤ maxLen ∧ ¬ ((base.size : Int) + t0.size + len ≤ 1048576)) := ⟨h1, h2, hl, hbig⟩
  clear h1 h2 hl hbig
  go_enter Try.func5, Try.ntmps5
  go_wp2_with (go_at_call 15; refine (bytes15_big base t0 a len cap _ hM.out.1 hM.out.2.1 hM.out.2.2.1 hM.out.2.2.2).mono ?_; rintro e w' ⟨rfl, rfl⟩)
  go_ret
  exact ⟨rfl, Below.refl _ _⟩

set_option maxHeartbeats 1600000 in
theorem lastwrite_zero (base t0 : ByteArray) (a : Option Addr) (cap : Nat) (el : Nat → ByteArray) (h1 : base.size ≤ maxLen) (h2 : t0.size ≤ maxLen) (w : World) (hs : IsStrs w a 0 el) :
    Calls Try.prog 5 #[.string base, .string t0, .slice a 0 cap] w fun e w' => e = .returned (.bool true) ∧ Below w.heap.size w w' := by
  have hM : Hid (base.size ≤ maxLen ∧ t0.size ≤ maxLen ∧ IsStrs w a 0 el) := ⟨h1, h2, hs⟩
  clear hs
  unfold maxLen at h1 h2
  by_cases hbig : (base.size : Int) + t0.size ≤ 1048576
  · go_enter Try.func5, Try.ntmps5
    go_wp2_with (go_at_call 15; refine (bytes15_any base t0 a 0 cap el _ hM.out.1 hM.out.2.1 hM.out.2.2).mono ?_; rintro e w' ⟨⟨bb, rfl, -⟩, rfl⟩; cases bb)
    · go_ret
      exact ⟨rfl, Below.refl _ _⟩
    go_loop [7, 8] (fun _ i => i = .int .i64 0) (fun _ _ => 0)
    case atStart => rfl
    case round =>
      subst hrel
      go_wp2_with fail
      refine (reach_any base _ hM.out.1).mono ?_
      rintro e w' ⟨⟨bb, rfl⟩, n, rfl⟩
      cases bb
      · go_wp2
        go_ret
        exact ⟨rfl, below_drewN (Below.refl _ _) n⟩
      go_wp2_with fail
      refine (new_any w _ base t0 (below_drewN (Below.refl _ _) n)).mono ?_
      rintro e w1 ⟨rfl, hc1, -⟩
      go_wp2_with fail
      refine (token_any w _ _ base t0 hc1).mono ?_
      rintro e w2 ⟨rfl, hc2, -⟩
      clear hc1
      go_wp2_with fail
      go_loop [10] (fun i => i = .int .i64 0) (fun _ => 0)
      case atStart => rfl
      case round =>
        subst hrel
        go_wp2_with fail
        refine (token_any w _ _ base t0 hc2).mono ?_
        rintro e w3 ⟨rfl, hc3, -⟩
        clear hc2
        go_wp2_with fail
        refine (string_wide w _ _ base t0 hc3 (by omega)).mono ?_
        rintro e w' ⟨rfl, rfl⟩
        unfold desc
        go_wp2
        go_ret
        exact ⟨rfl, hc3.1⟩
  · exact lastwrite_big base t0 a 0 cap hM.out.1 hM.out.2.1 (by decide) w (by simpa using hbig)

end Go.Proofs.Qxb6614354a
