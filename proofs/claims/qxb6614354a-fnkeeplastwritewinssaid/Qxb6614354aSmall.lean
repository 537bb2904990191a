/-
  THE WALKS of zzBytes (7, 16) and zzReachableBase (8): each answers some bool.
-/
import Derived.Test.Qxb6614354aPrefix
import Derived.Test.Qxb6614354aRows
import Derived.WalkKit
import Derived.WalkSpells
namespace Go.Proofs.Qxb6614354a
open Go.RowKit

/-- The call has answered some bool. -/
def SomeBool (e : Ending) : Prop := ∃ x, e = .returned (.bool x)

set_option maxHeartbeats 400000 in
theorem bytes7_any (a b c : ByteArray) (w : World) (h1 : a.size ≤ maxLen) (h2 : b.size ≤ maxLen) (h3 : c.size ≤ maxLen) :
    Calls Try.prog 7 #[.string a, .string b, .string c] w fun e w' => SomeBool e ∧ w = w' := by
  unfold maxLen at h1 h2 h3
  go_enter Try.func7, Try.ntmps7
  go_wp2
  all_goals (go_ret; exact ⟨⟨_, rfl⟩, rfl⟩)

set_option maxHeartbeats 400000 in
theorem bytes16_any (a b c : ByteArray) (w : World) (h1 : a.size ≤ maxLen) (h2 : b.size ≤ maxLen) (h3 : c.size ≤ maxLen) :
    Calls Try.prog 16 #[.string a, .string b, .string c] w fun e w' => SomeBool e ∧ w = w' := by
  unfold maxLen at h1 h2 h3
  go_enter Try.func16, Try.ntmps16
  go_wp2
  all_goals (go_ret; exact ⟨⟨_, rfl⟩, rfl⟩)

theorem reach_any (s : ByteArray) (w : World) (hs : s.size ≤ maxLen) :
    Calls Try.prog 8 #[.string s] w fun e w' => SomeBool e ∧ ∃ n, w' = w.drewN n := by
  have hM : Hid (s.size ≤ maxLen) := hs
  unfold maxLen at hs
  by_cases h8 : (8 : Int) < s.size
  · go_enter Try.func8, Try.ntmps8
    go_wp2_with (go_at_call 14; refine (hasPrefix_any _ _ _ hM.out).mono ?_; rintro e w' ⟨rfl, n, rfl⟩)
    go_ret
    exact ⟨⟨_, rfl⟩, n, rfl⟩
  · have h8' : decide ((8 : Int) < s.size) = false := by simpa using h8
    go_enter Try.func8, Try.ntmps8
    go_wp2_with (go_at_call 14; refine (hasPrefix_any _ _ _ hM.out).mono ?_; rintro e w' ⟨rfl, n, rfl⟩)
    go_ret
    exact ⟨⟨_, rfl⟩, 0, rfl⟩

end Go.Proofs.Qxb6614354a
