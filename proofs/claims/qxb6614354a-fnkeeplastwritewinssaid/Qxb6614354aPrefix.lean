/-
  THE WALK of zzHasPrefix (function 14).
-/
import Derived.Test.Qxb6614354aPlain
import Derived.Test.Qxb6614354aRows
import Derived.WalkKit
import Derived.WalkSpells
import Derived.BigQuiet
import Derived.Deep.QuietTactic
namespace Go.Proofs.Qxb6614354a
open Go.RowKit

theorem ret_bool {a b : Bool} (h : a = b) : Ending.returned (.bool a) = .returned (.bool b) := by rw [h]

theorem byte_eq {x y : UInt8} (h : ((x.toNat : Int) != (y.toNat : Int)) = false) : x.toNat = y.toNat := by
  have := bne_eq_false_iff_eq.1 h
  omega
theorem byte_ne {x y : UInt8} (h : ((x.toNat : Int) != (y.toNat : Int)) = true) : ¬ x.toNat = y.toNat := by
  intro e
  rw [e] at h
  simp at h

set_option maxHeartbeats 400000 in
theorem hasPrefix_any (s p : ByteArray) (w : World) (hs : s.size ≤ maxLen) :
    Calls Try.prog 14 #[.string s, .string p] w fun e w' => e = .returned (.bool (pre s p)) ∧ ∃ n, w' = w.drewN n := by
  unfold maxLen at hs
  by_cases hl : s.size < p.size
  · have hl' : (s.size : Int) < p.size := by omega
    go_enter Try.func14, Try.ntmps14
    go_wp2
    go_ret
    exact ⟨ret_bool (pre_len s p hl).symm, 0, rfl⟩
  · have hl' : (p.size : Int) ≤ s.size := by omega
    go_enter Try.func14, Try.ntmps14
    go_wp2
    go_loopw [5] (fun i wr => ∃ k : Nat, k ≤ p.size ∧ i = .int .i64 k ∧ Hid (agree s p k) ∧ ∃ n, wr = w.drewN n) (fun i _ => p.size - (intOf i).toNat)
    case atStart => exact ⟨0, Nat.zero_le _, rfl, agree_zero s p, 0, rfl⟩
    case round =>
      obtain ⟨k, hk, rfl, HA, n, rfl⟩ := hrel
      by_cases hlt : k < p.size
      · have hlt' : (k : Int) < p.size := by omega
        have hls' : (k : Int) < s.size := by omega
        go_wp2
        go_quiet (fail)
        go_wp2
        · go_ret
          exact ⟨ret_bool (pre_diff s p k (by omega) hlt (byte_ne ‹_›)).symm, n + nq, World.drewN_drewN _ _ _⟩
        · go_roundw
          case rel => exact ⟨k + 1, by omega, by go_num, agree_succ s p k (by omega) hlt (byte_eq ‹_›) HA.out, n + nq, rfl⟩
          case measure => simp [intOf]; omega
      · go_wp2
        go_ret
        exact ⟨ret_bool (pre_true s p (by omega) (by have := HA.out; rwa [show k = p.size by omega] at this)).symm, n, rfl⟩

end Go.Proofs.Qxb6614354a
