/-
  THE WALK of zzBytes_FnKeepLastWriteWins (15): it answers some bool.
-/
import Derived.Test.Qxb6614354aSmall
namespace Go.Proofs.Qxb6614354a
open Go.RowKit

/-- WHAT THE WALK IS TOLD OF A SLICE OF STRINGS THAT CAME IN: its length; where it has an element, where the elements lie. -/
def IsStrs (w : World) (a : Option Addr) (len : Nat) (el : Nat → ByteArray) : Prop :=
  len ≤ maxLen ∧ (0 < len → ∃ b off, a = some ⟨b, off, none⟩ ∧ b < w.heap.size ∧ ∀ i, i < len → w.cell? ⟨b, off + i, none⟩ = some (.string (el i)) ∧ (el i).size ≤ maxLen)

/-- The call has answered some bool; where it is true every element is short. -/
def Told (e : Ending) (len : Nat) (el : Nat → ByteArray) : Prop := ∃ x, e = .returned (.bool x) ∧ (x = true → ∀ i, i < len → ((el i).size : Int) ≤ 1048576)

/-- The first k elements are short. -/
def Short (k : Nat) (el : Nat → ByteArray) : Prop := ∀ i, i < k → ((el i).size : Int) ≤ 1048576
theorem short_succ {k : Nat} {el : Nat → ByteArray} (h : Short k el) (e : ((el k).size : Int) ≤ 1048576) : Short (k + 1) el := by
  intro i hi
  by_cases hk : i < k
  · exact h i hk
  · obtain rfl : i = k := by omega
    exact e

set_option maxHeartbeats 800000 in
theorem bytes15_any (base t0 : ByteArray) (a : Option Addr) (len cap : Nat) (el : Nat → ByteArray) (w : World) (h1 : base.size ≤ maxLen) (h2 : t0.size ≤ maxLen) (hs : IsStrs w a len el) :
    Calls Try.prog 15 #[.string base, .string t0, .slice a len cap] w fun e w' => Told e len el ∧ w = w' := by
  obtain ⟨hl, hc⟩ := hs
  unfold maxLen at h1 h2 hl
  by_cases hbig : (base.size : Int) + t0.size + len ≤ 1048576
  · by_cases h0 : len = 0
    · subst h0
      clear hc
      go_enter Try.func15, Try.ntmps15
      go_wp2
      go_loop [7, 8] (fun _ i => i = .int .i64 0) (fun _ _ => 0)
      case atStart => rfl
      case round =>
        subst hrel
        go_wp2
        go_ret
        exact ⟨⟨_, rfl, fun _ i hi => absurd hi (Nat.not_lt_zero i)⟩, rfl⟩
    · obtain ⟨b, off, rfl, hb, hcell⟩ := hc (by omega)
      go_enter Try.func15, Try.ntmps15
      go_wp2
      go_loop [7, 8] (fun z i => ∃ (k : Nat) (n : Int), k ≤ len ∧ i = .int .i64 k ∧ 0 ≤ n ∧ n ≤ 1048576 ∧ Hid (Short k el) ∧ z = .int .i64 n) (fun _ i => len - (intOf i).toNat)
      case atStart => exact ⟨0, _, Nat.zero_le _, rfl, by omega, by omega, fun i hi => absurd hi (Nat.not_lt_zero i), rfl⟩
      case round =>
        obtain ⟨k, n, hk, rfl, hn0, hn1, HS, rfl⟩ := hrel
        by_cases hlt : k < len
        · obtain ⟨ck, sk⟩ := hcell k hlt
          clear hcell hc
          unfold maxLen at sk
          have hlt' : (k : Int) < len := by omega
          go_wp2
          · go_ret
            exact ⟨⟨_, rfl, fun h => by cases h⟩, rfl⟩
          · go_ret
            exact ⟨⟨_, rfl, fun h => by cases h⟩, rfl⟩
          · go_round
            case rel => exact ⟨k + 1, _, by omega, by go_num, by omega, by omega, short_succ HS.out (by omega), rfl⟩
            case measure => simp [intOf]; omega
        · clear hcell hc
          go_wp2
          go_ret
          exact ⟨⟨_, rfl, fun _ i hi => HS.out i (by omega)⟩, rfl⟩
  · clear hc
    go_enter Try.func15, Try.ntmps15
    go_wp2
    all_goals (go_ret; exact ⟨⟨_, rfl, fun h => by cases h⟩, rfl⟩)

set_option maxHeartbeats 800000 in
/-- Where the lengths sum to more than the bound, it answers false. -/
theorem bytes15_big (base t0 : ByteArray) (a : Option Addr) (len cap : Nat) (w : World) (h1 : base.size ≤ maxLen) (h2 : t0.size ≤ maxLen) (hl : len ≤ maxLen) (hbig : ¬ ((base.size : Int) + t0.size + len ≤ 1048576)) :
    Calls Try.prog 15 #[.string base, .string t0, .slice a len cap] w fun e w' => e = .returned (.bool false) ∧ w = w' := by
  unfold maxLen at h1 h2 hl
  go_enter Try.func15, Try.ntmps15
  go_wp2
  all_goals (go_ret; exact ⟨rfl, rfl⟩)

end Go.Proofs.Qxb6614354a
