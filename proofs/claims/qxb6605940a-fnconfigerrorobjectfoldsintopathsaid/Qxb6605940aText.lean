/-
  THE WALKS of errors.New (23), its Error() (42), (*ConfigError).Error (24), ZZconfigErrorText (15), hasSuffixStr (16), configTextTooBig (14), zzBytes (13).
-/
import Derived.Test.Qxb6605940aRows
import Derived.WalkKit
import Derived.WalkSpells
import Derived.BigQuiet
import Derived.Deep.QuietTactic
namespace Go.Proofs.Qxb6605940a
open Go.RowKit

theorem ret_str {a b : ByteArray} (h : a = b) : Ending.returned (.string a) = .returned (.string b) := by rw [h]
theorem ret_bool {a b : Bool} (h : a = b) : Ending.returned (.bool a) = .returned (.bool b) := by rw [h]

theorem method58 (a : Addr) (w : World) : (method 178 58 (.pointer (some a)) "Error").run Try.prog w = .ok (42, .pointer (some a)) w := by kernel_rfl
theorem nilAhead58 (a : Addr) (w : World) : (nilAhead 178 58 (.pointer (some a)) "Error").run Try.prog w = .ok (some false) w := by kernel_rfl

attribute [local go_sem] method58 nilAhead58

theorem new_any (t : ByteArray) (w : World) :
    Calls Try.prog 23 #[.string t] w fun e w' => e = .returned (.iface 58 (.pointer (some ⟨w.heap.size, 0, none⟩))) ∧ w' = w.alloc (.cells #[.string t] 60) := by
  go_enter Try.func23, Try.ntmps23
  go_wp2
  go_ret
  exact ⟨rfl, rfl⟩

theorem said_any (b : Nat) (t : ByteArray) (w : World) (hc : w.cell? ⟨b, 0, none⟩ = some (.string t)) :
    Calls Try.prog 42 #[.pointer (some ⟨b, 0, none⟩)] w fun e w' => e = .returned (.string t) ∧ w' = w := by
  go_enter Try.func42, Try.ntmps42
  go_wp2
  go_ret
  exact ⟨rfl, rfl⟩

/-- The text: path, object (where there is one), the error's own. -/
def cfgText (path object msg : ByteArray) : ByteArray :=
  if object.toList.isEmpty then path ++ ⟨#[58, 32]⟩ ++ msg else path ++ ⟨#[58, 32]⟩ ++ object ++ ⟨#[58, 32]⟩ ++ msg

set_option maxHeartbeats 800000 in
theorem error_any (b b2 : Nat) (path object msg : ByteArray) (w : World)
    (c0 : w.cell? ⟨b, 0, none⟩ = some (.string path)) (c1 : w.cell? ⟨b, 1, none⟩ = some (.string object)) (c2 : w.cell? ⟨b, 2, none⟩ = some (.iface 58 (.pointer (some ⟨b2, 0, none⟩))))
    (ci : w.cell? ⟨b2, 0, none⟩ = some (.string msg))
    (h1 : (path.size : Int) ≤ 2000000) (h2 : (object.size : Int) ≤ 2000000) (h3 : (msg.size : Int) ≤ 2000000) :
    Calls Try.prog 24 #[.pointer (some ⟨b, 0, none⟩)] w fun e w' => e = .returned (.string (cfgText path object msg)) ∧ Below w.heap.size w w' := by
  by_cases ho : object.toList.isEmpty = true
  · have HT : Hid (cfgText path object msg = path ++ ⟨#[58, 32]⟩ ++ msg) := by unfold cfgText; exact if_pos ho
    have k1 : ¬ 9223372036854775805 < path.size := by omega
    have k2 : ¬ 9223372036854775807 < path.size + 2 + msg.size := by omega
    go_enter Try.func24, Try.ntmps24
    go_wp2
    go_quiet ((go_at_call 42; exact Calls.quiet_of_same (said_any b2 msg _ (by exact ci))))
    go_wp2
    go_ret
    exact ⟨ret_str HT.out.symm, ⟨rfl, rfl, rfl, Nat.le_refl _, fun _ _ => rfl⟩⟩
  · have ho' : object.toList.isEmpty = false := by simpa using ho
    clear ho
    have HT : Hid (cfgText path object msg = path ++ ⟨#[58, 32]⟩ ++ object ++ ⟨#[58, 32]⟩ ++ msg) := by unfold cfgText; exact if_neg (by simp [ho'])
    have k1 : ¬ 9223372036854775805 < path.size := by omega
    have k2 : ¬ 9223372036854775807 < path.size + 2 + object.size := by omega
    have k3 : ¬ 9223372036854775805 < path.size + 2 + object.size := by omega
    have k4 : ¬ 9223372036854775807 < path.size + 2 + object.size + 2 + msg.size := by omega
    go_enter Try.func24, Try.ntmps24
    go_wp2
    go_quiet ((go_at_call 42; exact Calls.quiet_of_same (said_any b2 msg _ (by exact ci))))
    go_wp2
    go_ret
    exact ⟨ret_str HT.out.symm, ⟨rfl, rfl, rfl, Nat.le_refl _, fun _ _ => rfl⟩⟩

set_option maxHeartbeats 400000 in
theorem text_any (path object msg : ByteArray) (w : World) (h1 : (path.size : Int) ≤ 2000000) (h2 : (object.size : Int) ≤ 2000000) (h3 : (msg.size : Int) ≤ 2000000) :
    Calls Try.prog 15 #[.string path, .string object, .string msg] w fun e w' => e = .returned (.string (cfgText path object msg)) ∧ Below w.heap.size w w' := by
  go_enter Try.func15, Try.ntmps15
  go_wp2_with (go_at_call 23; refine (new_any msg _).mono ?_; rintro e w' ⟨rfl, rfl⟩)
  refine (error_any (w.heap.size + 1) w.heap.size path object msg _ (by simp) (by simp) (by simp) (by simp) h1 h2 h3).mono ?_
  rintro e w' ⟨rfl, hb⟩
  go_wp2
  go_ret
  exact ⟨rfl, (((Below.refl _ w).alloc (Nat.le_refl _) _).alloc (by simp) _).trans (hb.mono (by simp; omega))⟩

/-- The call has answered some bool. -/
def SomeBool (e : Ending) : Prop := ∃ x, e = .returned (.bool x)

set_option maxHeartbeats 400000 in
theorem bytes13_any (a b c : ByteArray) (w : World) (h1 : a.size ≤ maxLen) (h2 : b.size ≤ maxLen) (h3 : c.size ≤ maxLen) :
    Calls Try.prog 13 #[.string a, .string b, .string c] w fun e w' => SomeBool e ∧ w = w' := by
  unfold maxLen at h1 h2 h3
  go_enter Try.func13, Try.ntmps13
  go_wp2
  all_goals (go_ret; exact ⟨⟨_, rfl⟩, rfl⟩)

/-- configTextTooBig: false just where the lengths sum to at most the bound. -/
theorem big_no (a b c : ByteArray) (w : World) (h : (a.size : Int) + b.size + c.size ≤ 1048576) :
    Calls Try.prog 14 #[.string a, .string b, .string c] w fun e w' => e = .returned (.bool false) ∧ w = w' := by
  have g1 : ¬ (1048576 : Int) < a.size := by omega
  have g2 : ¬ (1048576 : Int) < b.size := by omega
  have g3 : ¬ (1048576 : Int) < c.size := by omega
  go_enter Try.func14, Try.ntmps14
  go_wp2
  go_ret
  exact ⟨ret_bool (by simp; omega), rfl⟩

theorem big_yes (a b c : ByteArray) (w : World) (h1 : a.size ≤ maxLen) (h2 : b.size ≤ maxLen) (h3 : c.size ≤ maxLen) (h : ¬ (a.size : Int) + b.size + c.size ≤ 1048576) :
    Calls Try.prog 14 #[.string a, .string b, .string c] w fun e w' => e = .returned (.bool true) ∧ w = w' := by
  unfold maxLen at h1 h2 h3
  by_cases g1 : (1048576 : Int) < a.size
  · go_enter Try.func14, Try.ntmps14
    go_wp2
    go_ret
    exact ⟨rfl, rfl⟩
  by_cases g2 : (1048576 : Int) < b.size
  · go_enter Try.func14, Try.ntmps14
    go_wp2
    go_ret
    exact ⟨ret_bool (by simp), rfl⟩
  by_cases g3 : (1048576 : Int) < c.size
  · go_enter Try.func14, Try.ntmps14
    go_wp2
    go_ret
    exact ⟨ret_bool (by simp), rfl⟩
  have g4 : (1048576 : Int) < a.size + b.size + c.size := by omega
  go_enter Try.func14, Try.ntmps14
  go_wp2
  go_ret
  exact ⟨ret_bool (by simp), rfl⟩

/-- hasSuffixStr, where p closes s. -/
theorem suffix_yes (s p : ByteArray) (w : World) (hs : (s.size : Int) ≤ 9000000) (hle : (p.size : Int) ≤ s.size) (hx : s.extract (s.size - p.size) s.size = p) :
    Calls Try.prog 16 #[.string s, .string p] w fun e w' => e = .returned (.bool true) ∧ w = w' := by
  have HX : Hid (s.extract (s.size - p.size) s.size = p) := hx
  clear hx
  go_enter Try.func16, Try.ntmps16
  go_wp2
  go_ret
  exact ⟨ret_bool (by rw [HX.out]; exact beq_self_eq_true _), rfl⟩

end Go.Proofs.Qxb6605940a
