/-
  THE WALKS of the small functions: zzBytes (5, 9), errors.New (11), its Error() (28).
-/
import Derived.Test.Qxb6614354aFmtFacts
import Derived.Test.Qxb6614354aFmtPrefix
import Derived.WalkKit
import Derived.WalkSpells
import Derived.BigQuiet
import Derived.Deep.QuietTactic
namespace Go.Proofs.Qxb6614354aFmt
open Go.RowKit Go.Extern.Stop Go.Stop Go.Extern

set_option maxHeartbeats 400000 in
theorem bytes9_any (op : ByteArray) (st : Int) (code msg : ByteArray) (w : World) (h1 : op.size ≤ maxLen) (h2 : code.size ≤ maxLen) (h3 : msg.size ≤ maxLen) :
    Calls Tryf.prog 9 #[.string op, .int .i64 st, .string code, .string msg] w fun e w' => (∃ b, e = .returned (.bool b)) ∧ w = w' := by
  unfold maxLen at h1 h2 h3
  go_enter Tryf.func9, Tryf.ntmps9
  go_wp2
  all_goals (go_ret; exact ⟨⟨_, rfl⟩, rfl⟩)

set_option maxHeartbeats 400000 in
theorem bytes5_any (op : ByteArray) (st : Int) (code msg inner : ByteArray) (w : World) (h1 : op.size ≤ maxLen) (h2 : code.size ≤ maxLen) (h3 : msg.size ≤ maxLen) (h4 : inner.size ≤ maxLen) :
    Calls Tryf.prog 5 #[.string op, .int .i64 st, .string code, .string msg, .string inner] w fun e w' => (∃ b, e = .returned (.bool b)) ∧ w = w' := by
  unfold maxLen at h1 h2 h3 h4
  go_enter Tryf.func5, Tryf.ntmps5
  go_wp2
  all_goals (go_ret; exact ⟨⟨_, rfl⟩, rfl⟩)

theorem new_any (t : ByteArray) (w : World) :
    Calls Tryf.prog 11 #[.string t] w fun e w' => e = .returned (.iface 35 (.pointer (some ⟨w.heap.size, 0, none⟩))) ∧ w' = w.alloc (.cells #[.string t] 37) := by
  go_enter Tryf.func11, Tryf.ntmps11
  go_wp2
  go_ret
  exact ⟨rfl, rfl⟩

theorem said_any (b : Nat) (t : ByteArray) (w : World) (hc : w.cell? ⟨b, 0, none⟩ = some (.string t)) :
    Calls Tryf.prog 28 #[.pointer (some ⟨b, 0, none⟩)] w fun e w' => e = .returned (.string t) ∧ w' = w := by
  go_enter Tryf.func28, Tryf.ntmps28
  go_wp2
  go_ret
  exact ⟨rfl, rfl⟩

end Go.Proofs.Qxb6614354aFmt
