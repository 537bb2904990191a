/-
  THE WALK of (*Error).Error (10) at an error whose Err is of errors.New's make.
-/
import Derived.Test.Qxb6614354aFmtErr
namespace Go.Proofs.Qxb6614354aFmt
open Go.RowKit Go.Extern.Stop Go.Stop Go.Extern

theorem method35 (a : Addr) (w : World) : (method 155 35 (.pointer (some a)) "Error").run Tryf.prog w = .ok (28, .pointer (some a)) w := by kernel_rfl

attribute [local go_sem] call12 guard12 fmt0 fmt0r op3_100 alloc_drewN method35

set_option maxHeartbeats 1600000 in
theorem error_said (F : Interp) (b : Nat) (op : ByteArray) (st : Int) (code msg X : ByteArray) (b2 : Nat) (inner : ByteArray) (w : World) (hF : F.answers w.tape)
    (c0 : w.cell? ⟨b, 0, none⟩ = some (.string op)) (c2 : w.cell? ⟨b, 2, none⟩ = some (.int .i64 st)) (c3 : w.cell? ⟨b, 3, none⟩ = some (.string code)) (c4 : w.cell? ⟨b, 4, none⟩ = some (.string msg)) (c5 : w.cell? ⟨b, 5, none⟩ = some (.iface 35 (.pointer (some ⟨b2, 0, none⟩))))
    (ci : w.cell? ⟨b2, 0, none⟩ = some (.string inner)) (hb2 : b2 < w.heap.size) (h4 : (inner.size : Int) ≤ 1000000)
    (h1 : (op.size : Int) ≤ 1000000) (h2 : (code.size : Int) ≤ 1000000) (h3 : (msg.size : Int) ≤ 1000000) (hb : b < w.heap.size)
    (hX : FmtStop.textOf (F "fmt.Sprintf" (reading st) 0) = X) (hXs : (X.size : Int) ≤ 1000000) :
    Calls Tryf.prog 10 #[.pointer (some ⟨b, 0, none⟩)] w fun e w' => e = .returned (.string (errText op st code msg X ++ (⟨#[58, 32]⟩ ++ inner))) ∧ Below w.heap.size w w' := by
  have hF' := answers_open hF
  unfold reading at hX
  by_cases hst : (st != 0) = true
  · by_cases hcd : code.toList.isEmpty = true
    · have ht : errText op st code msg X = head op msg ++ X ++ ⟨#[41]⟩ := by unfold errText; rw [if_pos hst, if_pos hcd]
      have HT : Hid (errText op st code msg X = head op msg ++ X ++ ⟨#[41]⟩) := ht
      clear ht
      go_enter Tryf.func10, Tryf.ntmps10
      go_wp2
      go_quiet (fail)
      go_wp2
      go_ret
      exact ⟨ret_str (by rw [HT.out]; rfl), ((Below.refl _ w).alloc (Nat.le_refl _) _).trans ⟨rfl, rfl, rfl, Nat.le_refl _, fun _ _ => rfl⟩⟩
    · have hcd' : code.toList.isEmpty = false := by simpa using hcd
      clear hcd
      have ht : errText op st code msg X = head op msg ++ X ++ (⟨#[44, 32, 99, 111, 100, 101, 32]⟩ ++ code) ++ ⟨#[41]⟩ := by unfold errText; rw [if_pos hst, if_neg (by simp [hcd'])]
      have HT : Hid (errText op st code msg X = head op msg ++ X ++ (⟨#[44, 32, 99, 111, 100, 101, 32]⟩ ++ code) ++ ⟨#[41]⟩) := ht
      clear ht
      go_enter Tryf.func10, Tryf.ntmps10
      go_wp2
      go_quiet (fail)
      go_wp2
      go_ret
      exact ⟨ret_str (by rw [HT.out]; rfl), ((Below.refl _ w).alloc (Nat.le_refl _) _).trans ⟨rfl, rfl, rfl, Nat.le_refl _, fun _ _ => rfl⟩⟩
  · have hst' : (st != 0) = false := by simpa using hst
    clear hst
    have ht : errText op st code msg X = head op msg := by unfold errText; rw [if_neg (by simp [hst'])]
    have HT : Hid (errText op st code msg X = head op msg) := ht
    clear ht
    go_enter Tryf.func10, Tryf.ntmps10
    go_wp2
    go_quiet (fail)
    go_wp2
    go_ret
    exact ⟨ret_str (by rw [HT.out]; rfl), ⟨rfl, rfl, rfl, Nat.le_refl _, fun _ _ => rfl⟩⟩

end Go.Proofs.Qxb6614354aFmt
