/-
  THE WALK of (*Error).Error (10), at an error whose Err is nil, and at one whose Err is of errors.New's make. 'X': what fmt.Sprintf gives for the status.
-/
import Derived.Test.Qxb6614354aFmtSmall
namespace Go.Proofs.Qxb6614354aFmt
open Go.RowKit Go.Extern.Stop Go.Stop Go.Extern

theorem alloc_drewN (w : World) (n : Nat) (o : Obj) : (w.drewN n).alloc o = (w.alloc o).drewN n := rfl

attribute [local go_sem] call12 guard12 fmt0 fmt0r op3_100 alloc_drewN

theorem ret_str {a b : ByteArray} (h : a = b) : Ending.returned (.string a) = .returned (.string b) := by rw [h]

/-- 'gate: op: message' -/
def head (op msg : ByteArray) : ByteArray := ⟨#[103, 97, 116, 101, 58, 32]⟩ ++ op ++ ⟨#[58, 32]⟩ ++ msg

/-- What fmt is asked. -/
def reading (st : Int) : List (List UInt8) := [[32, 40, 72, 84, 84, 80, 32, 37, 100], shape3, digits 8 (st % 18446744073709551616).toNat]

/-- The text of an error without an inner one. X: what fmt.Sprintf gives for the status. -/
def errText (op : ByteArray) (st : Int) (code msg X : ByteArray) : ByteArray :=
  if (st != 0) = true then (if code.toList.isEmpty then head op msg ++ X ++ ⟨#[41]⟩ else head op msg ++ X ++ (⟨#[44, 32, 99, 111, 100, 101, 32]⟩ ++ code) ++ ⟨#[41]⟩) else head op msg

set_option maxHeartbeats 1600000 in
theorem error_nil (F : Interp) (b : Nat) (op : ByteArray) (st : Int) (code msg X : ByteArray) (w : World) (hF : F.answers w.tape)
    (c0 : w.cell? ⟨b, 0, none⟩ = some (.string op)) (c2 : w.cell? ⟨b, 2, none⟩ = some (.int .i64 st)) (c3 : w.cell? ⟨b, 3, none⟩ = some (.string code)) (c4 : w.cell? ⟨b, 4, none⟩ = some (.string msg)) (c5 : w.cell? ⟨b, 5, none⟩ = some .nilIface)
    (h1 : (op.size : Int) ≤ 1000000) (h2 : (code.size : Int) ≤ 1000000) (h3 : (msg.size : Int) ≤ 1000000) (hb : b < w.heap.size)
    (hX : FmtStop.textOf (F "fmt.Sprintf" (reading st) 0) = X) (hXs : (X.size : Int) ≤ 1000000) :
    Calls Tryf.prog 10 #[.pointer (some ⟨b, 0, none⟩)] w fun e w' => e = .returned (.string (errText op st code msg X)) ∧ Below w.heap.size w w' := by
  have hF' := answers_open hF
  unfold reading at hX
  by_cases hst : (st != 0) = true
  · by_cases hcd : code.toList.isEmpty = true
    · have ht : errText op st code msg X = head op msg ++ X ++ ⟨#[41]⟩ := by unfold errText; rw [if_pos hst, if_pos hcd]
      have HT : Hid (errText op st code msg X = head op msg ++ X ++ ⟨#[41]⟩) := ht
      clear ht
      go_enter Tryf.func10, Tryf.ntmps10
      go_wp2
      go_quiet (fail)
      go_wp2
      go_ret
      exact ⟨ret_str (by rw [HT.out]; rfl), ((Below.refl _ w).alloc (Nat.le_refl _) _).trans ⟨rfl, rfl, rfl, Nat.le_refl _, fun _ _ => rfl⟩⟩
    · have hcd' : code.toList.isEmpty = false := by simpa using hcd
      clear hcd
      have ht : errText op st code msg X = head op msg ++ X ++ (⟨#[44, 32, 99, 111, 100, 101, 32]⟩ ++ code) ++ ⟨#[41]⟩ := by unfold errText; rw [if_pos hst, if_neg (by simp [hcd'])]
      have HT : Hid (errText op st code msg X = head op msg ++ X ++ (⟨#[44, 32, 99, 111, 100, 101, 32]⟩ ++ code) ++ ⟨#[41]⟩) := ht
      clear ht
      go_enter Tryf.func10, Tryf.ntmps10
      go_wp2
      go_quiet (fail)
      go_wp2
      go_ret
      exact ⟨ret_str (by rw [HT.out]; rfl), ((Below.refl _ w).alloc (Nat.le_refl _) _).trans ⟨rfl, rfl, rfl, Nat.le_refl _, fun _ _ => rfl⟩⟩
  · have hst' : (st != 0) = false := by simpa using hst
    clear hst
    have ht : errText op st code msg X = head op msg := by unfold errText; rw [if_neg (by simp [hst'])]
    have HT : Hid (errText op st code msg X = head op msg) := ht
    clear ht
    go_enter Tryf.func10, Tryf.ntmps10
    go_wp2
    go_quiet (fail)
    go_wp2
    go_ret
    exact ⟨ret_str (by rw [HT.out]; rfl), ⟨rfl, rfl, rfl, Nat.le_refl _, fun _ _ => rfl⟩⟩

end Go.Proofs.Qxb6614354aFmt
