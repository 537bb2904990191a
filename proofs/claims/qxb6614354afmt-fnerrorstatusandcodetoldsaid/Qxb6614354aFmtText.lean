/-
  THE WALKS of ZZerrorText (6) and ZZwrappedErrorText (7).
-/
import Derived.Test.Qxb6614354aFmtErr2
namespace Go.Proofs.Qxb6614354aFmt
open Go.RowKit Go.Extern.Stop Go.Stop Go.Extern

set_option maxHeartbeats 400000 in
theorem text_any (F : Interp) (op : ByteArray) (st : Int) (code msg X : ByteArray) (w : World) (hF : F.answers w.tape)
    (h1 : (op.size : Int) ≤ 1000000) (h2 : (code.size : Int) ≤ 1000000) (h3 : (msg.size : Int) ≤ 1000000)
    (hX : FmtStop.textOf (F "fmt.Sprintf" (reading st) 0) = X) (hXs : (X.size : Int) ≤ 1000000) :
    Calls Tryf.prog 6 #[.string op, .int .i64 st, .string code, .string msg] w fun e w' => e = .returned (.string (errText op st code msg X)) ∧ Below w.heap.size w w' := by
  have HX : Hid (FmtStop.textOf (F "fmt.Sprintf" (reading st) 0) = X) := hX
  clear hX
  go_enter Tryf.func6, Tryf.ntmps6
  go_wp2_with fail
  refine (error_nil F w.heap.size op st code msg X _ (by exact hF) (by simp) (by simp) (by simp) (by simp) (by simp) h1 h2 h3 (by simp) HX.out hXs).mono ?_
  rintro e w' ⟨rfl, hb⟩
  go_wp2
  go_ret
  exact ⟨rfl, ((Below.refl _ w).alloc (Nat.le_refl _) _).trans (hb.mono (by simp))⟩

set_option maxHeartbeats 400000 in
theorem wrapped_any (F : Interp) (op : ByteArray) (st : Int) (code msg inner X : ByteArray) (w : World) (hF : F.answers w.tape)
    (h1 : (op.size : Int) ≤ 1000000) (h2 : (code.size : Int) ≤ 1000000) (h3 : (msg.size : Int) ≤ 1000000) (h4 : (inner.size : Int) ≤ 1000000)
    (hX : FmtStop.textOf (F "fmt.Sprintf" (reading st) 0) = X) (hXs : (X.size : Int) ≤ 1000000) :
    Calls Tryf.prog 7 #[.string op, .int .i64 st, .string code, .string msg, .string inner] w fun e w' => e = .returned (.string (errText op st code msg X ++ (⟨#[58, 32]⟩ ++ inner))) ∧ Below w.heap.size w w' := by
  have HX : Hid (FmtStop.textOf (F "fmt.Sprintf" (reading st) 0) = X) := hX
  clear hX
  go_enter Tryf.func7, Tryf.ntmps7
  go_wp2_with (go_at_call 11; refine (new_any inner _).mono ?_; rintro e w' ⟨rfl, rfl⟩)
  refine (error_said F (w.heap.size + 1) op st code msg X w.heap.size inner _ (by exact hF) (by simp) (by simp) (by simp) (by simp) (by simp) (by simp) (by simp; omega) h4 h1 h2 h3 (by simp) HX.out hXs).mono ?_
  rintro e w' ⟨rfl, hb⟩
  go_wp2
  go_ret
  exact ⟨rfl, (((Below.refl _ w).alloc (Nat.le_refl _) _).alloc (by simp) _).trans (hb.mono (by simp; omega))⟩

end Go.Proofs.Qxb6614354aFmt
