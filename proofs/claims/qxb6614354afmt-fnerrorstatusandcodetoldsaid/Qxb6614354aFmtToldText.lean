/-
  WHAT fmt WRITES for the status: the told text, and its length.
-/
import Derived.Test.Qxb6614354aFmtErr
import Derived.ProofKit
import Derived.Stop.JoinedAt
import Derived.Stop.Texts
import Derived.Stop.JoinedTold
import Derived.Stop.FmtTextKit
import Derived.SizedLaws
namespace Go.Proofs.Qxb6614354aFmt
open Go.Extern.Stop Go.Stop Go.Extern Go.Kit

theorem own : ownKnob Tryf.prog.godebug = none := by kernel_rfl

theorem t_parse : (FmtText.parse [32, 40, 72, 84, 84, 80, 32, 37, 100]).map FmtText.glue = some [.lit [32, 40, 72, 84, 84, 80, 32], .verb {} 100] := by rfl

theorem t_text (st : Int) (hw : (Lit.int .i64 st).wf = true) : FmtText.text "fmt.Sprintf" (reading st) = some ([32, 40, 72, 84, 84, 80, 32] ++ Lib.itoa st) := by
  have hi := FmtText.operand_int_at (sh := shape3) (k := .i64) rfl rfl st hw
  rw [reading, FmtText.text_sprintf_glued t_parse (FmtText.operands_cons hi FmtText.operands_nil)]
  simp [FmtText.render, FmtText.printArg_d _ _ hw]

/-- The text that fmt gives is short. -/
theorem told_short (F : Interp) (st : Int) (hw : (Lit.int .i64 st).wf = true) : ((FmtStop.textOf (F.told "fmt.Sprintf" (reading st) 0)).size : Int) ≤ 1000000 := by
  have hl := FmtText.itoa_length_le hw
  have ht := told_string F (t_text st hw) (by simp; omega)
  have hx := textOf_list F.told "fmt.Sprintf" (reading st)
  rw [ht] at hx
  have hn := congrArg List.length hx
  simp at hn
  omega

end Go.Proofs.Qxb6614354aFmt
