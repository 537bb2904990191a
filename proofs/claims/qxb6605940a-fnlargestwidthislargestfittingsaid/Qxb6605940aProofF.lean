/-
  THE ROW's STEP of 'FnLargestWidthIsLargestFitting'.
-/
import Derived.Test.Qxb6605940aLawF
import Derived.Test.Qxb6605940aOpenQ
import Derived.WalkKit
namespace Go.Proofs.Qxb6605940a.fnLargestWidthIsLargestFitting
open Go.ChangeShapes Go.WideShapes Go.ChangeAt Go.RowKit

theorem own : ownKnob Try.prog.godebug = none := by kernel_rfl
theorem laidOut : laidOutB Try.prog = true := by kernel_rfl

theorem walk (l : Int) (a : Option Addr) (w : World) (hq : IsQ w a) :
    Calls Try.prog 5 #[.int .i64 l, .pointer a] w fun e w' => e = .returned (.bool true) ∧ Below w.heap.size w w' := by
  by_cases hf : 614891469123651720 < l ∨ l < -614891469123651720
  · exact fitting_far l a w hf
  · have h1 : -614891469123651720 ≤ l := by omega
    have h2 : l ≤ 614891469123651720 := by omega
    rcases hq with rfl | ⟨b, off, q, h, n, rfl, c0, c1, c2, g⟩
    · exact fitting_nil l h1 h2 w
    · exact fitting_some l h1 h2 b off q h n w g c0 c1 c2

set_option maxRecDepth 100000 in
theorem lifted (os : Os) (started : os.Started) (H : Type) (enc : TypeId × Value → H) :
    ReturnsInHanded {} Try.checked os 5 .any (Rows.fnLargestWidthIsLargestFittingSpec.pre6 enc Try.prog Try.f5 Rows.fnLargestWidthIsLargestFittingRow.domain false) (Rows.fnLargestWidthIsLargestFittingSpec.post enc Try.prog Try.f5 false true false false) := by
  refine returnsInHanded_of_change (C := Try.checked) own started (by kernel_rfl) Try.func5
    (ChangeSpec.witness6 (enc := enc) (C := Try.checked) false ⟨#[], #[.int .i64 0, .pointer none], []⟩ 8 (by kernel_rfl) (by kernel_rfl) (by kernel_rfl) (by kernel_rfl)) ?_
  intro W base args ds gs before hval0 hW hcnd _
  have hval : ∀ (j : Nat) t v, Try.f5.params[j]? = some t → args[j]? = some v → Value.okWide Try.prog W .any base t v := hval0
  have hW' := hW
  obtain ⟨p, q, hA0, hV, rfl, hfz, hnd⟩ := hW
  have hA : DataW.TrodAll enc Try.prog W 0 (fun _ => true) true Try.f5.params.toList args.toList ds p := hA0
  rw [Try.params5] at hA hval
  obtain ⟨v0, vs0, d0, ds0, p0, q0, hargs, rfl, rfl, h0, r0⟩ := trodAll_cons hA
  obtain ⟨v1, vs1, d1, ds1, p1, q1, rfl, rfl, rfl, h1, r1⟩ := trodAll_cons r0
  obtain ⟨rfl, rfl, rfl⟩ := trodAll_nil r1
  obtain rfl : args = #[v0, v1] := by cases args; simp_all
  obtain ⟨rfl, rfl⟩ := trodVars_none hV
  obtain ⟨a0, rfl, rfl, rfl, w0⟩ := open_int Try.underlying3 (hval 0 3 v0 rfl rfl) h0
  obtain ⟨a1, rfl⟩ := okWide_pointer Try.underlying36 (hval 1 36 v1 rfl rfl)
  have k1 := h1
  have lt1 : ∀ x ∈ p1, x.block < W.heap.size := by obtain ⟨m, hm⟩ := k1; exact DataW.trod_lt m _ _ _ hm
  clear hA0 hval0
  refine (walk a0 a1 W (open_q h1)).mono fun e W' ⟨he, bel⟩ => ?_
  subst he
  exact ⟨_, rfl, _, _, _, [], _, [], hW', trodAll_mk1 (shut_bool Try.underlying4 _), (trodAll_cons_mk (shut_int Try.underlying3 w0) (trodAll_cons_mk (Below.trod laidOut (by kernel_rfl) (of_decide_eq_true (by kernel_rfl)) k1 bel lt1) trodAll_mk0)), rfl, bel.frame _, fun h => by cases h⟩

theorem over : Rows.fnLargestWidthIsLargestFittingRow.holds Try.pinned (OpenSpec.ofChange Rows.fnLargestWidthIsLargestFittingSpec) :=
  OpenClaim.holds_of_wide 5 Try.f5 rfl rfl rfl rfl rfl rfl rfl ⟨rfl, rfl, rfl, rfl, rfl⟩ rfl rfl rfl rfl rfl (by kernel_rfl) Try.func5 (by kernel_rfl)
    (of_decide_eq_true (by kernel_rfl)) (by unfold Func.isWrapper; first | (rw [if_pos (by decide +kernel)]; kernel_rfl) | (rw [if_neg (by decide +kernel)]; exact ⟨rfl, rfl⟩))
    (fun os started H enc _ => lifted os started H enc)

theorem proved : Rows.FnLargestWidthIsLargestFittingSaid :=
  over
end Go.Proofs.Qxb6605940a.fnLargestWidthIsLargestFitting

namespace Go.Proofs.Qxb6605940a
/-- THE STATEMENT. -/
theorem largest_width_is_largest_fitting : Rows.FnLargestWidthIsLargestFittingSaid := fnLargestWidthIsLargestFitting.proved
#print axioms largest_width_is_largest_fitting
end Go.Proofs.Qxb6605940a
