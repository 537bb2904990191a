/-
  A POINTER TO A QueuingIn THAT CAME IN, OPENED: nil; or three int cells.
-/
import Derived.Test.Qxb6605940aRows
import Derived.ProofKit
import Derived.OpenShut
import Derived.ChangeOld
import Derived.Deep.Fields23
import Derived.Below
namespace Go.Proofs.Qxb6605940a
open Go.ChangeShapes Go.WideShapes Go.ChangeAt Go.RowKit

theorem cells38 : Try.prog.cellsOf 38 = 3 := by kernel_rfl

/-- What the walk is told of the pointer. -/
def IsQ (w : World) (a : Option Addr) : Prop :=
  a = none ∨ ∃ b off q h n, a = some ⟨b, off, none⟩ ∧ w.cell? ⟨b, off, none⟩ = some (.int .i64 q) ∧ w.cell? ⟨b, off + 1, none⟩ = some (.int .i64 h) ∧ w.cell? ⟨b, off + 2, none⟩ = some (.int .i64 n) ∧ h ≤ 9223372036854775807

theorem open_q {H : Type} {enc : TypeId × Value → H} {w : World} {base : Nat} {spare : Nat → Bool} {held : Bool} {a : Option Addr} {d : DataW H} {ps : List MemPlace}
    (h : DataW.Trod enc Try.prog w base spare held 36 (.pointer a) d ps) : IsQ w a := by
  obtain ⟨fuel, hf⟩ := h
  rcases Go.Deep.open_ptr_fields3 Try.underlying36 Try.underlying38 (by kernel_rfl) cells38 hf with ⟨hcs, _⟩ | ⟨b, o, n, v0, v1, v2, y0, y1, y2, hcs, _, _, c0, c1, c2, t0, t1, t2⟩
  · left
    simpa [Value.cells] using hcs
  · right
    obtain ⟨q, e0, _, _⟩ := DataW.trod_int Try.underlying3 t0
    obtain ⟨h, e1, _, w1⟩ := DataW.trod_int Try.underlying3 t1
    obtain ⟨m, e2, _, _⟩ := DataW.trod_int Try.underlying3 t2
    simp at e0 e1 e2
    subst e0 e1 e2
    refine ⟨b, o, q, h, m, by simpa [Value.cells] using hcs, c0, c1, c2, ?_⟩
    have := bounds_i64 w1
    omega

end Go.Proofs.Qxb6605940a
