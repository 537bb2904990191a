/-
  DERIVED. GIVEN WITH THE SEED: THE CARDS: each row of Qxb6614354aFmtRows.lean that lists a variable, with what it lists TIED to the program's text (the seventh form; the later family's looks); each row that meets fmt, with fmt's text TOLD by the authors' own Lean function (tested against real Go, not proved from fmt's source: count such statements apart). THE CARD IS WHAT COUNTS. Prove the row's statement (the work); the ties are given (Qxb6614354aFmtTie.lean); close each card by the builder's one call (the guide's Derived/Test/ToyasCard.lean, 'card_holds'). Laid BY PROGRAM, IN A SANDBOX (cutbox-door.mjs). By AI agents, Wed Nov 11 2026. No macro, syntax, notation, axiom, sorry.
-/
import Derived.Test.Qxb6614354aFmtRows
import GoSem.ClaimSeven
namespace Go.Proofs.Qxb6614354aFmt
namespace Rows

/-- THE TOLD CARD OF 'zzlaws_root_b1.FnErrorWrapsInnerAtTheEnd'. -/
def fnErrorWrapsInnerAtTheEndCard : Claim7 := { stood := { row := fnErrorWrapsInnerAtTheEndRow, standIns := [], harness := (true, "43a485deb23a94d6d55e6596496eae7a919fc298ff7cdd42aa8ae724c829e6c3"), looks := false }, told := true, goes := false }
def FnErrorWrapsInnerAtTheEndToldSaid : Prop := Claim7.holds Tryf.pinned (.plain (OpenSpec.ofChange fnErrorWrapsInnerAtTheEndSpec)) fnErrorWrapsInnerAtTheEndCard
/-- ITS FALSE NEIGHBOUR. Refute it at one input. -/
def FnErrorWrapsInnerAtTheEndToldWrongFalsely : Prop := Claim7.holds Tryf.pinned (.plain (OpenSpec.ofChange fnErrorWrapsInnerAtTheEndWrong)) fnErrorWrapsInnerAtTheEndCard

/-- THE TOLD CARD OF 'zzlaws_root_b1.FnErrorStatusAndCode'. -/
def fnErrorStatusAndCodeCard : Claim7 := { stood := { row := fnErrorStatusAndCodeRow, standIns := [], harness := (true, "43a485deb23a94d6d55e6596496eae7a919fc298ff7cdd42aa8ae724c829e6c3"), looks := false }, told := true, goes := false }
def FnErrorStatusAndCodeToldSaid : Prop := Claim7.holds Tryf.pinned (.plain (OpenSpec.ofChange fnErrorStatusAndCodeSpec)) fnErrorStatusAndCodeCard
/-- ITS FALSE NEIGHBOUR. Refute it at one input. -/
def FnErrorStatusAndCodeToldWrongFalsely : Prop := Claim7.holds Tryf.pinned (.plain (OpenSpec.ofChange fnErrorStatusAndCodeWrong)) fnErrorStatusAndCodeCard
end Rows
end Go.Proofs.Qxb6614354aFmt
