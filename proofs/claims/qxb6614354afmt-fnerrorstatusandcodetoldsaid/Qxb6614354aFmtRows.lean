/-
  No cell of these rows narrows 'for every input' (looked for: loops, veiled, ifaces, maps, wideKeys, modest, calm, conditions, laid).
  DERIVED. THE GIVEN ROWS OF THIS SEAT. 2 by the template 'for every input the law returns true; each argument reads behind the call as it read before'; 0 by the template 'total and deterministic' (their statements: Qxb6614354aFmtTotals.lean).
  GIVEN WITH THE SEED: the statements are not yours to turn. If you find one false, say at which input.
  Laid BY PROGRAM, IN A SANDBOX (cutbox-rows.mjs): the forced cells as the released guide's own fill.sh prints them over the translation bb42d3327f4a4b33… (all of the seat's roots in one cut). By AI agents, Wed Nov 11 2026. No macro, syntax, notation, axiom, sorry.
-/
import Derived.Test.Qxb6614354aFmtChecked
import GoSem.Claim
import GoSem.ClaimJoined
import GoSem.ClaimMapViews
import Derived.JoinedTies
import Derived.KernelRfl
namespace Go.Proofs.Qxb6614354aFmt
/- THE CELL 'sum', in the pinned program and in every row, IS THE sha256 OF THE DUMP (.gsa) THAT Qxb6614354aFmtProg.lean LOADS. Nothing in Lean hashes anything: it is a label: what it is worth is what the hold of that sum in a sandbox is worth. -/
noncomputable def Tryf.pinned : Pinned := { name := "qxb6614354afmt", sum := "bb42d3327f4a4b3364ea47b121994c3381cf2a59b820c6cb6c470868e622f404", checked := Tryf.checked }
namespace Rows
def none {H : Type} : Left H := { results := [], args := [] }

/-- 'zzlaws_root_b1.FnErrorWrapsInnerAtTheEnd': WHATEVER THE INPUT: true; the input reads as it did. -/
def fnErrorWrapsInnerAtTheEndSpec : ChangeSpec := { name := "fnErrorWrapsInnerAtTheEnd", fn := fun _ => fun
  | [d1, d2, d3, d4, d5] => { results := [.lit (.bool true)], args := [d1, d2, d3, d4, d5] }
  | _ => none }
def fnErrorWrapsInnerAtTheEndRow : OpenClaim := { program := "qxb6614354afmt", sum := "bb42d3327f4a4b3364ea47b121994c3381cf2a59b820c6cb6c470868e622f404", func := "example.com/gate-for-one/gate-for-one/zzlaws_root_b1.FnErrorWrapsInnerAtTheEnd", spec := "fnErrorWrapsInnerAtTheEnd", stops := ["fmt.Sprintf"], inPlace := ["fmt.Sprintf"], unfollowed := true, recurses := true, apart := false }
/-- NO THEOREM (fmt's text is open here; it may be false): for the released tool's asking of the row's closed facts alone. THE STATEMENT IS 'FnErrorWrapsInnerAtTheEndToldSaid' (Qxb6614354aFmtCards.lean). -/
def FnErrorWrapsInnerAtTheEndFormAsk : Prop := fnErrorWrapsInnerAtTheEndRow.holds Tryf.pinned (OpenSpec.ofChange fnErrorWrapsInnerAtTheEndSpec)

/-- ITS FALSE NEIGHBOUR: 'it returns false'. Refute it at one input. -/
def fnErrorWrapsInnerAtTheEndWrong : ChangeSpec := { name := "fnErrorWrapsInnerAtTheEnd", fn := fun _ => fun
  | [d1, d2, d3, d4, d5] => { results := [.lit (.bool false)], args := [d1, d2, d3, d4, d5] }
  | _ => none }
def FnErrorWrapsInnerAtTheEndWrongFormAsk : Prop := fnErrorWrapsInnerAtTheEndRow.holds Tryf.pinned (OpenSpec.ofChange fnErrorWrapsInnerAtTheEndWrong)

/-- 'zzlaws_root_b1.FnErrorStatusAndCode': WHATEVER THE INPUT: true; the input reads as it did. -/
def fnErrorStatusAndCodeSpec : ChangeSpec := { name := "fnErrorStatusAndCode", fn := fun _ => fun
  | [d1, d2, d3, d4] => { results := [.lit (.bool true)], args := [d1, d2, d3, d4] }
  | _ => none }
def fnErrorStatusAndCodeRow : OpenClaim := { program := "qxb6614354afmt", sum := "bb42d3327f4a4b3364ea47b121994c3381cf2a59b820c6cb6c470868e622f404", func := "example.com/gate-for-one/gate-for-one/zzlaws_root_b1.FnErrorStatusAndCode", spec := "fnErrorStatusAndCode", stops := ["fmt.Sprintf"], inPlace := ["fmt.Sprintf"], unfollowed := true, recurses := true, apart := false }
/-- NO THEOREM (fmt's text is open here; it may be false): for the released tool's asking of the row's closed facts alone. THE STATEMENT IS 'FnErrorStatusAndCodeToldSaid' (Qxb6614354aFmtCards.lean). -/
def FnErrorStatusAndCodeFormAsk : Prop := fnErrorStatusAndCodeRow.holds Tryf.pinned (OpenSpec.ofChange fnErrorStatusAndCodeSpec)

/-- ITS FALSE NEIGHBOUR: 'it returns false'. Refute it at one input. -/
def fnErrorStatusAndCodeWrong : ChangeSpec := { name := "fnErrorStatusAndCode", fn := fun _ => fun
  | [d1, d2, d3, d4] => { results := [.lit (.bool false)], args := [d1, d2, d3, d4] }
  | _ => none }
def FnErrorStatusAndCodeWrongFormAsk : Prop := fnErrorStatusAndCodeRow.holds Tryf.pinned (OpenSpec.ofChange fnErrorStatusAndCodeWrong)

end Rows
end Go.Proofs.Qxb6614354aFmt
