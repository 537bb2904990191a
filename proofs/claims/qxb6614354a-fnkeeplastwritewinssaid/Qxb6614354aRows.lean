/-
  No cell of these rows narrows 'for every input' (looked for: loops, veiled, ifaces, maps, wideKeys, modest, calm, conditions, laid).
  DERIVED. THE GIVEN ROWS OF THIS SEAT. 4 by the template 'for every input the law returns true; each argument reads behind the call as it read before'; 0 by the template 'total and deterministic' (their statements: Qxb6614354aTotals.lean).
  GIVEN WITH THE SEED: the statements are not yours to turn. If you find one false, say at which input.
  Laid BY PROGRAM, IN A SANDBOX (cutbox-rows.mjs): the forced cells as the released guide's own fill.sh prints them over the translation 0a986a951df4d1e7… (all of the seat's roots in one cut). By AI agents, Wed Nov 11 2026. No macro, syntax, notation, axiom, sorry.
-/
import Derived.Test.Qxb6614354aChecked
import GoSem.Claim
import GoSem.ClaimJoined
import GoSem.ClaimMapViews
import Derived.JoinedTies
import Derived.KernelRfl
namespace Go.Proofs.Qxb6614354a
/- THE CELL 'sum', in the pinned program and in every row, IS THE sha256 OF THE DUMP (.gsa) THAT Qxb6614354aProg.lean LOADS. Nothing in Lean hashes anything: it is a label: what it is worth is what the hold of that sum in a sandbox is worth. -/
noncomputable def Try.pinned : Pinned := { name := "qxb6614354a", sum := "0a986a951df4d1e769417354ae4cd04ad81717d1e90a0d885e185a8da114f8a4", checked := Try.checked }
namespace Rows
def none {H : Type} : Left H := { results := [], args := [] }

/-- 'zzlaws_root_b1.FnClientStringIgnoresToken': WHATEVER THE INPUT: true; the input reads as it did. -/
def fnClientStringIgnoresTokenSpec : ChangeSpec := { name := "fnClientStringIgnoresToken", fn := fun _ => fun
  | [d1, d2, d3] => { results := [.lit (.bool true)], args := [d1, d2, d3] }
  | _ => none }
def fnClientStringIgnoresTokenRow : OpenClaim := { program := "qxb6614354a", sum := "0a986a951df4d1e769417354ae4cd04ad81717d1e90a0d885e185a8da114f8a4", func := "example.com/gate-for-one/gate-for-one/zzlaws_root_b1.FnClientStringIgnoresToken", spec := "fnClientStringIgnoresToken", inPlace := ["(*internal/sync.Mutex).Lock", "internal/race.Disable", "sync/atomic.CompareAndSwapInt32", "internal/race.Enable", "internal/race.Acquire", "(*internal/sync.Mutex).lockSlow", "internal/sync.runtime_canSpin", "internal/sync.runtime_doSpin", "internal/sync.throw", "internal/sync.runtime_nanotime", "internal/sync.runtime_SemacquireMutex", "sync/atomic.AddInt32", "(*internal/sync.Mutex).Unlock", "internal/race.ReleaseMerge", "(*internal/sync.Mutex).unlockSlow", "internal/sync.fatal", "internal/sync.runtime_Semrelease"], apart := false }
def FnClientStringIgnoresTokenSaid : Prop := fnClientStringIgnoresTokenRow.holds Try.pinned (OpenSpec.ofChange fnClientStringIgnoresTokenSpec)

/-- ITS FALSE NEIGHBOUR: 'it returns false'. Refute it at one input. -/
def fnClientStringIgnoresTokenWrong : ChangeSpec := { name := "fnClientStringIgnoresToken", fn := fun _ => fun
  | [d1, d2, d3] => { results := [.lit (.bool false)], args := [d1, d2, d3] }
  | _ => none }
def FnClientStringIgnoresTokenWrongFalsely : Prop := fnClientStringIgnoresTokenRow.holds Try.pinned (OpenSpec.ofChange fnClientStringIgnoresTokenWrong)

/-- 'zzlaws_root_b1.FnClientStringTellsServersApart': WHATEVER THE INPUT: true; the input reads as it did. -/
def fnClientStringTellsServersApartSpec : ChangeSpec := { name := "fnClientStringTellsServersApart", fn := fun _ => fun
  | [d1, d2, d3] => { results := [.lit (.bool true)], args := [d1, d2, d3] }
  | _ => none }
def fnClientStringTellsServersApartRow : OpenClaim := { program := "qxb6614354a", sum := "0a986a951df4d1e769417354ae4cd04ad81717d1e90a0d885e185a8da114f8a4", func := "example.com/gate-for-one/gate-for-one/zzlaws_root_b1.FnClientStringTellsServersApart", spec := "fnClientStringTellsServersApart", apart := false }
def FnClientStringTellsServersApartSaid : Prop := fnClientStringTellsServersApartRow.holds Try.pinned (OpenSpec.ofChange fnClientStringTellsServersApartSpec)

/-- ITS FALSE NEIGHBOUR: 'it returns false'. Refute it at one input. -/
def fnClientStringTellsServersApartWrong : ChangeSpec := { name := "fnClientStringTellsServersApart", fn := fun _ => fun
  | [d1, d2, d3] => { results := [.lit (.bool false)], args := [d1, d2, d3] }
  | _ => none }
def FnClientStringTellsServersApartWrongFalsely : Prop := fnClientStringTellsServersApartRow.holds Try.pinned (OpenSpec.ofChange fnClientStringTellsServersApartWrong)

/-- 'zzlaws_root_b1.FnKeepLastWriteWins': WHATEVER THE INPUT: true; the input reads as it did. -/
def fnKeepLastWriteWinsSpec : ChangeSpec := { name := "fnKeepLastWriteWins", fn := fun _ => fun
  | [d1, d2, d3] => { results := [.lit (.bool true)], args := [d1, d2, d3] }
  | _ => none }
def fnKeepLastWriteWinsRow : OpenClaim := { program := "qxb6614354a", sum := "0a986a951df4d1e769417354ae4cd04ad81717d1e90a0d885e185a8da114f8a4", func := "example.com/gate-for-one/gate-for-one/zzlaws_root_b1.FnKeepLastWriteWins", spec := "fnKeepLastWriteWins", inPlace := ["(*internal/sync.Mutex).Lock", "internal/race.Disable", "sync/atomic.CompareAndSwapInt32", "internal/race.Enable", "internal/race.Acquire", "(*internal/sync.Mutex).lockSlow", "internal/sync.runtime_canSpin", "internal/sync.runtime_doSpin", "internal/sync.throw", "internal/sync.runtime_nanotime", "internal/sync.runtime_SemacquireMutex", "sync/atomic.AddInt32", "(*internal/sync.Mutex).Unlock", "internal/race.ReleaseMerge", "(*internal/sync.Mutex).unlockSlow", "internal/sync.fatal", "internal/sync.runtime_Semrelease"], apart := false }
def FnKeepLastWriteWinsSaid : Prop := fnKeepLastWriteWinsRow.holds Try.pinned (OpenSpec.ofChange fnKeepLastWriteWinsSpec)

/-- ITS FALSE NEIGHBOUR: 'it returns false'. Refute it at one input. -/
def fnKeepLastWriteWinsWrong : ChangeSpec := { name := "fnKeepLastWriteWins", fn := fun _ => fun
  | [d1, d2, d3] => { results := [.lit (.bool false)], args := [d1, d2, d3] }
  | _ => none }
def FnKeepLastWriteWinsWrongFalsely : Prop := fnKeepLastWriteWinsRow.holds Try.pinned (OpenSpec.ofChange fnKeepLastWriteWinsWrong)

/-- 'zzlaws_root_b1.FnKeepTouchesOnlyItsClient': WHATEVER THE INPUT: true; the input reads as it did. -/
def fnKeepTouchesOnlyItsClientSpec : ChangeSpec := { name := "fnKeepTouchesOnlyItsClient", fn := fun _ => fun
  | [d1, d2, d3] => { results := [.lit (.bool true)], args := [d1, d2, d3] }
  | _ => none }
def fnKeepTouchesOnlyItsClientRow : OpenClaim := { program := "qxb6614354a", sum := "0a986a951df4d1e769417354ae4cd04ad81717d1e90a0d885e185a8da114f8a4", func := "example.com/gate-for-one/gate-for-one/zzlaws_root_b1.FnKeepTouchesOnlyItsClient", spec := "fnKeepTouchesOnlyItsClient", inPlace := ["(*internal/sync.Mutex).Lock", "internal/race.Disable", "sync/atomic.CompareAndSwapInt32", "internal/race.Enable", "internal/race.Acquire", "(*internal/sync.Mutex).lockSlow", "internal/sync.runtime_canSpin", "internal/sync.runtime_doSpin", "internal/sync.throw", "internal/sync.runtime_nanotime", "internal/sync.runtime_SemacquireMutex", "sync/atomic.AddInt32", "(*internal/sync.Mutex).Unlock", "internal/race.ReleaseMerge", "(*internal/sync.Mutex).unlockSlow", "internal/sync.fatal", "internal/sync.runtime_Semrelease"], apart := false }
def FnKeepTouchesOnlyItsClientSaid : Prop := fnKeepTouchesOnlyItsClientRow.holds Try.pinned (OpenSpec.ofChange fnKeepTouchesOnlyItsClientSpec)

/-- ITS FALSE NEIGHBOUR: 'it returns false'. Refute it at one input. -/
def fnKeepTouchesOnlyItsClientWrong : ChangeSpec := { name := "fnKeepTouchesOnlyItsClient", fn := fun _ => fun
  | [d1, d2, d3] => { results := [.lit (.bool false)], args := [d1, d2, d3] }
  | _ => none }
def FnKeepTouchesOnlyItsClientWrongFalsely : Prop := fnKeepTouchesOnlyItsClientRow.holds Try.pinned (OpenSpec.ofChange fnKeepTouchesOnlyItsClientWrong)

end Rows
end Go.Proofs.Qxb6614354a
