/-
  No cell of these rows narrows 'for every input' (looked for: loops, veiled, ifaces, maps, wideKeys, modest, calm, conditions, laid).
  DERIVED. THE GIVEN ROWS OF THIS SEAT. 2 by the template 'for every input the law returns true; each argument reads behind the call as it read before'; 0 by the template 'total and deterministic' (their statements: YbulkdbxqTotals.lean).
  GIVEN WITH THE SEED: the statements are not yours to turn. If you find one false, say at which input.
  Laid BY PROGRAM, IN A SANDBOX (cutbox-rows.mjs): the forced cells as the released guide's own fill.sh prints them over the translation 089c21d4c2755e5e… (all of the seat's roots in one cut). By AI agents, Wed Nov 11 2026. No macro, syntax, notation, axiom, sorry.
-/
import Derived.Test.YbulkdbxqChecked
import GoSem.Claim
import GoSem.ClaimJoined
import GoSem.ClaimMapViews
import Derived.JoinedTies
import Derived.KernelRfl
namespace Go.Proofs.Ybulkdbxq
/- THE CELL 'sum', in the pinned program and in every row, IS THE sha256 OF THE DUMP (.gsa) THAT YbulkdbxqProg.lean LOADS. Nothing in Lean hashes anything: it is a label: what it is worth is what the hold of that sum in a sandbox is worth. -/
noncomputable def Yba.pinned : Pinned := { name := "ybulkdbxq", sum := "089c21d4c2755e5e2de0084acf0353682b787f26d29c3c73a24256056d618920", checked := Yba.checked }
namespace Rows
def none {H : Type} : Left H := { results := [], args := [] }

/-- 'relaytest.LawS5164BAdd': WHATEVER THE INPUT: true; the input reads as it did. -/
def lawS5164BAddSpec : ChangeSpec := { name := "lawS5164BAdd", fn := fun _ => fun
  | [d1, d2] => { results := [.lit (.bool true)], args := [d1, d2] }
  | _ => none }
def lawS5164BAddRow : OpenClaim := { program := "ybulkdbxq", sum := "089c21d4c2755e5e2de0084acf0353682b787f26d29c3c73a24256056d618920", func := "example.com/pinrelay/pinrelay/pkg/relay/relaytest.LawS5164BAdd", spec := "lawS5164BAdd", inPlace := ["(*internal/sync.Mutex).Lock", "internal/race.Disable", "sync/atomic.CompareAndSwapInt32", "internal/race.Enable", "internal/race.Acquire", "(*internal/sync.Mutex).lockSlow", "internal/sync.runtime_canSpin", "internal/sync.runtime_doSpin", "internal/sync.throw", "internal/sync.runtime_nanotime", "internal/sync.runtime_SemacquireMutex", "sync/atomic.AddInt32", "(*internal/sync.Mutex).Unlock", "internal/race.ReleaseMerge", "(*internal/sync.Mutex).unlockSlow", "internal/sync.fatal", "internal/sync.runtime_Semrelease"], unfollowed := true, recurses := true, apart := false }
def LawS5164BAddSaid : Prop := lawS5164BAddRow.holds Yba.pinned (OpenSpec.ofChange lawS5164BAddSpec)

/-- ITS FALSE NEIGHBOUR: 'it returns false'. Refute it at one input. -/
def lawS5164BAddWrong : ChangeSpec := { name := "lawS5164BAdd", fn := fun _ => fun
  | [d1, d2] => { results := [.lit (.bool false)], args := [d1, d2] }
  | _ => none }
def LawS5164BAddWrongFalsely : Prop := lawS5164BAddRow.holds Yba.pinned (OpenSpec.ofChange lawS5164BAddWrong)

/-- 'relaytest.LawS5164BScript': WHATEVER THE INPUT: true; the input reads as it did. -/
def lawS5164BScriptSpec : ChangeSpec := { name := "lawS5164BScript", fn := fun _ => fun
  | [d] => { results := [.lit (.bool true)], args := [d] }
  | _ => none }
def lawS5164BScriptRow : OpenClaim := { program := "ybulkdbxq", sum := "089c21d4c2755e5e2de0084acf0353682b787f26d29c3c73a24256056d618920", func := "example.com/pinrelay/pinrelay/pkg/relay/relaytest.LawS5164BScript", spec := "lawS5164BScript", inPlace := ["(*internal/sync.Mutex).Lock", "internal/race.Disable", "sync/atomic.CompareAndSwapInt32", "internal/race.Enable", "internal/race.Acquire", "(*internal/sync.Mutex).lockSlow", "internal/sync.runtime_canSpin", "internal/sync.runtime_doSpin", "internal/sync.throw", "internal/sync.runtime_nanotime", "internal/sync.runtime_SemacquireMutex", "sync/atomic.AddInt32", "(*internal/sync.Mutex).Unlock", "internal/race.ReleaseMerge", "(*internal/sync.Mutex).unlockSlow", "internal/sync.fatal", "internal/sync.runtime_Semrelease"], unfollowed := true, recurses := true, apart := false }
def LawS5164BScriptSaid : Prop := lawS5164BScriptRow.holds Yba.pinned (OpenSpec.ofChange lawS5164BScriptSpec)

/-- ITS FALSE NEIGHBOUR: 'it returns false'. Refute it at one input. -/
def lawS5164BScriptWrong : ChangeSpec := { name := "lawS5164BScript", fn := fun _ => fun
  | [d] => { results := [.lit (.bool false)], args := [d] }
  | _ => none }
def LawS5164BScriptWrongFalsely : Prop := lawS5164BScriptRow.holds Yba.pinned (OpenSpec.ofChange lawS5164BScriptWrong)

end Rows
end Go.Proofs.Ybulkdbxq
