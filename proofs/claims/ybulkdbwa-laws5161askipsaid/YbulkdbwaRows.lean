/-
  No cell of these rows narrows 'for every input' (looked for: loops, veiled, ifaces, maps, wideKeys, modest, calm, conditions, laid).
  DERIVED. THE GIVEN ROWS OF THIS SEAT. 4 by the template 'for every input the law returns true; each argument reads behind the call as it read before'; 0 by the template 'total and deterministic' (their statements: YbulkdbwaTotals.lean).
  GIVEN WITH THE SEED: the statements are not yours to turn. If you find one false, say at which input.
  Laid BY PROGRAM, IN A SANDBOX (cutbox-rows.mjs): the forced cells as the released guide's own fill.sh prints them over the translation 189ed8dcd10c0f6f… (all of the seat's roots in one cut). By AI agents, Wed Nov 11 2026. No macro, syntax, notation, axiom, sorry.
-/
import Derived.Test.YbulkdbwaChecked
import GoSem.Claim
import GoSem.ClaimJoined
import GoSem.ClaimMapViews
import Derived.JoinedTies
import Derived.KernelRfl
namespace Go.Proofs.Ybulkdbwa
/- THE CELL 'sum', in the pinned program and in every row, IS THE sha256 OF THE DUMP (.gsa) THAT YbulkdbwaProg.lean LOADS. Nothing in Lean hashes anything: it is a label: what it is worth is what the hold of that sum in a sandbox is worth. -/
noncomputable def Yba.pinned : Pinned := { name := "ybulkdbwa", sum := "189ed8dcd10c0f6f07950cf79e6e5bfeb17cb3620e5e58b29808a7adc99a59b2", checked := Yba.checked }
namespace Rows
def none {H : Type} : Left H := { results := [], args := [] }

/-- 'watch.LawS5161ASkip': WHATEVER THE INPUT: true; the input reads as it did. -/
def lawS5161ASkipSpec : ChangeSpec := { name := "lawS5161ASkip", fn := fun _ => fun
  | [d] => { results := [.lit (.bool true)], args := [d] }
  | _ => none }
def lawS5161ASkipRow : OpenClaim := { program := "ybulkdbwa", sum := "189ed8dcd10c0f6f07950cf79e6e5bfeb17cb3620e5e58b29808a7adc99a59b2", func := "example.com/tidewatch/tidewatch/internal/watch.LawS5161ASkip", spec := "lawS5161ASkip", inPlace := ["(*internal/sync.Mutex).Lock", "internal/race.Disable", "sync/atomic.CompareAndSwapInt32", "internal/race.Enable", "internal/race.Acquire", "(*internal/sync.Mutex).lockSlow", "internal/sync.runtime_canSpin", "internal/sync.runtime_doSpin", "internal/sync.throw", "internal/sync.runtime_nanotime", "internal/sync.runtime_SemacquireMutex", "sync/atomic.AddInt32", "(*internal/sync.Mutex).Unlock", "internal/race.ReleaseMerge", "(*internal/sync.Mutex).unlockSlow", "internal/sync.fatal", "internal/sync.runtime_Semrelease", "sync/atomic.LoadInt32", "runtime.Gosched", "(*internal/sync.Mutex).TryLock"], unfollowed := true, recurses := true, plainKeys := false, apart := false }
def LawS5161ASkipSaid : Prop := lawS5161ASkipRow.holds Yba.pinned (OpenSpec.ofChange lawS5161ASkipSpec)

/-- ITS FALSE NEIGHBOUR: 'it returns false'. Refute it at one input. -/
def lawS5161ASkipWrong : ChangeSpec := { name := "lawS5161ASkip", fn := fun _ => fun
  | [d] => { results := [.lit (.bool false)], args := [d] }
  | _ => none }
def LawS5161ASkipWrongFalsely : Prop := lawS5161ASkipRow.holds Yba.pinned (OpenSpec.ofChange lawS5161ASkipWrong)

/-- 'watch.LawS5161ABusy': WHATEVER THE INPUT: true; the input reads as it did. -/
def lawS5161ABusySpec : ChangeSpec := { name := "lawS5161ABusy", fn := fun _ => fun
  | [d1, d2, d3] => { results := [.lit (.bool true)], args := [d1, d2, d3] }
  | _ => none }
def lawS5161ABusyRow : OpenClaim := { program := "ybulkdbwa", sum := "189ed8dcd10c0f6f07950cf79e6e5bfeb17cb3620e5e58b29808a7adc99a59b2", func := "example.com/tidewatch/tidewatch/internal/watch.LawS5161ABusy", spec := "lawS5161ABusy", inPlace := ["sync/atomic.StoreInt32", "(*internal/sync.Mutex).Lock", "internal/race.Disable", "sync/atomic.CompareAndSwapInt32", "internal/race.Enable", "internal/race.Acquire", "(*internal/sync.Mutex).lockSlow", "internal/sync.runtime_canSpin", "internal/sync.runtime_doSpin", "internal/sync.throw", "internal/sync.runtime_nanotime", "internal/sync.runtime_SemacquireMutex", "sync/atomic.AddInt32", "(*internal/sync.Mutex).Unlock", "internal/race.ReleaseMerge", "(*internal/sync.Mutex).unlockSlow", "internal/sync.fatal", "internal/sync.runtime_Semrelease", "sync/atomic.LoadInt32", "runtime.Gosched", "(*internal/sync.Mutex).TryLock"], unfollowed := true, recurses := true, plainKeys := false, apart := false }
def LawS5161ABusySaid : Prop := lawS5161ABusyRow.holds Yba.pinned (OpenSpec.ofChange lawS5161ABusySpec)

/-- ITS FALSE NEIGHBOUR: 'it returns false'. Refute it at one input. -/
def lawS5161ABusyWrong : ChangeSpec := { name := "lawS5161ABusy", fn := fun _ => fun
  | [d1, d2, d3] => { results := [.lit (.bool false)], args := [d1, d2, d3] }
  | _ => none }
def LawS5161ABusyWrongFalsely : Prop := lawS5161ABusyRow.holds Yba.pinned (OpenSpec.ofChange lawS5161ABusyWrong)

/-- 'store.LawS5161CModel': WHATEVER THE INPUT: true; the input reads as it did. -/
def lawS5161CModelSpec : ChangeSpec := { name := "lawS5161CModel", fn := fun _ => fun
  | [d1, d2, d3, d4, d5, d6] => { results := [.lit (.bool true)], args := [d1, d2, d3, d4, d5, d6] }
  | _ => none }
def lawS5161CModelRow : OpenClaim := { program := "ybulkdbwa", sum := "189ed8dcd10c0f6f07950cf79e6e5bfeb17cb3620e5e58b29808a7adc99a59b2", func := "example.com/tidewatch/tidewatch/internal/store.LawS5161CModel", spec := "lawS5161CModel", plainKeys := false, apart := false }
def LawS5161CModelSaid : Prop := lawS5161CModelRow.holds Yba.pinned (OpenSpec.ofChange lawS5161CModelSpec)

/-- ITS FALSE NEIGHBOUR: 'it returns false'. Refute it at one input. -/
def lawS5161CModelWrong : ChangeSpec := { name := "lawS5161CModel", fn := fun _ => fun
  | [d1, d2, d3, d4, d5, d6] => { results := [.lit (.bool false)], args := [d1, d2, d3, d4, d5, d6] }
  | _ => none }
def LawS5161CModelWrongFalsely : Prop := lawS5161CModelRow.holds Yba.pinned (OpenSpec.ofChange lawS5161CModelWrong)

/-- 'store.LawS5161COwn': WHATEVER THE INPUT: true; the input reads as it did. -/
def lawS5161COwnSpec : ChangeSpec := { name := "lawS5161COwn", fn := fun _ => fun
  | [d1, d2, d3, d4] => { results := [.lit (.bool true)], args := [d1, d2, d3, d4] }
  | _ => none }
def lawS5161COwnRow : OpenClaim := { program := "ybulkdbwa", sum := "189ed8dcd10c0f6f07950cf79e6e5bfeb17cb3620e5e58b29808a7adc99a59b2", func := "example.com/tidewatch/tidewatch/internal/store.LawS5161COwn", spec := "lawS5161COwn", plainKeys := false, apart := false }
def LawS5161COwnSaid : Prop := lawS5161COwnRow.holds Yba.pinned (OpenSpec.ofChange lawS5161COwnSpec)

/-- ITS FALSE NEIGHBOUR: 'it returns false'. Refute it at one input. -/
def lawS5161COwnWrong : ChangeSpec := { name := "lawS5161COwn", fn := fun _ => fun
  | [d1, d2, d3, d4] => { results := [.lit (.bool false)], args := [d1, d2, d3, d4] }
  | _ => none }
def LawS5161COwnWrongFalsely : Prop := lawS5161COwnRow.holds Yba.pinned (OpenSpec.ofChange lawS5161COwnWrong)

end Rows
end Go.Proofs.Ybulkdbwa
