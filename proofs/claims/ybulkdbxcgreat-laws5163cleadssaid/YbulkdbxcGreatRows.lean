/-
  No cell of these rows narrows 'for every input' (looked for: loops, veiled, ifaces, maps, wideKeys, modest, calm, conditions, laid).
  DERIVED. THE GIVEN ROWS OF THIS SEAT. 1 by the template 'for every input the law returns true; each argument reads behind the call as it read before'; 0 by the template 'total and deterministic' (their statements: YbulkdbxcGreatTotals.lean).
  GIVEN WITH THE SEED: the statements are not yours to turn. If you find one false, say at which input.
  Laid BY PROGRAM, IN A SANDBOX (cutbox-rows.mjs): the forced cells as the released guide's own fill.sh prints them over the translation cd6904dec23f2cd7… (all of the seat's roots in one cut). By AI agents, Wed Nov 11 2026. No macro, syntax, notation, axiom, sorry.
-/
import Derived.Test.YbulkdbxcGreatChecked
import GoSem.Claim
import GoSem.ClaimJoined
import GoSem.ClaimMapViews
import Derived.JoinedTies
import Derived.KernelRfl
namespace Go.Proofs.YbulkdbxcGreat
/- THE CELL 'sum', in the pinned program and in every row, IS THE sha256 OF THE DUMP (.gsa) THAT YbulkdbxcGreatProg.lean LOADS. Nothing in Lean hashes anything: it is a label: what it is worth is what the hold of that sum in a sandbox is worth. -/
noncomputable def Ybaz.pinned : Pinned := { name := "ybulkdbxcgreat", sum := "cd6904dec23f2cd70c81f98b00792ca69cf58fb0cc1d44e42c2fc6be121d3094", checked := Ybaz.checked }
namespace Rows
def none {H : Type} : Left H := { results := [], args := [] }

/-- 'master.LawS5163CLeads': WHATEVER THE INPUT: true; the input reads as it did. -/
def lawS5163CLeadsSpec : ChangeSpec := { name := "lawS5163CLeads", fn := fun _ => fun
  | [d1, d2, d3, d4, d5, d6] => { results := [.lit (.bool true)], args := [d1, d2, d3, d4, d5, d6] }
  | _ => none }
def lawS5163CLeadsRow : OpenClaim := { program := "ybulkdbxcgreat", sum := "cd6904dec23f2cd70c81f98b00792ca69cf58fb0cc1d44e42c2fc6be121d3094", func := "example.com/tidewater/tidewater/internal/master.LawS5163CLeads", spec := "lawS5163CLeads", inPlace := ["sync/atomic.StorePointer", "sync/atomic.LoadPointer"], plainKeys := false, apart := false }
def LawS5163CLeadsSaid : Prop := lawS5163CLeadsRow.holds Ybaz.pinned (OpenSpec.ofChange lawS5163CLeadsSpec)

/-- ITS FALSE NEIGHBOUR: 'it returns false'. Refute it at one input. -/
def lawS5163CLeadsWrong : ChangeSpec := { name := "lawS5163CLeads", fn := fun _ => fun
  | [d1, d2, d3, d4, d5, d6] => { results := [.lit (.bool false)], args := [d1, d2, d3, d4, d5, d6] }
  | _ => none }
def LawS5163CLeadsWrongFalsely : Prop := lawS5163CLeadsRow.holds Ybaz.pinned (OpenSpec.ofChange lawS5163CLeadsWrong)

end Rows
end Go.Proofs.YbulkdbxcGreat
