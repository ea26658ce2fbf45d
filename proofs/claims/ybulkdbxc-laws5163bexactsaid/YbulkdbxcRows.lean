/-
  No cell of these rows narrows 'for every input' (looked for: loops, veiled, ifaces, maps, wideKeys, modest, calm, conditions, laid).
  DERIVED. THE GIVEN ROWS OF THIS SEAT. 2 by the template 'for every input the law returns true; each argument reads behind the call as it read before'; 0 by the template 'total and deterministic' (their statements: YbulkdbxcTotals.lean).
  GIVEN WITH THE SEED: the statements are not yours to turn. If you find one false, say at which input.
  Laid BY PROGRAM, IN A SANDBOX (cutbox-rows.mjs): the forced cells as the released guide's own fill.sh prints them over the translation 85050a32557c20c9… (all of the seat's roots in one cut). By AI agents, Wed Nov 11 2026. No macro, syntax, notation, axiom, sorry.
-/
import Derived.Test.YbulkdbxcChecked
import GoSem.Claim
import GoSem.ClaimJoined
import GoSem.ClaimMapViews
import Derived.JoinedTies
import Derived.KernelRfl
namespace Go.Proofs.Ybulkdbxc
/- THE CELL 'sum', in the pinned program and in every row, IS THE sha256 OF THE DUMP (.gsa) THAT YbulkdbxcProg.lean LOADS. Nothing in Lean hashes anything: it is a label: what it is worth is what the hold of that sum in a sandbox is worth. -/
noncomputable def Yba.pinned : Pinned := { name := "ybulkdbxc", sum := "85050a32557c20c9850a05281d0efc40dbda0b1d171e3f6bfb4022bf75f22b94", checked := Yba.checked }
namespace Rows
def none {H : Type} : Left H := { results := [], args := [] }

/-- 'quorum.LawS5163BExact': WHATEVER THE INPUT: true; the input reads as it did. -/
def lawS5163BExactSpec : ChangeSpec := { name := "lawS5163BExact", fn := fun _ => fun
  | [d1, d2, d3, d4, d5, d6] => { results := [.lit (.bool true)], args := [d1, d2, d3, d4, d5, d6] }
  | _ => none }
def lawS5163BExactRow : OpenClaim := { program := "ybulkdbxc", sum := "85050a32557c20c9850a05281d0efc40dbda0b1d171e3f6bfb4022bf75f22b94", func := "example.com/tidewater/tidewater/internal/quorum.LawS5163BExact", spec := "lawS5163BExact", plainKeys := false, apart := false }
def LawS5163BExactSaid : Prop := lawS5163BExactRow.holds Yba.pinned (OpenSpec.ofChange lawS5163BExactSpec)

/-- ITS FALSE NEIGHBOUR: 'it returns false'. Refute it at one input. -/
def lawS5163BExactWrong : ChangeSpec := { name := "lawS5163BExact", fn := fun _ => fun
  | [d1, d2, d3, d4, d5, d6] => { results := [.lit (.bool false)], args := [d1, d2, d3, d4, d5, d6] }
  | _ => none }
def LawS5163BExactWrongFalsely : Prop := lawS5163BExactRow.holds Yba.pinned (OpenSpec.ofChange lawS5163BExactWrong)

/-- 'quorum.LawS5163BPreOneBefore': WHATEVER THE INPUT: true; the input reads as it did. -/
def lawS5163BPreOneBeforeSpec : ChangeSpec := { name := "lawS5163BPreOneBefore", fn := fun _ => fun
  | [d1, d2, d3, d4, d5, d6] => { results := [.lit (.bool true)], args := [d1, d2, d3, d4, d5, d6] }
  | _ => none }
def lawS5163BPreOneBeforeRow : OpenClaim := { program := "ybulkdbxc", sum := "85050a32557c20c9850a05281d0efc40dbda0b1d171e3f6bfb4022bf75f22b94", func := "example.com/tidewater/tidewater/internal/quorum.LawS5163BPreOneBefore", spec := "lawS5163BPreOneBefore", plainKeys := false, apart := false }
def LawS5163BPreOneBeforeSaid : Prop := lawS5163BPreOneBeforeRow.holds Yba.pinned (OpenSpec.ofChange lawS5163BPreOneBeforeSpec)

/-- ITS FALSE NEIGHBOUR: 'it returns false'. Refute it at one input. -/
def lawS5163BPreOneBeforeWrong : ChangeSpec := { name := "lawS5163BPreOneBefore", fn := fun _ => fun
  | [d1, d2, d3, d4, d5, d6] => { results := [.lit (.bool false)], args := [d1, d2, d3, d4, d5, d6] }
  | _ => none }
def LawS5163BPreOneBeforeWrongFalsely : Prop := lawS5163BPreOneBeforeRow.holds Yba.pinned (OpenSpec.ofChange lawS5163BPreOneBeforeWrong)

end Rows
end Go.Proofs.Ybulkdbxc
