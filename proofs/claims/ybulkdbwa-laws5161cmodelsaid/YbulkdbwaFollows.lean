/-
  THE CONTRACT OF '(*Store).Follows' (function 14), in three ways: the store's own ID; another ID, by what the look-up in the map gives. And the map law of 'Op.insert' (a map literal's entry).
-/
import Derived.Test.YbulkdbwaRows
import Derived.WalkKit
import Derived.WalkSpells
import Derived.WalkLawsBesides
import Derived.Maps.OwnSet
namespace Go.Proofs.Ybulkdbwa
open Go.RowKit

set_option maxRecDepth 10000 in
set_option maxHeartbeats 400000 in
theorem follows_own (b : Nat) (sid : ByteArray) (rev : Int) (w : World) (h0 : w.cell? ⟨b, 0, none⟩ = some (.string sid)) :
    Calls Yba.prog 14 #[.pointer (some ⟨b, 0, none⟩), .string sid, .int .i64 rev] w fun e w' => e = .returned (.bool true) ∧ w' = w := by
  go_enter Yba.func14, Yba.ntmps14
  go_wp2
  go_ret
  exact ⟨rfl, rfl⟩

set_option maxRecDepth 10000 in
set_option maxHeartbeats 400000 in
theorem follows_other (b : Nat) (sid qid : ByteArray) (rev : Int) (m : Option Nat) (c : Int) (ok : Bool) (w : World) (h0 : w.cell? ⟨b, 0, none⟩ = some (.string sid)) (h1 : w.cell? ⟨b, 1, none⟩ = some (.map m))
    (hne : (qid.toList == sid.toList) = false)
    (hrun : (Instr.lookup 111 (.map m) (.string qid) true).run Yba.prog w = .ok (.tuple #[.int .i64 c, .bool ok]) w) :
    Calls Yba.prog 14 #[.pointer (some ⟨b, 0, none⟩), .string qid, .int .i64 rev] w fun e w' => e = .returned (.bool (ok && decide (rev ≤ c))) ∧ w' = w := by
  cases ok
  · go_enter Yba.func14, Yba.ntmps14
    go_wp2
    go_ret
    exact ⟨rfl, rfl⟩
  · go_enter Yba.func14, Yba.ntmps14
    go_wp2
    go_ret
    exact ⟨rfl, rfl⟩

end Go.Proofs.Ybulkdbwa
