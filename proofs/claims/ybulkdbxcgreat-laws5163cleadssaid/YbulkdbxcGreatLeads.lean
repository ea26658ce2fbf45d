/-
  atomic.Pointer's Load and Store, Status.Leads, Cluster.leadingTerm: their contracts.
-/
import Derived.Test.YbulkdbxcGreatRows
import Derived.Laws.LoneSync
import Derived.Lib.Builder
import Derived.WalkKit
import Derived.WalkSpells
import Derived.Below
import Derived.Deep.RegionWith
import Derived.Laws.Rows
namespace Go.Proofs.YbulkdbxcGreat
open Go.RowKit

section
variable {P : Program} {f : FuncId} {fn : Func}
/-- sync/atomic.LoadPointer: what the cell holds. -/
theorem run_call_load_ptr (hf : P.funcs[f]? = some fn) (hname : (fn.name == "runtime.NumGoroutine") = false) (hb : fn.body.isNone = true) (hn : Extern.findNext fn = none)
    (he : Extern.find fn = some (Extern.Atomic.loadT .ptr)) {a : Addr} {p : Option Addr} {w : World} (hc : w.cell? a = some (.pointer p)) :
    (callFunc f #[.pointer (some a)]).run P w = .ok (.value (.pointer p)) w := by
  rw [run_callFunc_extern hf hname hb hn he]
  change (Sem.run P (do Extern.Atomic.read .ptr (← asAddr (.pointer (some a)))) w).andThen _ = _
  simp [Extern.Atomic.read, asAddr, hc, Result.andThen]
/-- sync/atomic.StorePointer: the pointer is stored. -/
theorem run_call_store_ptr (hf : P.funcs[f]? = some fn) (hname : (fn.name == "runtime.NumGoroutine") = false) (hb : fn.body.isNone = true) (hn : Extern.findNext fn = none)
    (he : Extern.find fn = some Extern.Atomic.storeT) {a : Addr} {p : Option Addr} {u : Value} {w : World} (hc : w.cell? a = some u) (hz : w.frozen? a = false) :
    (callFunc f #[.pointer (some a), .pointer p]).run P w = .ok (.value (.tuple #[])) (w.setCell a (.pointer p)) := by
  rw [run_callFunc_extern hf hname hb hn he]
  change (Sem.run P (do
    store (← asAddr (.pointer (some a))) (.pointer p) .atomic
    pure Extern.Atomic.none_) w).andThen _ = _
  simp [asAddr, hc, hz, run_store P w a (.pointer p) .atomic rfl, Result.andThen, Extern.Atomic.none_]
end

theorem info59 : ∃ j, Ybaz.prog.info? 59 = some j ∧ j.size ≠ 0 := by
  have h : (Ybaz.prog.info? 59).map (fun i => decide (i.size = 0)) = some false := by kernel_rfl
  cases hj : Ybaz.prog.info? 59 with
  | none => rw [hj] at h; simp at h
  | some j => rw [hj] at h; exact ⟨j, rfl, by simpa using h⟩
theorem lies59 : liesAt Ybaz.prog Ybaz.prog.depth 59 (6 / Ybaz.prog.cellsOf 59) 0 59 1 = true := by kernel_rfl

theorem conv_back {t : Nat} {C : Array Value} {w : World} (hC : w.heap[t]? = some (.cells C 59 (0, 0))) (hs : C.size = 6) :
    (convert 46 42 (.pointer (some ⟨t, 0, none⟩))).run Ybaz.prog w = .ok (.pointer (some ⟨t, 0, none⟩)) w := by
  obtain ⟨j, hj, hz⟩ := info59
  have hsh : w.shape? t = some (59, 6) := by simp [World.shape?, hC, hs]
  have hl := lies59
  simp only [convert, Sem.run_bind, run_underlying Ybaz.underlying46, run_underlying Ybaz.underlying42, Result.andThen_ok]
  change Sem.run Ybaz.prog (bind (underlying 46) _) w = _
  simp [run_underlying Ybaz.underlying46, run_underlying Ybaz.underlying42, Conv.seenAt, viewAt, hsh, variablesAt, hl, sizeOf, typeInfo, hj]

theorem conv_nil (w : World) : (convert 46 42 (.pointer none)).run Ybaz.prog w = .ok (.pointer none) w := by
  simp only [convert, Sem.run_bind, run_underlying Ybaz.underlying46, run_underlying Ybaz.underlying42, Result.andThen_ok]
  change Sem.run Ybaz.prog (bind (underlying 46) _) w = _
  simp [run_underlying Ybaz.underlying46, run_underlying Ybaz.underlying42]

theorem conv_to {t : Nat} {C : Array Value} {w : World} (hC : w.heap[t]? = some (.cells C 59 (0, 0))) (hs : C.size = 6) :
    (convert 42 46 (.pointer (some ⟨t, 0, none⟩))).run Ybaz.prog w = .ok (.pointer (some ⟨t, 0, none⟩)) w := by
  obtain ⟨j, hj, hz⟩ := info59
  have hsh : w.shape? t = some (59, 6) := by simp [World.shape?, hC, hs]
  simp only [convert, Sem.run_bind, run_underlying Ybaz.underlying46, run_underlying Ybaz.underlying42, Result.andThen_ok]
  change Sem.run Ybaz.prog (bind (underlying 42) _) w = _
  simp [run_underlying Ybaz.underlying46, run_underlying Ybaz.underlying42, Conv.seenAt, viewAt, cellsIn, hsh, sizeOf, typeInfo, hj, hz]

set_option maxRecDepth 10000 in
set_option maxHeartbeats 400000 in
theorem load_any (c : Nat) (p : Option Addr) (w : World) (hc : w.cell? ⟨c, 27, none⟩ = some (.pointer p)) (hconv : (convert 46 42 (.pointer p)).run Ybaz.prog w = .ok (.pointer p) w) :
    Calls Ybaz.prog 6 #[.pointer (some ⟨c, 27, none⟩)] w fun e w' => e = .returned (.pointer p) ∧ w' = w := by
  have hl := run_call_load_ptr (P := Ybaz.prog) Ybaz.func9 (by kernel_rfl) (by kernel_rfl) (by kernel_rfl) (by kernel_rfl) hc
  go_enter Ybaz.func6, Ybaz.ntmps6
  go_wp2
  go_ret
  exact ⟨rfl, rfl⟩

set_option maxRecDepth 10000 in
set_option maxHeartbeats 400000 in
theorem store_any (c : Nat) (p : Option Addr) (u : Value) (w : World) (hc : w.cell? ⟨c, 27, none⟩ = some u) (hz : w.frozen? ⟨c, 27, none⟩ = false) (hconv : (convert 42 46 (.pointer p)).run Ybaz.prog w = .ok (.pointer p) w) :
    Calls Ybaz.prog 4 #[.pointer (some ⟨c, 27, none⟩), .pointer p] w fun e w' => e = .returned (.tuple #[]) ∧ w' = w.setCell ⟨c, 27, none⟩ (.pointer p) := by
  have hl := run_call_store_ptr (P := Ybaz.prog) Ybaz.func7 (by kernel_rfl) (by kernel_rfl) (by kernel_rfl) (by kernel_rfl) (p := p) hc hz
  go_enter Ybaz.func4, Ybaz.ntmps4
  go_wp2
  go_end0
  exact ⟨rfl, rfl⟩

set_option maxRecDepth 10000 in
set_option maxHeartbeats 400000 in
theorem leads_any (st n : Int) (ld : ByteArray) (lg : Bool) (w : World) :
    Calls Ybaz.prog 8 #[.agg #[.int .u64 st, .string ld, .bool lg], .int .u64 n] w fun e w' => e = .returned (.bool (lg && (st == n))) ∧ Below w.heap.size w w' := by
  cases lg
  all_goals
    go_enter Ybaz.func8, Ybaz.ntmps8
    go_wp2
    go_ret
    exact ⟨by simp, (Below.refl _ _).alloc (Nat.le_refl _) _⟩

set_option maxRecDepth 10000 in
set_option maxHeartbeats 400000 in
theorem leading_nil (c : Nat) (st : Int) (ld : ByteArray) (lg : Bool) (w : World) (hc : w.cell? ⟨c, 27, none⟩ = some (.pointer none)) :
    Calls Ybaz.prog 5 #[.pointer (some ⟨c, 0, none⟩), .agg #[.int .u64 st, .string ld, .bool lg]] w fun e w' => e = .returned (.pointer none) ∧ Below w.heap.size w w' := by
  have hlt := World.block_lt_of_cell? _ _ hc
  go_enter Ybaz.func5, Ybaz.ntmps5
  go_wp2_with fail
  refine (load_any _ none _ ?_ (conv_nil _)).mono ?_
  · exact (World.cell?_alloc_past _ _ _ hlt).trans hc
  rintro e w1 ⟨rfl, rfl⟩
  go_wp2_with fail
  go_region
  go_wp2
  go_ret
  exact ⟨rfl, Below.drew ((Below.refl _ _).alloc (Nat.le_refl _) _)⟩

set_option maxRecDepth 10000 in
set_option maxHeartbeats 400000 in
theorem leading_some (c t : Nat) (C : Array Value) (n st : Int) (ld : ByteArray) (lg : Bool) (w : World) (hc : w.cell? ⟨c, 27, none⟩ = some (.pointer (some ⟨t, 0, none⟩)))
    (hC : w.heap[t]? = some (.cells C 59 (0, 0))) (hs : C.size = 6) (hn : w.cell? ⟨t, 0, none⟩ = some (.int .u64 n)) (g : Bool) (HG : Hid ((lg && (st == n)) = g)) :
    Calls Ybaz.prog 5 #[.pointer (some ⟨c, 0, none⟩), .agg #[.int .u64 st, .string ld, .bool lg]] w fun e w' => e = .returned (.pointer (if g = true then some ⟨t, 0, none⟩ else none)) ∧ Below w.heap.size w w' := by
  have hlt := World.block_lt_of_cell? _ _ hc
  have htl := World.block_lt_of_cell? _ _ hn
  go_enter Ybaz.func5, Ybaz.ntmps5
  go_wp2_with fail
  refine (load_any _ _ _ ?_ (conv_back (t := t) (C := C) ?_ hs)).mono ?_
  · exact (World.cell?_alloc_past _ _ _ hlt).trans hc
  · exact (Below.heap_alloc _ _ _ htl).trans hC
  rintro e w1 ⟨rfl, rfl⟩
  go_wp2_with fail
  cases g
  all_goals
    go_region_with (go_at_call 8; refine (leads_any _ _ _ _ _).mono ?_; rw [HG.out]; rintro e w1 ⟨rfl, hb1⟩)
  all_goals
    go_wp2
    go_ret
    exact ⟨rfl, (((Below.refl w.heap.size w).alloc (Nat.le_refl _) _).drew).trans (hb1.mono (by simp))⟩

end Go.Proofs.YbulkdbxcGreat
