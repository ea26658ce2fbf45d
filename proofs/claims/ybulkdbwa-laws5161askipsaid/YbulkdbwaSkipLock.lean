/-
  The numbers under which this dump holds the library's lock's functions and types, and that it holds them (the kit's MuLib); TryLock's contract, the lock free; giveWay's, at a lane that is not the lagging one.
-/
import Derived.Test.YbulkdbwaRows
import Derived.Conc.MuLone
import Derived.WalkKit
import Derived.WalkSpells
import Derived.LaidEqlPtr
namespace Go.Proofs.Ybulkdbwa
open Go.RowKit Go.MuLone
abbrev Yba.muLink : Go.Conc.Locks.MuLink := { lock := 22, unlock := 11, ilock := 31, iunlock := 19, lockSlow := 34, unlockSlow := 30, disable := 24, enable := 25, acquire := 27, relMerge := 28, cas32 := 26, add32 := 29, tMutex := 40, tIMutex := 38, tPMutex := 135, tPIMutex := 142, tPI32 := 138, tUP := 145, tNoCopy := 35, tU32 := 36 }
theorem Yba.muLib : Go.Conc.Locks.MuLib Yba.prog Yba.muLink :=
  ⟨Yba.func22, Yba.func11, Yba.func31, Yba.func19, Yba.func24, Yba.func25, Yba.func27, Yba.func28, Yba.func26, Yba.func29, Yba.underlying38, Yba.runUnderlying38, Yba.sizeOf38, Yba.isAgg38, Yba.zeroValue38, Yba.underlying40, Yba.runUnderlying40, Yba.sizeOf40, Yba.isAgg40, Yba.zeroValue40, Yba.underlying135, Yba.runUnderlying135, Yba.sizeOf135, Yba.isAgg135, Yba.zeroValue135, Yba.underlying142, Yba.runUnderlying142, Yba.sizeOf142, Yba.isAgg142, Yba.zeroValue142, Yba.underlying138, Yba.runUnderlying138, Yba.sizeOf138, Yba.isAgg138, Yba.zeroValue138, Yba.underlying145, Yba.runUnderlying145, Yba.sizeOf145, Yba.isAgg145, Yba.zeroValue145, Yba.underlying35, Yba.runUnderlying35, Yba.sizeOf35, Yba.isAgg35, Yba.zeroValue35, Yba.underlying21, Yba.runUnderlying21, Yba.sizeOf21, Yba.isAgg21, Yba.zeroValue21, (by kernel_rfl)⟩

theorem info38 : ∃ i, Yba.prog.info? 38 = some i ∧ i.size ≠ 0 := by
  have h : (Yba.prog.info? 38).map (fun i => decide (i.size = 0)) = some false := by kernel_rfl
  cases hj : Yba.prog.info? 38 with
  | none => rw [hj] at h; simp at h
  | some j => rw [hj] at h; exact ⟨j, rfl, by simpa using h⟩
/-- The lock's pointer as a raw pointer, where a cell stands at the address: the same address. -/
theorem conv_raw {a : Addr} {v : Value} {w : World} (hc : w.cell? a = some v) : (convert 142 145 (.pointer (some a))).run Yba.prog w = .ok (.pointer (some a)) w := by
  obtain ⟨e, n, hsh, hlt, hsp⟩ := World.shape?_of_cell? hc
  obtain ⟨i, hi, hz⟩ := info38
  have hge : ¬ (n ≤ a.off) := by omega
  simp only [convert, Sem.run_bind, run_underlying Yba.underlying142, run_underlying Yba.underlying145, Result.andThen_ok]
  change Sem.run Yba.prog (bind (underlying 142) _) w = _
  simp [run_underlying Yba.underlying142, run_underlying Yba.underlying145, Conv.seenAt, viewAt, cellsIn, sizeOf, typeInfo, hi, hz, hsh, hge]

set_option maxRecDepth 10000 in
set_option maxHeartbeats 800000 in
theorem itry_free (a : Addr) (w : World) (hc : w.cell? a = some (.int .i32 0)) (hz : w.frozen? a = false) :
    Calls Yba.prog 18 #[.pointer (some a)] w fun e w' => e = .returned (.bool true) ∧ w' = w.setCell a (.int .i32 1) := by
  have hd := disable Yba.muLib
  have he := enable Yba.muLib
  have ha := acquire Yba.muLib
  have hcas := run_call_cas_hit (P := Yba.prog) Yba.func26 (by kernel_rfl) (by kernel_rfl) (by kernel_rfl) .i32 (by kernel_rfl) (y := 1) hc hz
  have hc' : (w.setCell a (.int .i32 1)).cell? a = some (.int .i32 1) := by simp [go_sem, hc]
  have hcv := conv_raw hc'
  go_enter Yba.func18, Yba.ntmps18
  go_wp2
  go_ret
  exact ⟨rfl, rfl⟩

set_option maxRecDepth 10000 in
set_option maxHeartbeats 800000 in
theorem try_free (a : Addr) (w : World) (hc : w.cell? a = some (.int .i32 0)) (hz : w.frozen? a = false) :
    Calls Yba.prog 10 #[.pointer (some a)] w fun e w' => e = .returned (.bool true) ∧ w' = w.setCell a (.int .i32 1) := by
  go_enter Yba.func10, Yba.ntmps10
  go_wp2_with fail
  refine (itry_free a _ hc hz).mono ?_
  rintro e w' ⟨rfl, rfl⟩
  go_wp2_with fail
  go_ret
  exact ⟨rfl, rfl⟩

/-! ### '!=' between two pointers -/
theorem run_neq_ptr_same {P : Program} (w : World) {tp te : TypeId} {j : TypeInfo} (a : Addr) (hp : P.underlying tp = some (.pointer te)) (hte : P.info? te = some j) :
    (binOp .neq tp (.pointer (some a)) (.pointer (some a))).run P w = .ok (.bool false) w := by
  have h : ∀ d : Nat, (Op.equalIn (d + 1) tp (.pointer (some a)) (.pointer (some a))).run P w = .ok true w := fun d => by
    simp [Op.equalIn, run_underlying hp, sizeOf, typeInfo, hte, run_sameAddr_same]
  simp only [binOp]
  simp [Op.equal, Op.maxDepth, h 9999]

theorem run_neq_ptr_other {P : Program} (w : World) {tp te : TypeId} {j : TypeInfo} {a b : Addr} {ca cb : Array Value} {ta tb : TypeId} (hp : P.underlying tp = some (.pointer te)) (hte : P.info? te = some j) (hsz : j.size ≠ 0)
    (hne : a ≠ b) (ha : w.heap[a.block]? = some (.cells ca ta (0, 0))) (hb : w.heap[b.block]? = some (.cells cb tb (0, 0))) :
    (binOp .neq tp (.pointer (some a)) (.pointer (some b))).run P w = .ok (.bool true) w := by
  have h : ∀ d : Nat, (Op.equalIn (d + 1) tp (.pointer (some a)) (.pointer (some b))).run P w = .ok false w := fun d => by
    simp [Op.equalIn, run_underlying hp, sizeOf, typeInfo, hte, hsz, run_sameAddr_other w hne ha hb]
  simp only [binOp]
  simp [Op.equal, Op.maxDepth, h 9999]

theorem run_neq_nil_ptr {P : Program} (w : World) {tp te : TypeId} (q : Option Addr) (hp : P.underlying tp = some (.pointer te)) :
    (binOp .neq tp (.pointer none) (.pointer q)).run P w = .ok (.bool (!q.isNone)) w := by
  have h : ∀ d : Nat, (Op.equalIn (d + 1) tp (.pointer none) (.pointer q)).run P w = .ok q.isNone w := fun d => by
    cases q <;> simp [Op.equalIn, run_underlying hp]
  simp only [binOp]
  simp [Op.equal, Op.maxDepth, h 9999]

theorem info91 : ∃ j, Yba.prog.info? 91 = some j ∧ j.size ≠ 0 := by
  have h : (Yba.prog.info? 91).map (fun i => decide (i.size = 0)) = some false := by kernel_rfl
  cases hj : Yba.prog.info? 91 with
  | none => rw [hj] at h; simp at h
  | some j => rw [hj] at h; exact ⟨j, rfl, by simpa using h⟩

set_option maxRecDepth 10000 in
set_option maxHeartbeats 800000 in
/-- A lane that is not the hub's lagging one: giveWay returns at once. -/
theorem giveWay_skip (b : Nat) (p q : Option Addr) (w : World) (h : w.cell? ⟨b, 27, none⟩ = some (.pointer q)) (hne : (binOp .neq 23 (.pointer p) (.pointer q)).run Yba.prog w = .ok (.bool true) w) :
    Calls Yba.prog 9 #[.pointer (some ⟨b, 0, none⟩), .pointer p] w fun e w' => e = .returned (.tuple #[]) ∧ w' = w := by
  go_enter Yba.func9, Yba.ntmps9
  go_wp2
  refine bodyPost_ret (results_none rfl _ _ _) rfl ?_
  exact ⟨rfl, rfl⟩

end Go.Proofs.Ybulkdbwa
