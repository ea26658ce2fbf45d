/-
  newLane and newHubTurns: the contracts: new lanes in blocks of their own, nothing old turned.
-/
import Derived.Test.YbulkdbwaRows
import Derived.WalkKit
import Derived.WalkSpells
import Derived.RegionTactic
import Derived.ChangeAlike
import Derived.Below
import Derived.Laws.Rows
namespace Go.Proofs.Ybulkdbwa
open Go.RowKit

theorem mkchan (w : World) : (Instr.makeChan 64 (.int .i64 1)).run Yba.prog w = .ok (.chan (some w.heap.size)) (w.alloc (.chan 1 #[] false 0 0 false)) := by kernel_rfl

set_option maxRecDepth 10000 in
set_option maxHeartbeats 400000 in
theorem newLane_any (i : Int) (w : World) :
    Calls Yba.prog 8 #[.int .i64 i] w fun e w' => ∃ b C, e = .returned (.pointer (some ⟨b, 0, none⟩)) ∧ w.heap.size ≤ b ∧ b < w'.heap.size ∧ w'.heap[b]? = some (.cells C 91 (0, 0)) ∧ Below w.heap.size w w' := by
  have hmk := mkchan
  go_enter Yba.func8, Yba.ntmps8
  go_wp2
  go_region
  all_goals
    go_wp2
    go_ret
    refine ⟨_, _, rfl, by omega, by simp, (by rw [heap_drew]; rw [show w.heap.size + 1 + 1 = ((w.alloc (.chan 1 #[] false 0 0 false)).alloc (.chan 1 #[] false 0 0 false)).heap.size from by simp]; exact heap_alloc_new _ _), ?_⟩
    exact Below.drew ((((Below.refl _ _).alloc (Nat.le_refl _) _).alloc (by simp) _).alloc (by simp; omega) _)

theorem below_setRow {B : Nat} {w u : World} (h : Below B w u) {g : Nat} (hg : B ≤ g) (cs : Array Value) : Below B w (u.setRow g cs) :=
  h.trans ⟨rfl, rfl, rfl, by simp, fun k hk => by
    simp only [World.setRow, Array.getElem?_modify]
    rw [if_neg (by omega)]⟩

set_option maxRecDepth 10000 in
set_option maxHeartbeats 400000 in
theorem newHubTurns_any (w : World) :
    Calls Yba.prog 7 #[] w fun e w' => ∃ k l C, e = .returned (.agg #[.pointer (some ⟨k, 0, none⟩), .pointer (some ⟨l, 0, none⟩), .int .i64 0, .int .u64 0, .int .i64 0, .pointer none, .int .u64 0, .int .i64 0, .pointer none, .int .i64 0, .float .f64 0, .bool false, .int .u64 0, .int .i64 0, .pointer none, .int .i64 0, .float .f64 0, .int .i64 0, .bool false, .int .i64 0, .int .i64 0, .float .f64 0, .int .i32 0, .int .u32 0, .int .u64 0, .int .i64 0, .pointer none, .float .f64 0, .int .i64 0, .int .i64 0]) ∧ w.heap.size ≤ k ∧ k < l ∧ l < w'.heap.size ∧ w'.heap[l]? = some (.cells C 91 (0, 0)) ∧ Below w.heap.size w w' := by
  go_enter Yba.func7, Yba.ntmps7
  go_wp2_with fail
  refine (newLane_any _ _).mono ?_
  rintro e w1 ⟨k, C1, rfl, hk1, hk2, _, hb1⟩
  have hs1 : w.heap.size < w1.heap.size := by have := hb1.size; simp at this; omega
  obtain ⟨Z, hZ1, hZs⟩ : ∃ Z, w1.heap[w.heap.size]? = some (.cells Z 44 (0, 0)) ∧ Z.size = 30 := ⟨_, (hb1.block _ (by simp)).trans (heap_alloc_new _ _), rfl⟩
  have hbel1 : Below w.heap.size w w1 := ((Below.refl _ _).alloc (Nat.le_refl _) _).trans (hb1.mono (by simp))
  have hk1' : w.heap.size < k := by simp at hk1; omega
  clear hb1 hk1
  go_wp2_with fail
  refine (newLane_any _ _).mono ?_
  rintro e w2 ⟨l, C2, rfl, hl1, hl2, hC2, hb2⟩
  have hZ2 := (hb2.block _ hs1).trans hZ1
  have hbel2 : Below w.heap.size w w2 := hbel1.trans (hb2.mono (Nat.le_of_lt hs1))
  clear hb2 hZ1 hbel1
  go_wp2_with (refine wpList_store_row rfl 44 _ _ rfl w.heap.size _ rfl rfl 44 Z hZ2 ?hi ?ho ?h1 ?_)
  case hi => kernel_rfl
  case ho => rw [hZs]; rfl
  case h1 => kernel_rfl
  refine bodyPost_ret (v := .agg _) (results_cell_row rfl _ _ w.heap.size 44 _ (0, 0) _ rfl (setRow_heap _ _ _ _ _ _ hZ2) Yba.underlying44 rfl (by kernel_rfl)) rfl ⟨k, l, C2, rfl, by omega, by omega, by simpa using hl2, (by simp only [World.setRow, Array.getElem?_modify]; rw [if_neg (by omega)]; exact hC2), below_setRow hbel2 (Nat.le_refl _) _⟩

end Go.Proofs.Ybulkdbwa
