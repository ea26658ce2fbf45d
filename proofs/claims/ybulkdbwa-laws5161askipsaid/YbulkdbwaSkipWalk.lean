/-
  THE LAW's WALK (function 3), by the three ways of its switch.
-/
import Derived.Test.YbulkdbwaSkipLane
import Derived.Test.YbulkdbwaSkipLock
namespace Go.Proofs.Ybulkdbwa
open Go.RowKit Go.MuLone

theorem neq_same (a : Addr) (w : World) : (binOp .neq 23 (.pointer (some a)) (.pointer (some a))).run Yba.prog w = .ok (.bool false) w := by
  obtain ⟨j, hj, _⟩ := info91
  exact run_neq_ptr_same w a Yba.underlying23 hj
theorem neq_other {a b : Nat} {w : World} {ca cb : Array Value} (hne : a ≠ b) (ha : w.heap[a]? = some (.cells ca 91 (0, 0))) (hb : w.heap[b]? = some (.cells cb 91 (0, 0))) :
    (binOp .neq 23 (.pointer (some ⟨a, 0, none⟩)) (.pointer (some ⟨b, 0, none⟩))).run Yba.prog w = .ok (.bool true) w := by
  obtain ⟨j, hj, hs⟩ := info91
  exact run_neq_ptr_other w (a := ⟨a, 0, none⟩) (b := ⟨b, 0, none⟩) Yba.underlying23 hj hs (fun e => hne (congrArg Addr.block e)) ha hb
theorem neq_nil (a : Addr) (w : World) : (binOp .neq 23 (.pointer none) (.pointer (some a))).run Yba.prog w = .ok (.bool true) w := by
  exact run_neq_nil_ptr w (some a) Yba.underlying23

set_option maxRecDepth 10000 in
set_option maxHeartbeats 800000 in
theorem skip_0 (a0 : Int) (h0 : 0 ≤ a0) (h1 : a0 ≤ 255) (hm : (a0 % 3 == 0) = true) (w : World) :
    Calls Yba.prog 3 #[.int .u8 a0] w fun e w' => e = .returned (.bool true) ∧ Below w.heap.size w w' := by
  have hsame := neq_same
  go_enter Yba.func3, Yba.ntmps3
  go_wp2_with fail
  refine (newHubTurns_any _).mono ?_
  rintro e w1 ⟨k, l, C, rfl, hk, hkl, hl, hC, hb⟩
  go_wp2_with fail
  generalize hW : w1.alloc _ = W1
  have hH : w.heap.size ≤ w1.heap.size := hb.size
  have c4 : W1.cell? ⟨w1.heap.size, 4, none⟩ = some (.int .i32 0) := by subst hW; simp [World.cell?_alloc_new]; kernel_rfl
  have c26 : W1.cell? ⟨w1.heap.size, 26, none⟩ = some (.pointer none) := by subst hW; simp [World.cell?_alloc_new]
  have c27 : W1.cell? ⟨w1.heap.size, 27, none⟩ = some (.pointer (some ⟨l, 0, none⟩)) := by subst hW; simp [World.cell?_alloc_new]
  have f4 : W1.frozen? ⟨w1.heap.size, 4, none⟩ = false := by subst hW; exact frozen_of_row _ _ _ _ _ (heap_alloc_new _ _)
  have hC1 : W1.heap[l]? = some (.cells C 91 (0, 0)) := by subst hW; exact (Below.heap_alloc _ _ _ hl).trans hC
  have hb1 : Below w.heap.size w W1 := by subst hW; exact hb.alloc hb.size _
  clear hW hb hC
  refine (giveWay_skip _ _ _ _ c27 (neq_nil _ _)).mono ?_
  rintro e w' ⟨rfl, rfl⟩
  go_wp2_with fail
  refine (try_free _ _ c4 f4).mono ?_
  rintro e w' ⟨rfl, rfl⟩
  have c4' := World.cell?_setCell_same w' ⟨w1.heap.size, 4, none⟩ (.int .i32 1) c4
  go_wp2_with fail
  refine (unlock_held Yba.muLib _ _ c4' (by simp [f4])).mono ?_
  rintro e w'' ⟨rfl, rfl⟩
  go_wp2_with fail
  go_ret
  exact ⟨rfl, (hb1.setCell (p := ⟨w1.heap.size, 4, none⟩) hH _).setCell (p := ⟨w1.heap.size, 4, none⟩) hH _⟩

set_option maxRecDepth 10000 in
set_option maxHeartbeats 800000 in
theorem skip_new (a0 : Int) (h0 : 0 ≤ a0) (h1 : a0 ≤ 255) (hm0 : (a0 % 3 == 0) = false) (hm : (a0 % 3 == 1) = true ∨ (a0 % 3 == 1) = false) (w : World) :
    Calls Yba.prog 3 #[.int .u8 a0] w fun e w' => e = .returned (.bool true) ∧ Below w.heap.size w w' := by
  have hsame := neq_same
  rcases hm with hm | hm
  all_goals
    go_enter Yba.func3, Yba.ntmps3
    go_wp2_with fail
    refine (newHubTurns_any _).mono ?_
    rintro e w1 ⟨k, l, C, rfl, hk, hkl, hl, hC, hb⟩
    go_wp2_with fail
    generalize hW : w1.alloc _ = W1
    have hH : w.heap.size ≤ w1.heap.size := hb.size
    have hHW : w1.heap.size < W1.heap.size := by subst hW; simp
    have c4 : W1.cell? ⟨w1.heap.size, 4, none⟩ = some (.int .i32 0) := by subst hW; simp [World.cell?_alloc_new]; kernel_rfl
    have c26 : W1.cell? ⟨w1.heap.size, 26, none⟩ = some (.pointer none) := by subst hW; simp [World.cell?_alloc_new]
    have c27 : W1.cell? ⟨w1.heap.size, 27, none⟩ = some (.pointer (some ⟨l, 0, none⟩)) := by subst hW; simp [World.cell?_alloc_new]
    have f4 : W1.frozen? ⟨w1.heap.size, 4, none⟩ = false := by subst hW; exact frozen_of_row _ _ _ _ _ (heap_alloc_new _ _)
    have hC1 : W1.heap[l]? = some (.cells C 91 (0, 0)) := by subst hW; exact (Below.heap_alloc _ _ _ hl).trans hC
    have hb1 : Below w.heap.size w W1 := by subst hW; exact hb.alloc hb.size _
    clear hW hb hC
    refine (newLane_any _ _).mono ?_
    rintro e w2 ⟨n, D, rfl, hn1, hn2, hD, hb2⟩
    have d4 := (hb2.cell (p := ⟨w1.heap.size, 4, none⟩) hHW).trans c4
    have d26 := (hb2.cell (p := ⟨w1.heap.size, 26, none⟩) hHW).trans c26
    have d27 := (hb2.cell (p := ⟨w1.heap.size, 27, none⟩) hHW).trans c27
    have g4 := (hb2.frozen (p := ⟨w1.heap.size, 4, none⟩) hHW).trans f4
    have hC2 := (hb2.block l (by omega)).trans hC1
    have hb3 : Below w.heap.size w w2 := hb1.trans (hb2.mono hb1.size)
    clear c4 c26 c27 f4 hC1 hb1 hb2
    go_wp2_with fail
    refine (giveWay_skip _ _ _ _ d27 (neq_other (by omega) hD hC2)).mono ?_
    rintro e w' ⟨rfl, rfl⟩
    clear hD hC2
    go_wp2_with fail
    refine (try_free _ _ d4 g4).mono ?_
    rintro e w' ⟨rfl, rfl⟩
    have d4' := World.cell?_setCell_same w' ⟨w1.heap.size, 4, none⟩ (.int .i32 1) d4
    go_wp2_with fail
    refine (unlock_held Yba.muLib _ _ d4' (by simp [g4])).mono ?_
    rintro e w'' ⟨rfl, rfl⟩
    go_wp2_with fail
    go_ret
    exact ⟨rfl, (hb3.setCell (p := ⟨w1.heap.size, 4, none⟩) hH _).setCell (p := ⟨w1.heap.size, 4, none⟩) hH _⟩

end Go.Proofs.Ybulkdbwa
