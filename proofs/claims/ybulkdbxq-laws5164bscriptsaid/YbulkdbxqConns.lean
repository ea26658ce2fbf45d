/-
  The numbers under which this dump holds the library's lock's functions and types, and that it holds them (the kit's MuLib); Close's and add's contracts.
-/
import Derived.Test.YbulkdbxqRows
import Derived.Conc.MuLone
import Derived.WalkKit
import Derived.WalkSpells
import Derived.Below
import Derived.Laws.Rows
import Derived.Deep.AppendLies
namespace Go.Proofs.Ybulkdbxq
open Go.RowKit Go.MuLone
abbrev Yba.muLink : Go.Conc.Locks.MuLink := { lock := 7, unlock := 8, ilock := 9, iunlock := 10, lockSlow := 15, unlockSlow := 18, disable := 11, enable := 13, acquire := 14, relMerge := 16, cas32 := 12, add32 := 17, tMutex := 31, tIMutex := 29, tPMutex := 48, tPIMutex := 49, tPI32 := 51, tUP := 53, tNoCopy := 26, tU32 := 27 }
theorem Yba.muLib : Go.Conc.Locks.MuLib Yba.prog Yba.muLink :=
  ⟨Yba.func7, Yba.func8, Yba.func9, Yba.func10, Yba.func11, Yba.func13, Yba.func14, Yba.func16, Yba.func12, Yba.func17, Yba.underlying29, Yba.runUnderlying29, Yba.sizeOf29, Yba.isAgg29, Yba.zeroValue29, Yba.underlying31, Yba.runUnderlying31, Yba.sizeOf31, Yba.isAgg31, Yba.zeroValue31, Yba.underlying48, Yba.runUnderlying48, Yba.sizeOf48, Yba.isAgg48, Yba.zeroValue48, Yba.underlying49, Yba.runUnderlying49, Yba.sizeOf49, Yba.isAgg49, Yba.zeroValue49, Yba.underlying51, Yba.runUnderlying51, Yba.sizeOf51, Yba.isAgg51, Yba.zeroValue51, Yba.underlying53, Yba.runUnderlying53, Yba.sizeOf53, Yba.isAgg53, Yba.zeroValue53, Yba.underlying26, Yba.runUnderlying26, Yba.sizeOf26, Yba.isAgg26, Yba.zeroValue26, Yba.underlying21, Yba.runUnderlying21, Yba.sizeOf21, Yba.isAgg21, Yba.zeroValue21, (by kernel_rfl)⟩

set_option maxRecDepth 10000 in
set_option maxHeartbeats 400000 in
theorem close_any (p : Nat) (k : Int) (h0 : 0 ≤ k) (h1 : k ≤ 1000000) (w : World) (c1 : w.cell? ⟨p, 1, none⟩ = some (.int .i64 k)) (f1 : w.frozen? ⟨p, 1, none⟩ = false) :
    Calls Yba.prog 41 #[.pointer (some ⟨p, 0, none⟩)] w fun e w' => e = .returned .nilIface ∧ w' = w.setCell ⟨p, 1, none⟩ (.int .i64 (k + 1)) := by
  go_enter Yba.func41, Yba.ntmps41
  go_wp2
  go_ret
  exact ⟨rfl, rfl⟩

theorem method_close (a : Addr) (w : World) : (method 195 35 (.pointer (some a)) "Close").run Yba.prog w = .ok (41, .pointer (some a)) w := by kernel_rfl

set_option maxRecDepth 10000 in
set_option maxHeartbeats 400000 in
theorem add_closed (c p : Nat) (k : Int) (h0 : 0 ≤ k) (h1 : k ≤ 1000000) (w : World)
    (c0 : w.cell? ⟨c, 0, none⟩ = some (.int .i32 0)) (c3 : w.cell? ⟨c, 3, none⟩ = some (.bool true)) (f0 : w.frozen? ⟨c, 0, none⟩ = false)
    (p1 : w.cell? ⟨p, 1, none⟩ = some (.int .i64 k)) (g1 : w.frozen? ⟨p, 1, none⟩ = false) :
    Calls Yba.prog 5 #[.pointer (some ⟨c, 0, none⟩), .iface 35 (.pointer (some ⟨p, 0, none⟩))] w fun e w' => e = .returned (.bool false) ∧
      w' = ((w.setCell ⟨c, 0, none⟩ (.int .i32 1)).setCell ⟨p, 1, none⟩ (.int .i64 (k + 1))).setCell ⟨c, 0, none⟩ (.int .i32 0) := by
  have hm := method_close
  have p1' : (w.setCell ⟨c, 0, none⟩ (.int .i32 1)).cell? ⟨p, 1, none⟩ = some (.int .i64 k) := (World.cell?_setCell_other _ ⟨c, 0, none⟩ ⟨p, 1, none⟩ _ (by simp)).trans p1
  have g1' : (w.setCell ⟨c, 0, none⟩ (.int .i32 1)).frozen? ⟨p, 1, none⟩ = false := by simp [g1]
  go_enter_defers Yba.func5, Yba.ntmps5
  go_wp2_with (go_at_call 7; refine (lock_free Yba.muLib ⟨c, 0, none⟩ _ c0 f0).mono ?_; rintro e w' ⟨rfl, rfl⟩)
  refine (close_any p k h0 h1 _ p1' g1').mono ?_
  rintro e w' ⟨rfl, rfl⟩
  go_wp2_with fail
  refine leaves_cons (f := 8) (args := #[.pointer (some ⟨c, 0, none⟩)]) (by simp) (by simp [go_sem]) ?_
  refine (unlock_deferred Yba.muLib ⟨c, 0, none⟩ .returning _ ?_ ?_).mono ?_
  · exact (World.cell?_setCell_other _ ⟨p, 1, none⟩ ⟨c, 0, none⟩ _ (by simp)).trans (World.cell?_setCell_same w ⟨c, 0, none⟩ (.int .i32 1) c0)
  · simp [f0]
  rintro e u' w'' ⟨rfl, rfl, rfl⟩
  exact ⟨_, results_tmp rfl _ _ _, rfl, rfl⟩


theorem info37 : (Yba.prog.info? 37).map (fun i => (i.zero, i.size, i.bytes)) = some (some .nilIface, 1, 16) := by kernel_rfl

theorem grownBy_setCell (w : World) (a : Addr) (v : Value) : w.grownBy (w.setCell a v) (some a.block) :=
  ⟨rfl, rfl, rfl, by simp [World.setCell], fun k _ hk => Below.heap_setCell w a v k (fun e => hk (by rw [e]))⟩

set_option maxRecDepth 10000 in
set_option maxHeartbeats 400000 in
theorem add_open (c p base : Nat) (ov : Value) (n : Nat) (xs : List Value) (w : World)
    (c0 : w.cell? ⟨c, 0, none⟩ = some (.int .i32 0)) (c2 : w.cell? ⟨c, 2, none⟩ = some ov) (c3 : w.cell? ⟨c, 3, none⟩ = some (.bool false)) (f0 : w.frozen? ⟨c, 0, none⟩ = false) (f2 : w.frozen? ⟨c, 2, none⟩ = false)
    (hown : w.ownsRow base 37 1 ov n xs) (hoc : ov.ownBlock ≠ some c) (hbase : base ≤ w.heap.size) (hn : n ≤ 1024) :
    Calls Yba.prog 5 #[.pointer (some ⟨c, 0, none⟩), .iface 35 (.pointer (some ⟨p, 0, none⟩))] w fun e w' => e = .returned (.bool true) ∧
      ∃ g cap w1, w' = (w1.setCell ⟨c, 2, none⟩ (.slice (some ⟨g, 0, none⟩) (n + 1) cap)).setCell ⟨c, 0, none⟩ (.int .i32 0) ∧
        w1.ownsRow base 37 1 (.slice (some ⟨g, 0, none⟩) (n + 1) cap) (n + 1) (xs ++ [.iface 35 (.pointer (some ⟨p, 0, none⟩))]) ∧
        ((w.setCell ⟨c, 0, none⟩ (.int .i32 1)).alloc (.cells #[.iface 35 (.pointer (some ⟨p, 0, none⟩))] 37)).grownBy w1 ov.ownBlock ∧ (ov.ownBlock = some g ∨ g = w.heap.size + 1) ∧ g < w1.heap.size := by
  obtain ⟨i0, hi0, hz0, hz1, hz2⟩ := info_parts info37
  have hlt := World.block_lt_of_cell? _ _ c0
  have hown1 : (w.setCell ⟨c, 0, none⟩ (.int .i32 1)).ownsRow base 37 1 ov n xs := hown.kept (grownBy_setCell w ⟨c, 0, none⟩ _) (Or.inr hoc)
  have c2' : (w.setCell ⟨c, 0, none⟩ (.int .i32 1)).cell? ⟨c, 2, none⟩ = some ov := (World.cell?_setCell_other _ ⟨c, 0, none⟩ ⟨c, 2, none⟩ _ (by simp)).trans c2
  have c0' := World.cell?_setCell_same w ⟨c, 0, none⟩ (.int .i32 1) c0
  have h63 : n + 1 ≤ maxLen := by unfold maxLen; omega
  have hs : (w.setCell ⟨c, 0, none⟩ (.int .i32 1)).heap.size = w.heap.size := by simp [World.setCell]
  go_enter_defers Yba.func5, Yba.ntmps5
  go_wp2_with (first
    | (go_at_call 7; refine (lock_free Yba.muLib ⟨c, 0, none⟩ _ c0 f0).mono ?_; rintro e w' ⟨rfl, rfl⟩)
    | (at_builtin; refine wpList_append_lies _ rfl _ _ 32 rfl base 37 i0 .nilIface 1 16 Yba.underlying32 hi0 hz0 hz1 hz2 rfl (by decide) ov n xs rfl (hown1.alloc _) ⟨w.heap.size, 0, none⟩ 1 1 [.iface 35 (.pointer (some ⟨p, 0, none⟩))] rfl rfl ?hnews ?h1c (by decide) h63 ?hby ?hba (w.heap.size + 1) ?hH ?_))
  case hnews => intro j u hu; rw [← hs]; exact World.news_of_block (heap_alloc_new _ _) j u hu
  case h1c => simp [Value.oneCell']
  case hby => omega
  case hba => simp [hs]; omega
  case hH => simp
  intro g cap w1 hown2 hgrow hat hglt
  have hlt2 : c < ((w.setCell ⟨c, 0, none⟩ (.int .i32 1)).alloc (.cells #[.iface 35 (.pointer (some ⟨p, 0, none⟩))] 37)).heap.size := by simp; omega
  have hlt1 : c < (w.setCell ⟨c, 0, none⟩ (.int .i32 1)).heap.size := by rw [hs]; exact hlt
  have d2 : w1.cell? ⟨c, 2, none⟩ = some ov := (hgrow.cell_far ⟨c, 2, none⟩ hlt2 (Ne.symm hoc)).trans ((World.cell?_alloc_past _ _ _ hlt1).trans c2')
  have d0 : w1.cell? ⟨c, 0, none⟩ = some (.int .i32 1) := (hgrow.cell_far ⟨c, 0, none⟩ hlt2 (Ne.symm hoc)).trans ((World.cell?_alloc_past _ _ _ hlt1).trans c0')
  have e2 : w1.frozen? ⟨c, 2, none⟩ = false := (hgrow.frozen_far ⟨c, 2, none⟩ hlt2 (Ne.symm hoc)).trans (by rw [frozen?_alloc_cells]; simp [f2])
  have e0 : w1.frozen? ⟨c, 0, none⟩ = false := (hgrow.frozen_far ⟨c, 0, none⟩ hlt2 (Ne.symm hoc)).trans (by rw [frozen?_alloc_cells]; simp [f0])
  have HG : Hid (((w.setCell ⟨c, 0, none⟩ (.int .i32 1)).alloc (.cells #[.iface 35 (.pointer (some ⟨p, 0, none⟩))] 37)).grownBy w1 ov.ownBlock) := hgrow
  have HA : Hid (ov.ownBlock = some g ∨ g = w.heap.size + 1) := hat
  clear hgrow hat hs c0' c2' hown1 hown
  go_wp2_with fail
  refine leaves_cons (f := 8) (args := #[.pointer (some ⟨c, 0, none⟩)]) (by simp) (by simp [go_sem]) ?_
  refine (unlock_deferred Yba.muLib ⟨c, 0, none⟩ .returning _ ?_ ?_).mono ?_
  · exact (World.cell?_setCell_other _ ⟨c, 2, none⟩ ⟨c, 0, none⟩ _ (by simp)).trans d0
  · simp [e0]
  rintro e u' w'' ⟨rfl, rfl, rfl⟩
  exact ⟨_, results_tmp rfl _ _ _, rfl, g, cap, w1, rfl, hown2, HG.out, HA.out, hglt⟩

end Go.Proofs.Ybulkdbxq
