/-
  LawS5164BAdd's walk (function 3), the conns open.
-/
import Derived.Test.YbulkdbxqAddEnd
import Derived.Deep.RegionLaw
import Derived.Deep.QuietTactic
import Derived.BigQuiet
namespace Go.Proofs.Ybulkdbxq
open Go.RowKit Go.MuLone

theorem info35_false : (Yba.prog.info? 35).map (fun i => (i.zero, i.size, i.bytes)) = some (some (.pointer none), 1, 8) := by kernel_rfl
theorem cell_heap_false {a b : World} (h : a.heap = b.heap) (x : Addr) : a.cell? x = b.cell? x := by simp [World.cell?, h]

set_option maxRecDepth 10000 in
set_option maxHeartbeats 4000000 in
theorem add_law_false (n : Nat) (hn : n ≤ 1024) (w : World) :
    Calls Yba.prog 3 #[.bool false, .int .u16 n] w fun e w' => e = .returned (.bool true) ∧ Below w.heap.size w w' := by
  have hmk := run_make_row' (P := Yba.prog) 23 35 (.pointer none) 8 Yba.underlying23 info35_false rfl .i64 .i64 n (by omega) (by omega)
  obtain ⟨i0, hi0, hz0, hz1, hz2⟩ := info_parts info37
  have hnq := neq_ifc
  go_enter Yba.func3, Yba.ntmps3
  go_wp2
  clear hmk
  go_loopw [8] (fun i wr => ∃ k : Nat, k ≤ n ∧ i = .int .i64 k ∧ Filled w.heap.size n false w wr k) (fun i _ => n - (intOf i).toNat)
  case atStart => exact ⟨0, Nat.zero_le _, rfl, filled_start n false w⟩
  case round =>
    obtain ⟨k, hk, rfl, hF⟩ := hrel
    by_cases hkl : k < n
    · obtain ⟨ov, xs, old, hcO, hfO, hltO, HR⟩ := filled_round hF hkl
      have ki0 : (0 : Int) ≤ (k : Int) := Int.natCast_nonneg _
      have ki1 : (k : Int) < (n : Int) := by omega
      clear hF hnq
      go_wp2
      generalize hW : (wr.setCell ⟨w.heap.size, k, none⟩ (.pointer (some ⟨wr.heap.size, 0, none⟩))).alloc (.cells #[.nilIface, .int .i64 0] 39) = W
      obtain ⟨b1, b2, b3, a3, n1, n2, hsz, HF⟩ := HR.out W hW
      have b1' : W.cell? ⟨w.heap.size, k, none⟩ = some (.pointer (some ⟨wr.heap.size, 0, none⟩)) := b1
      clear hW HR hcO hfO b1
      have b2' : ∀ o, (W.alloc o).cell? ⟨w.heap.size + 1, 2, none⟩ = some ov := fun o => (World.cell?_alloc_past _ _ _ (by omega)).trans b2
      go_region_law
        ((refine step_append_lies _ (by rfl) _ _ _ (by rfl) (w.heap.size + 2) 37 i0 _ 1 16 Yba.underlying32 hi0 hz0 hz1 hz2 rfl (by omega) ov k xs (by rfl) ((a3.alloc _).drew)
            ⟨W.heap.size, 0, none⟩ 1 1 [.iface 35 (.pointer (some ⟨wr.heap.size, 0, none⟩))] (by rfl) (by rfl) (World.news_of_block (cs := #[.iface 35 (.pointer (some ⟨wr.heap.size, 0, none⟩))]) (t := 37) (fr := (0, 0)) (heap_alloc_new W _)) (by simp [Value.oneCell'])
            (by omega) (by unfold maxLen; omega) (by omega) (by simp; omega) (W.heap.size + 1) (by simp) ?_; intro g cap w1 hown1 hgrow hat hlt; have d2 : w1.cell? ⟨w.heap.size + 1, 2, none⟩ = some ov := (hgrow.cell_far ⟨w.heap.size + 1, 2, none⟩ (by simp; omega) (Ne.symm n2)).trans ((World.cell?_alloc_past _ _ _ (by omega)).trans b2); have e3 : w1.frozen? ⟨w.heap.size + 1, 2, none⟩ = false := (hgrow.frozen_far ⟨w.heap.size + 1, 2, none⟩ (by simp; omega) (Ne.symm n2)).trans ((frozen?_alloc_cells W _ _ _).trans b3)))
      all_goals
        have hfin := HF.out _ w1 g cap (((Kept.refl (fun _ => False) W).alloc _).drew) hgrow hown1 hat
        clear HF hgrow hown1 hat a3 b2' b2 b3
        go_wp2
        go_roundw
        case rel => exact ⟨k + 1, by omega, by go_num, hfin⟩
        case measure => simp [intOf]; omega
    · obtain rfl : k = n := by omega
      obtain ⟨ao, cap, xs, cur, hC, hown, hbel, hsz, hao, hO, hxl, hx⟩ := filled_end hF
      clear hF hi0 hz0 hz1 hz2
      go_wp2_with fail
      refine (add_took (w.heap.size + 1) wr.heap.size (w.heap.size + 2) (.slice ao k cap) k xs _ ((Below.heap_alloc _ _ _ (by omega)).trans hC) (hown.alloc _) (by simp; omega) hn).mono ?_
      rintro e w2 ⟨rfl, g, cap2, hC2, hown2, hK⟩
      obtain ⟨d3, d2, dx, dg, hbel2, hseen⟩ := after_took hown hbel hsz hO hxl hx hC hC2 hown2 hK
      have dg' : w2.cell? ⟨g, k, none⟩ = some (.iface 35 (.pointer (some ⟨wr.heap.size, 0, none⟩))) := dg
      clear hown hbel hO hx hC hC2 hown2 hK hxl dg
      go_wp2_with fail
      go_loopw [11] (fun i wr => ∃ j : Nat, j ≤ k ∧ i = .int .i64 j ∧ wr.heap = w2.heap ∧ Below w.heap.size w wr) (fun i _ => k - (intOf i).toNat)
      case atStart => exact ⟨0, Nat.zero_le _, rfl, rfl, hbel2⟩
      case round =>
        obtain ⟨j, hj, rfl, hheap, hbx⟩ := hrel
        by_cases hjl : j < k
        · skip
          obtain ⟨p, s1, s2, s3⟩ := hseen j hjl
          have t1 : wr.cell? ⟨g, j, none⟩ = some (.iface 35 (.pointer (some ⟨p, 0, none⟩))) := (cell_heap_false hheap _).trans s1
          have t2 : wr.cell? ⟨w.heap.size, j, none⟩ = some (.pointer (some ⟨p, 0, none⟩)) := (cell_heap_false hheap _).trans s2
          have t3 : wr.cell? ⟨p, 1, none⟩ = some (.int .i64 0) := (cell_heap_false hheap _).trans s3
          have t4 : wr.cell? ⟨w.heap.size + 1, 2, none⟩ = some (.slice (some ⟨g, 0, none⟩) (k + 1) cap2) := (cell_heap_false hheap _).trans d2
          have HH : Hid (wr.heap = w2.heap) := hheap
          have ji0 : (0 : Int) ≤ (j : Int) := Int.natCast_nonneg _
          have ji1 : (j : Int) < (k : Int) := by omega
          clear hheap hseen s1 s2 s3 d2 d3 dx hbel2 dg'
          go_wp2
          go_quiet (fail)
          go_wp2
          go_roundw
          case rel => exact ⟨j + 1, by omega, by go_num, HH.out, ⟨hbx.os, hbx.tape, hbx.output, hbx.size, hbx.block⟩⟩
          case measure => simp [intOf]; omega
        · clear hseen hheap
          go_wp2
          go_ret
          exact ⟨rfl, hbx⟩

end Go.Proofs.Ybulkdbxq
