/-
  LawS5164BScript's walk (function 4).
-/
import Derived.Test.YbulkdbxqScriptPlain
import Derived.Test.YbulkdbxqAddEnd
import Derived.Deep.QuietTactic
import Derived.BigQuiet
namespace Go.Proofs.Ybulkdbxq
open Go.RowKit Go.MuLone

theorem info35s : (Yba.prog.info? 35).map (fun i => (i.zero, i.size, i.bytes)) = some (some (.pointer none), 1, 8) := by kernel_rfl
theorem info3s : (Yba.prog.info? 3).map (fun i => (i.zero, i.size, i.bytes)) = some (some (.int .i64 0), 1, 8) := by kernel_rfl
theorem cell_heap_s {a b : World} (h : a.heap = b.heap) (x : Addr) : a.cell? x = b.cell? x := by simp [World.cell?, h]

/-- The loop's relation. -/
def Rel (w : World) (len : Nat) (v4 v5 v6 v7 v24 : Value) (wr : World) : Prop :=
  ∃ (t m : Nat) (ps : Nat → Nat) (es : Nat → Int) (js : List Nat) (am : Option Addr) (cm : Nat) (ae : Option Addr) (ce : Nat) (aq : Option Addr) (cq : Nat) (ov : Value) (shut : Bool), t ≤ len ∧ v24 = .int .i64 t ∧
    v4 = .slice am m cm ∧ v5 = .slice ae m ce ∧ v6 = .slice aq js.length cq ∧ v7 = .bool shut ∧ St w.heap.size w wr t m ps es js (.slice am m cm) (.slice ae m ce) (.slice aq js.length cq) ov shut

set_option maxRecDepth 10000 in
set_option maxHeartbeats 4000000 in
theorem script_law (a0 : Option Addr) (len cap b0 o0 : Nat) (zs : List Int) (w : World) (hlen : len ≤ 1024) (ha : 0 < len → a0 = some ⟨b0, o0, none⟩)
    (hc : ∀ i, i < len → w.cell? ⟨b0, o0 + i, none⟩ = some (.int .u8 (zs.getD i 0))) (hz : ∀ i, i < len → 0 ≤ zs.getD i 0 ∧ zs.getD i 0 ≤ 255) :
    Calls Yba.prog 4 #[.slice a0 len cap] w fun e w' => e = .returned (.bool true) ∧ Below w.heap.size w w' := by
  go_enter Yba.func4, Yba.ntmps4
  go_wp2
  go_loopw [4, 5, 6, 7, 24] (fun v4 v5 v6 v7 v24 wr => Rel w len v4 v5 v6 v7 v24 wr) (fun _ _ _ _ v24 _ => len - (intOf v24).toNat)
  case atStart => exact ⟨0, 0, fun _ => 0, fun _ => 0, [], none, 0, none, 0, none, 0, .slice none 0 0, false, Nat.zero_le _, rfl, rfl, rfl, rfl, rfl, st_start w _ _⟩
  case round =>
    obtain ⟨t, m, ps, es, js, am, cm, ae, ce, aq, cq, ov, shut, htl, rfl, rfl, rfl, rfl, rfl, hS⟩ := hrel
    by_cases hlt : t < len
    · obtain rfl : a0 = some ⟨b0, o0, none⟩ := ha (by omega)
      have hcl := hc t hlt
      have hb0 : b0 < w.heap.size := World.block_lt_of_cell? _ _ hcl
      have ht0 := (hS.bel.cell (p := ⟨b0, o0 + t, none⟩) hb0).trans hcl
      obtain ⟨z0, z1⟩ := hz t hlt
      rw [List.getD_eq_getElem?_getD] at ht0 z0 z1
      clear hcl hc hz
      generalize zs[t]?.getD 0 = z at ht0 z0 z1
      have hmt := hS.mt
      have hjt := hS.jt
      have hsz := hS.size
      cases hev : (z % 2 == 0)
      · have heb : ∀ i, i < m → 0 ≤ es i ∧ es i ≤ 100000000 := fun i hi => by have := hS.eb i hi; omega
        go_wp2_with fail
        refine (closeAll_any w.heap.size m (w.heap.size + 1) ps es js ov shut wr hS.c hS.opens hS.jm hS.conns hS.inj (by omega) heb).mono ?_
        rintro e W1 ⟨rfl, c1, p1, k1⟩
        have hR0 := hS.raise_start k1
        have HCL : Hid (∀ W2, Raised w.heap.size m es js (.slice ae m ce) W1 W2 js.length → St w.heap.size w W2 (t + 1) m ps (bump es js) js (.slice am m cm) (.slice ae m ce) (.slice aq js.length cq) ov true) := fun W2 hr => hS.closed (by omega) c1 p1 k1 hr
        have HRR : Hid (∀ (wx : World) (k : Nat), Raised w.heap.size m es js (.slice ae m ce) W1 wx k → k < js.length → ∃ (gq ge j : Nat) (z : Int), aq = some ⟨gq, 0, none⟩ ∧ ae = some ⟨ge, 0, none⟩ ∧ j < m ∧ 0 ≤ z ∧ z ≤ 100000000 ∧ wx.cell? ⟨gq, k, none⟩ = some (.int .i64 (j : Int)) ∧ wx.cell? ⟨ge, j, none⟩ = some (.int .i64 z) ∧ wx.frozen? ⟨ge, j, none⟩ = false ∧
            Hid (Raised w.heap.size m es js (.slice ae m ce) W1 (wx.setCell ⟨ge, j, none⟩ (.int .i64 (z + 1))) (k + 1))) := fun wx k hR hk => hS.raise_round (by omega) k1 hR hk
        clear hS c1 p1 k1 heb ht0
        go_wp2_with fail
        go_loopw [62] (fun i wr => ∃ k : Nat, k ≤ js.length ∧ i = .int .i64 k ∧ Raised w.heap.size m es js (.slice ae m ce) W1 wr k) (fun i _ => js.length - (intOf i).toNat)
        case atStart => exact ⟨0, Nat.zero_le _, rfl, hR0⟩
        case round =>
          obtain ⟨k, hk, rfl, hR⟩ := hrel
          by_cases hkl : k < js.length
          · obtain ⟨gq, ge, j, y, rfl, rfl, hjm, y0, y1, t1, t2, t3, HN⟩ := HRR.out _ _ hR hkl
            have jj : (j : Int) < (m : Int) := by omega
            have kk : (k : Int) < (js.length : Int) := by omega
            clear HCL HRR hR hR0
            go_wp2
            go_roundw
            case rel => exact ⟨k + 1, by omega, by go_num, HN.out⟩
            case measure => simp [intOf]; omega
          · obtain rfl : k = js.length := by omega
            have hfin := HCL.out _ hR
            clear HCL HRR hR hR0
            go_wp2
            go_roundw
            case rel => exact ⟨t + 1, m, _, _, js, am, cm, ae, ce, aq, cq, _, true, by omega, by go_num, rfl, rfl, rfl, rfl, hfin⟩
            case measure => simp [intOf]; omega
      · cases shut
        · have hmade := (hS.laid (conn 0)).made
          have tok1 : True := trivial
          go_wp2_with (at_builtin; have _t := tok1; refine append_one (wr.alloc (conn 0)) rfl _ _ 23 rfl (w.heap.size + 1) 35 (.pointer none) 8 Yba.underlying23 info35s rfl (.slice am m cm) m _ rfl hmade (.pointer (some ⟨wr.heap.size, 0, none⟩)) rfl (wr.heap.size + 1) (by simp) rfl (by omega) (by omega) (by simp; omega) ?_; intro g1 c1 W1 o1 k1 l1; clear tok1)
          clear hmade
          obtain ⟨s1, a1, a2, a3, a4, a5, a6, a7⟩ := hS.after_made k1
          refine (add_took w.heap.size wr.heap.size (w.heap.size + 1) ov js.length _ W1 a1 a2 s1 (by omega)).mono ?_
          rintro e W2 ⟨rfl, g2, c2, hc2, o2, k2⟩
          have e2 := row3_took a1 a2 k2 a4
          have q2 := row3_took a1 a2 k2 a5
          have s2 := Nat.le_trans s1 k2.size
          clear a1 a2 a3 a4 a5 a6 a7 ht0
          have tok2 : True := trivial
          go_wp2_with (first
            | (at_builtin; have _t := tok2; refine append_one W2 rfl _ _ 43 rfl (w.heap.size + 1) 3 (.int .i64 0) 8 Yba.underlying43 info3s rfl (.slice ae m ce) m _ rfl e2 (.int .i64 0) rfl W2.heap.size rfl rfl (by omega) (by omega) (by omega) ?_; intro g3 c3 W3 o3 k3 l3; have q3 := k3.row q2 (fun g hg e => hS.off g e hg); have s3 := Nat.le_trans s2 k3.size; clear tok2; have tok3 : True := trivial)
            | (at_builtin; have _t := tok3; refine append_one W3 rfl _ _ 43 rfl (w.heap.size + 1) 3 (.int .i64 0) 8 Yba.underlying43 info3s rfl (.slice aq js.length cq) js.length _ rfl q3 (.int .i64 (m : Int)) rfl W3.heap.size rfl rfl (by omega) (by omega) (by omega) ?_; intro g4 c4 W4 o4 k4 l4; clear tok3))
          have hfin := hS.took o1 k1 hc2 o2 k2 o3 k3 l3 o4 k4 l4
          clear e2 q2 q3 o1 k1 hc2 o2 k2 o3 k3 o4 k4
          go_roundw
          case rel => exact ⟨t + 1, m + 1, _, _, js ++ [m], some ⟨g1, 0, none⟩, c1, some ⟨g3, 0, none⟩, c3, some ⟨g4, 0, none⟩, c4, _, false, by omega, by go_num, rfl, rfl, by simp, rfl, by simpa using hfin⟩
          case measure => simp [intOf]; omega
        · have hmade := (hS.laid (conn 0)).made
          have tok1 : True := trivial
          go_wp2_with (at_builtin; have _t := tok1; refine append_one (wr.alloc (conn 0)) rfl _ _ 23 rfl (w.heap.size + 1) 35 (.pointer none) 8 Yba.underlying23 info35s rfl (.slice am m cm) m _ rfl hmade (.pointer (some ⟨wr.heap.size, 0, none⟩)) rfl (wr.heap.size + 1) (by simp) rfl (by omega) (by omega) (by simp; omega) ?_; intro g1 c1 W1 o1 k1 l1; clear tok1)
          clear hmade
          obtain ⟨s1, a1, a2, a3, a4, a5, a6, a7⟩ := hS.after_made k1
          refine (add_shut w.heap.size wr.heap.size ov 0 (by omega) (by omega) W1 a1 a3).mono ?_
          rintro e W2 ⟨rfl, hc2, hp2, k2⟩
          have e2 := row3_shut a1 a3 k2 a4
          have s2 := Nat.le_trans s1 k2.size
          clear a1 a2 a3 a4 a5 a6 a7 ht0
          have tok2 : True := trivial
          go_wp2_with (at_builtin; have _t := tok2; refine append_one W2 rfl _ _ 43 rfl (w.heap.size + 1) 3 (.int .i64 0) 8 Yba.underlying43 info3s rfl (.slice ae m ce) m _ rfl e2 (.int .i64 1) rfl W2.heap.size rfl rfl (by omega) (by omega) (by omega) ?_; intro g3 c3 W3 o3 k3 l3; clear tok2)
          have hfin := hS.refused o1 k1 hc2 hp2 k2 o3 k3 l3
          clear e2 o1 k1 hc2 hp2 k2 o3 k3
          go_roundw
          case rel => exact ⟨t + 1, m + 1, _, _, js, some ⟨g1, 0, none⟩, c1, some ⟨g3, 0, none⟩, c3, aq, cq, _, true, by omega, by go_num, rfl, rfl, rfl, rfl, hfin⟩
          case measure => simp [intOf]; omega
    · obtain rfl : t = len := by omega
      obtain ⟨ao, co, rfl⟩ := owns_form hS.opens
      have d3 : wr.cell? ⟨w.heap.size, 3, none⟩ = some (.bool shut) := by rw [cell_of_row _ _ _ _ _ _ hS.c]; rfl
      have d2 : wr.cell? ⟨w.heap.size, 2, none⟩ = some (.slice ao js.length co) := by rw [cell_of_row _ _ _ _ _ _ hS.c]; rfl
      have hbel := hS.bel
      have hmt := hS.mt
      have hjt := hS.jt
      have L3 : Hid (∀ k, k < js.length → ∃ (gq go gm j p : Nat), aq = some ⟨gq, 0, none⟩ ∧ ao = some ⟨go, 0, none⟩ ∧ am = some ⟨gm, 0, none⟩ ∧ j < m ∧ wr.cell? ⟨gq, k, none⟩ = some (.int .i64 (j : Int)) ∧ wr.cell? ⟨go, k, none⟩ = some (ifc p) ∧ wr.cell? ⟨gm, j, none⟩ = some (ptr p)) := hS.look3
      have L4 : Hid (∀ i, i < m → ∃ (gm ge p : Nat) (z : Int), am = some ⟨gm, 0, none⟩ ∧ ae = some ⟨ge, 0, none⟩ ∧ wr.cell? ⟨gm, i, none⟩ = some (ptr p) ∧ wr.cell? ⟨p, 1, none⟩ = some (.int .i64 z) ∧ wr.cell? ⟨ge, i, none⟩ = some (.int .i64 z)) := hS.look4
      clear hS hc hz
      have hnq := neq_ifc
      go_wp2
      clear d3
      go_loopw [92] (fun i wx => ∃ k : Nat, k ≤ js.length ∧ i = .int .i64 k ∧ wx.heap = wr.heap ∧ Below w.heap.size w wx) (fun i _ => js.length - (intOf i).toNat)
      case atStart => exact ⟨0, Nat.zero_le _, rfl, rfl, hbel⟩
      case round =>
        obtain ⟨k, hk, rfl, hheap, hbx⟩ := hrel
        by_cases hkl : k < js.length
        · obtain ⟨gq, go, gm, j, p, rfl, rfl, rfl, hjm, x1, x2, x3⟩ := L3.out k hkl
          have t1 : wr.cell? ⟨gq, k, none⟩ = some (.int .i64 (j : Int)) := (cell_heap_s hheap _).trans x1
          have t2 : wr.cell? ⟨go, k, none⟩ = some (.iface 35 (.pointer (some ⟨p, 0, none⟩))) := (cell_heap_s hheap _).trans x2
          have t3 : wr.cell? ⟨gm, j, none⟩ = some (.pointer (some ⟨p, 0, none⟩)) := (cell_heap_s hheap _).trans x3
          have t4 : wr.cell? ⟨w.heap.size, 2, none⟩ = some (.slice (some ⟨go, 0, none⟩) js.length co) := (cell_heap_s hheap _).trans d2
          have HH : Hid (wr.heap = _) := hheap
          have k0 : (0 : Int) ≤ (k : Int) := Int.natCast_nonneg _
          have k1 : (k : Int) < (js.length : Int) := by omega
          have j0 : (0 : Int) ≤ (j : Int) := Int.natCast_nonneg _
          have j1 : (j : Int) < (m : Int) := by omega
          clear hheap x1 x2 x3 d2 L3 L4 hbel
          go_wp2
          go_quiet (fail)
          go_wp2
          go_roundw
          case rel => exact ⟨k + 1, by omega, by go_num, HH.out, ⟨hbx.os, hbx.tape, hbx.output, hbx.size, hbx.block⟩⟩
          case measure => simp [intOf]; omega
        · have HH : Hid (wr.heap = _) := hheap
          clear hheap L3 hnq d2 hbel
          go_wp2
          go_loopw [16] (fun i wx => ∃ q : Nat, q ≤ m ∧ i = .int .i64 q ∧ Hid (wx.heap = wr.heap) ∧ Below w.heap.size w wx) (fun i _ => m - (intOf i).toNat)
          case atStart => exact ⟨0, Nat.zero_le _, rfl, rfl, hbx⟩
          case round =>
            obtain ⟨q, hq, rfl, H2, hby⟩ := hrel
            by_cases hql : q < m
            · obtain ⟨gm, ge, p, y, rfl, rfl, x1, x2, x3⟩ := L4.out q hql
              have t1 : wr.cell? ⟨gm, q, none⟩ = some (.pointer (some ⟨p, 0, none⟩)) := (cell_heap_s (H2.out.trans HH.out) _).trans x1
              have t2 : wr.cell? ⟨p, 1, none⟩ = some (.int .i64 y) := (cell_heap_s (H2.out.trans HH.out) _).trans x2
              have t3 : wr.cell? ⟨ge, q, none⟩ = some (.int .i64 y) := (cell_heap_s (H2.out.trans HH.out) _).trans x3
              have q0 : (0 : Int) ≤ (q : Int) := Int.natCast_nonneg _
              have q1 : (q : Int) < (m : Int) := by omega
              clear x1 x2 x3 L4 HH hbx
              go_wp2
              go_quiet (fail)
              go_wp2
              go_roundw
              case rel => exact ⟨q + 1, by omega, by go_num, H2, ⟨hby.os, hby.tape, hby.output, hby.size, hby.block⟩⟩
              case measure => simp [intOf]; omega
            · clear L4 HH hbx H2
              go_wp2
              go_ret
              exact ⟨rfl, hby⟩

end Go.Proofs.Ybulkdbxq
