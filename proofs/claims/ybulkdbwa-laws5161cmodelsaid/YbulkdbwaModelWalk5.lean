/-
  THE LAW's WALK (function 5), both slices within 1024 elements and none empty; and the ways around it.
-/
import Derived.Test.YbulkdbwaModelWalk15
import Derived.WalkKit
import Derived.WalkSpells
import Derived.RegionTactic
import Derived.ChangeAlike
import Derived.Below
namespace Go.Proofs.Ybulkdbwa
open Go.RowKit

theorem law9 : Maps.Keyed Yba.prog 9 := Maps.string_keyed Yba.underlying9
theorem zero2 (w : World) : (zeroValue 2).run Yba.prog w = .ok (.int .i64 0) w := by kernel_rfl
theorem mk111 (n : Int) (w : World) : (Instr.makeMap 111 (some (.int .i64 n))).run Yba.prog w = .ok (.map (some w.heap.size)) (w.alloc (.map #[] 0)) := by kernel_rfl
theorem cell0 (u : World) (s : ByteArray) (m : Option Nat) :
    (u.alloc (.cells ((Yba.zeroCells130.setIfInBounds 0 (.string s)).setIfInBounds 1 (.map m)) 130)).cell? ⟨u.heap.size, 0, none⟩ = some (.string s) := by
  simp [World.cell?_alloc_new]
theorem cell1 (u : World) (s : ByteArray) (m : Option Nat) :
    (u.alloc (.cells ((Yba.zeroCells130.setIfInBounds 0 (.string s)).setIfInBounds 1 (.map m)) 130)).cell? ⟨u.heap.size, 1, none⟩ = some (.map m) := by
  simp [World.cell?_alloc_new]

/-- Both contracts in one Bool each. -/
theorem follows_any (b : Nat) (sid qid : ByteArray) (rev : Int) (m : Option Nat) (c : Int) (ok : Bool) (w : World) (h0 : w.cell? ⟨b, 0, none⟩ = some (.string sid)) (h1 : w.cell? ⟨b, 1, none⟩ = some (.map m))
    (hrun : (Instr.lookup 111 (.map m) (.string qid) true).run Yba.prog w = .ok (.tuple #[.int .i64 c, .bool ok]) w) :
    Calls Yba.prog 14 #[.pointer (some ⟨b, 0, none⟩), .string qid, .int .i64 rev] w fun e w' => e = .returned (.bool ((qid.toList == sid.toList) || (ok && decide (rev ≤ c)))) ∧ w' = w := by
  cases h : (qid.toList == sid.toList)
  · simpa using follows_other b sid qid rev m c ok w h0 h1 h hrun
  · have e : qid = sid := by
      have e0 := bytes_eq h
      cases qid; cases sid; simp at e0; rw [e0]
    subst e
    simpa using follows_own b qid rev w h0

theorem model_any (sid : ByteArray) (b1 o1 l1 c1 b2 o2 l2 c2 : Nat) (n : Nat) (qid : ByteArray) (rev : Int) (ss : List ByteArray) (zs : List Int) (w : World)
    (hn1 : n ≤ l1) (hn2 : n ≤ l2) (hn : n ≤ 1024)
    (hc1 : ∀ i, i < n → w.cell? ⟨b1, o1 + i, none⟩ = some (.string (ss.getD i ByteArray.empty)))
    (hc2 : ∀ i, i < n → w.cell? ⟨b2, o2 + i, none⟩ = some (.int .i64 (zs.getD i 0))) :
    Calls Yba.prog 15 #[.string sid, .slice (some ⟨b1, o1, none⟩) l1 c1, .slice (some ⟨b2, o2, none⟩) l2 c2, .int .i64 n, .string qid, .int .i64 rev] w
      fun e w' => e = .returned (.bool ((qid.toList == sid.toList) || ((scan ss zs qid n).1 && decide (rev ≤ (scan ss zs qid n).2)))) ∧ w' = w := by
  cases h : (qid.toList == sid.toList)
  · simpa using model_scan sid b1 o1 l1 c1 b2 o2 l2 c2 n qid rev ss zs w h hn1 hn2 hn hc1 hc2
  · simpa using model_own sid (some ⟨b1, o1, none⟩) l1 c1 (some ⟨b2, o2, none⟩) l2 c2 n qid rev w h

theorem model_none_any (sid : ByteArray) (k1 : Option Addr) (l1 c1 : Nat) (k2 : Option Addr) (l2 c2 : Nat) (qid : ByteArray) (rev : Int) (w : World) :
    Calls Yba.prog 15 #[.string sid, .slice k1 l1 c1, .slice k2 l2 c2, .int .i64 0, .string qid, .int .i64 rev] w fun e w' => e = .returned (.bool ((qid.toList == sid.toList) || (false && decide (rev ≤ 0)))) ∧ w' = w := by
  cases h : (qid.toList == sid.toList)
  · simpa using model_none sid k1 l1 c1 k2 l2 c2 qid rev w h
  · simpa using model_own sid k1 l1 c1 k2 l2 c2 0 qid rev w h

/-- What the look-up gives in the map as built. -/
theorem look_built {u : World} {B n : Nat} {ss : List ByteArray} {zs : List Int} (hown : u.ownsMap Yba.prog 9 (plainElem Yba.prog 2) B n (built ss zs n)) (q : ByteArray) (hq : q.size ≤ maxLen) :
    (Instr.lookup 111 (.map (some B)) (.string q) true).run Yba.prog u = .ok (.tuple #[.int .i64 (scan ss zs q n).2, .bool (scan ss zs q n).1]) u := by
  obtain ⟨v, ps, hr, hv⟩ := hown.look_ok law9 Yba.underlying111 (zero2 _) (plainElem_int (H := Unit) Yba.underlying2 (a := 0) (by decide)) (WideMaps.keyOf_string_mk Yba.underlying9 hq)
  obtain ⟨i1, i2⟩ := built_scan ss zs q n
  obtain ⟨c, rfl, hc, _⟩ := plainElem_int_inv Yba.underlying2 hv
  rw [i2] at hc
  simp at hc
  rw [hr, i1, hc.1]

/-- One store into the map as built. -/
theorem store_built {u : World} {B k : Nat} {ss : List ByteArray} {zs : List Int} (hown : u.ownsMap Yba.prog 9 (plainElem Yba.prog 2) B k (built ss zs k)) (hk : k < 1024)
    (hs : (ss.getD k ByteArray.empty).size ≤ maxLen) (hz : (Lit.int .i64 (zs.getD k 0)).wf = true) :
    ∃ u', (Instr.mapUpdate 111 (.map (some B)) (.string (ss[k]?.getD ByteArray.empty)) (.int .i64 (zs[k]?.getD 0))).run Yba.prog u = .ok () u' ∧ u'.ownsMap Yba.prog 9 (plainElem Yba.prog 2) B (k + 1) (built ss zs (k + 1)) ∧ u.grownBy u' (some B) := by
  have := hown.update law9 Yba.underlying111 (by unfold maxLen; omega) (WideMaps.keyOf_string_mk Yba.underlying9 hs) (plainElem_int Yba.underlying2 hz)
  simpa [built] using this

set_option maxRecDepth 10000 in
set_option maxHeartbeats 2000000 in
/-- Both slices hold something. n: the shorter length; q: the ID that is asked for. -/
theorem law_pos (sid : ByteArray) (b1 o1 l1 c1 b2 o2 l2 c2 : Nat) (qid : ByteArray) (pick : Int) (rev : Int) (ss : List ByteArray) (zs : List Int) (w : World) (n : Nat) (q : ByteArray)
    (hl1 : l1 ≤ 1024) (hl2 : l2 ≤ 1024) (hp1 : 0 < l1) (hp2 : 0 < l2) (hpk0 : 0 ≤ pick) (hpk1 : pick ≤ 255)
    (hn : (l2 < l1 ∧ n = l2) ∨ (l1 ≤ l2 ∧ n = l1))
    (hq : ((pick % 2 == 1) = false ∧ q = qid) ∨ ((pick % 2 == 1) = true ∧ w.cell? ⟨b1, o1 + (pick / 2 % (n : Int)).toNat, none⟩ = some (.string q)))
    (hqs : q.size ≤ maxLen)
    (hc1 : ∀ i, i < l1 → w.cell? ⟨b1, o1 + i, none⟩ = some (.string (ss.getD i ByteArray.empty)))
    (hc2 : ∀ i, i < l2 → w.cell? ⟨b2, o2 + i, none⟩ = some (.int .i64 (zs.getD i 0)))
    (hs : ∀ i, i < l1 → (ss.getD i ByteArray.empty).size ≤ maxLen) (hz : ∀ i, i < l2 → (Lit.int .i64 (zs.getD i 0)).wf = true) :
    Calls Yba.prog 5 #[.string sid, .slice (some ⟨b1, o1, none⟩) l1 c1, .slice (some ⟨b2, o2, none⟩) l2 c2, .string qid, .int .u8 pick, .int .i64 rev] w
      fun e w' => e = .returned (.bool true) ∧ Below w.heap.size w w' := by
  have hB1 : b1 < w.heap.size := World.block_lt_of_cell? _ _ (hc1 0 hp1)
  have hB2 : b2 < w.heap.size := World.block_lt_of_cell? _ _ (hc2 0 hp2)
  have hnn : 0 < n := by omega
  have hm0 : 0 ≤ pick / 2 % (n : Int) := Int.emod_nonneg _ (by omega)
  have hm1 : pick / 2 % (n : Int) < (n : Int) := Int.emod_lt_of_pos _ (by omega)
  have hmk := mk111
  rcases hn with ⟨hlt, hn⟩ | ⟨hlt, hn⟩ <;> rcases hq with ⟨hpk, hq⟩ | ⟨hpk, hcq⟩ <;> subst hn
  all_goals try subst hq
  all_goals
    go_enter Yba.func5, Yba.ntmps5
    go_wp2
    go_loopw [16] (fun i wr => ∃ k : Nat, k ≤ n ∧ i = .int .i64 k ∧ wr.ownsMap Yba.prog 9 (plainElem Yba.prog 2) w.heap.size k (built ss zs k) ∧ Below w.heap.size w wr) (fun i _ => n - (intOf i).toNat)
    case atStart => exact ⟨0, Nat.zero_le _, rfl, World.ownsMap_made _ _ _ _, (Below.refl _ _).alloc (Nat.le_refl _) _⟩
    case round =>
      obtain ⟨k, hk, rfl, hown, hb⟩ := hrel
      by_cases hkl : k < n
      · have g1 := (hb.cell (p := ⟨b1, o1 + k, none⟩) hB1).trans (hc1 k (by omega))
        have g2 := (hb.cell (p := ⟨b2, o2 + k, none⟩) hB2).trans (hc2 k (by omega))
        rw [List.getD_eq_getElem?_getD] at g1 g2
        obtain ⟨u, hrun, hown', hg⟩ := store_built (u := wr.drew) hown (by omega) (hs k (by omega)) (hz k (by omega))
        clear hc1 hc2 hs hz
        go_wp2
        go_region
        go_wp2
        go_roundw
        case rel => exact ⟨k + 1, by omega, by go_num, hown', hb.drew.grown hg (by exact hb.size) (fun j hj => by cases hj; exact Nat.le_refl _)⟩
        case measure => simp [intOf]; omega
      · obtain rfl : k = n := by omega
        have g1 : ∀ o i, i < k → (wr.alloc o).cell? ⟨b1, o1 + i, none⟩ = some (.string (ss.getD i ByteArray.empty)) := fun o i hi => (World.cell?_alloc_past _ _ _ (Nat.lt_of_lt_of_le hB1 hb.size)).trans ((hb.cell (p := ⟨b1, o1 + i, none⟩) hB1).trans (hc1 i (by omega)))
        have g2 : ∀ o i, i < k → (wr.alloc o).cell? ⟨b2, o2 + i, none⟩ = some (.int .i64 (zs.getD i 0)) := fun o i hi => (World.cell?_alloc_past _ _ _ (Nat.lt_of_lt_of_le hB2 hb.size)).trans ((hb.cell (p := ⟨b2, o2 + i, none⟩) hB2).trans (hc2 i (by omega)))
        clear hc1 hc2 hs hz
        have G1 : Hid (∀ o i, i < k → (wr.alloc o).cell? ⟨b1, o1 + i, none⟩ = some (.string (ss.getD i ByteArray.empty))) := g1
        have G2 : Hid (∀ o i, i < k → (wr.alloc o).cell? ⟨b2, o2 + i, none⟩ = some (.int .i64 (zs.getD i 0))) := g2
        clear g1 g2
        go_wp2_with fail
        refine (follows_any _ _ _ _ _ _ _ _ (cell0 _ _ _) (cell1 _ _ _) (look_built (hown.alloc _) _ hqs)).mono ?_
        rintro e w' ⟨rfl, rfl⟩
        go_wp2_with fail
        refine (model_any _ _ _ _ _ _ _ _ _ k _ _ ss zs _ (by omega) (by omega) (by omega) (G1.out _) (G2.out _)).mono ?_
        rintro e w' ⟨rfl, rfl⟩
        go_wp2_with fail
        go_ret
        exact ⟨ret_bool (by simp), hb.alloc hb.size _⟩

theorem look_none (q : ByteArray) (hq : q.size ≤ maxLen) (u : World) : (Instr.lookup 111 (.map none) (.string q) true).run Yba.prog u = .ok (.tuple #[.int .i64 0, .bool false]) u := by
  simpa using Maps.look_nil (w := u) true law9 Yba.underlying111 (zero2 _) (WideMaps.keyOf_string_mk Yba.underlying9 hq)

set_option maxRecDepth 10000 in
set_option maxHeartbeats 1000000 in
/-- One of the two is empty. -/
theorem law_none (sid : ByteArray) (k1 : Option Addr) (l1 c1 : Nat) (k2 : Option Addr) (l2 c2 : Nat) (qid : ByteArray) (pick : Int) (rev : Int) (w : World)
    (hl1 : l1 ≤ 1024) (hl2 : l2 ≤ 1024) (hn : (l2 < l1 ∧ l2 = 0) ∨ l1 = 0) (hqs : qid.size ≤ maxLen) :
    Calls Yba.prog 5 #[.string sid, .slice k1 l1 c1, .slice k2 l2 c2, .string qid, .int .u8 pick, .int .i64 rev] w
      fun e w' => e = .returned (.bool true) ∧ Below w.heap.size w w' := by
  rcases hn with ⟨hlt, hn⟩ | hn <;> subst hn
  all_goals
    go_enter Yba.func5, Yba.ntmps5
    go_wp2_with fail
    refine (follows_any _ _ _ _ _ _ _ _ (cell0 _ _ _) (cell1 _ _ _) (look_none _ hqs _)).mono ?_
    rintro e w' ⟨rfl, rfl⟩
    go_wp2_with fail
    refine (model_none_any _ _ _ _ _ _ _ _ _ _).mono ?_
    rintro e w' ⟨rfl, rfl⟩
    go_wp2_with fail
    go_ret
    exact ⟨ret_bool (by simp), (Below.refl _ _).alloc (Nat.le_refl _) _⟩

set_option maxRecDepth 10000 in
set_option maxHeartbeats 1000000 in
/-- One of the two is too long. -/
theorem law_long (sid : ByteArray) (k1 : Option Addr) (l1 c1 : Nat) (k2 : Option Addr) (l2 c2 : Nat) (qid : ByteArray) (pick : Int) (rev : Int) (w : World)
    (hn : 1024 < l1 ∨ (l1 ≤ 1024 ∧ 1024 < l2)) :
    Calls Yba.prog 5 #[.string sid, .slice k1 l1 c1, .slice k2 l2 c2, .string qid, .int .u8 pick, .int .i64 rev] w
      fun e w' => e = .returned (.bool true) ∧ Below w.heap.size w w' := by
  rcases hn with hn | ⟨hn, hm⟩
  all_goals
    go_enter Yba.func5, Yba.ntmps5
    go_wp2
    go_ret
    exact ⟨rfl, Below.refl _ _⟩

end Go.Proofs.Ybulkdbwa
